import JvmDerived
import JvmDerived.Pilot.@@N@@Statement
import JvmDerived.Pilot.@@N@@Code
set_option linter.unusedVariables false
set_option linter.unusedSimpArgs false
@@BLOCK:NumsL.lean.txt@@
namespace Jvm.Pilot.@@N@@
open Jvm Jvm.ClassFile Sem Op Lib Jvm.Free Jvm.Stand Jvm.LawKit Jvm.RoadKit Bundle Jvm.Pilot.@@N@@.Jvm.D
section Own
variable {p : Program} {l : Launch} {e : Env} {R : Room} {s : State} {m : MethodId} {args : Array Value} {below : List Frame} {meth : Method} {c : Code} {T : State} {locs : List Loc} {cells slots : Nat} {Q : Option Value → Heap → List Loc → Prop} {kc ks : Nat} {G : State → Outcome → State → List Loc → Nat → Nat → Prop}
/-- the run from U returns; Q says of what it returned, of the heap and of the places written; kc, ks: how much it may have made -/
def own_Ends (p : Program) (e : Env) (below : List Frame) (s : State) (G : State → Outcome → State → List Loc → Nat → Nat → Prop) (Q : Option Value → Heap → List Loc → Prop) (kc ks : Nat) (U : State) : Prop :=
  ∃ s₂ o, Steps p.tables e below U s₂ ∧ s₂.status = .running ∧ Ended s₂ below o ∧ ∃ v L, o = .returned v ∧ Q v s₂.heap L ∧ G s o s₂ L kc ks
theorem own_of {U U' : State} (h : ∀ t, Steps p.tables e below U' t → Steps p.tables e below U t) (k : own_Ends p e below s G Q kc ks U') : own_Ends p e below s G Q kc ks U := by
  obtain ⟨s₂, o, h1, r⟩ := k
  exact ⟨s₂, o, h _ h1, r⟩
theorem own_eq {U U' : State} (h : U = U') (k : own_Ends p e below s G Q kc ks U') : own_Ends p e below s G Q kc ks U := h ▸ k
theorem own_retN (X : Stand p l e R s m args below meth c T locs cells slots) (hx : p.tables.exec = Jvm.exec) (hlk : meth.locks = false) {pc : Nat} {Ls : Array Slot} {z : Int32} {t : FieldType} {rest : List Value} (hret : meth.sig.returnType = some t) (ht : t = .boolean ∨ t = .byte ∨ t = .char ∨ t = .short)
    (hd : decode c.code pc = .ok (.ireturn, 1)) (hc : cells ≤ kc) (hs : slots ≤ ks) (hq : Q (some (.int (nar t z))) T.heap locs) : own_Ends p e below s FrameEnd Q kc ks (T.setTop (mkF m pc Ls (.int z :: rest))) := by
  obtain ⟨fs, hr, hrun, hended, hW, hsame⟩ := X.leave (v := some (.int (nar t z))) (fun h => by rw [hret] at h; cases h) hlk
  exact ⟨_, _, retN X hx hret ht hd hr, hrun, hended, _, _, rfl, hq, ⟨_, rfl⟩, hW, hsame.mono hc hs⟩
theorem own_retI (X : Stand p l e R s m args below meth c T locs cells slots) (hx : p.tables.exec = Jvm.exec) (hlk : meth.locks = false) {pc : Nat} {Ls : Array Slot} {z : Int32} {rest : List Value} (hret : meth.sig.returnType = some .int)
    (hd : decode c.code pc = .ok (.ireturn, 1)) (hc : cells ≤ kc) (hs : slots ≤ ks) (hq : Q (some (.int z)) T.heap locs) : own_Ends p e below s FrameEnd Q kc ks (T.setTop (mkF m pc Ls (.int z :: rest))) := by
  obtain ⟨fs, hr, hrun, hended, hW, hsame⟩ := X.leave (v := some (.int z)) (fun h => by rw [hret] at h; cases h) hlk
  exact ⟨_, _, retOut X hx hret rfl (Or.inl ⟨rfl, Or.inl rfl, _, rfl⟩) hd hr, hrun, hended, _, _, rfl, hq, ⟨_, rfl⟩, hW, hsame.mono hc hs⟩
theorem own_retL (X : Stand p l e R s m args below meth c T locs cells slots) (hx : p.tables.exec = Jvm.exec) (hlk : meth.locks = false) {pc : Nat} {Ls : Array Slot} {z : Int64} {rest : List Value} (hret : meth.sig.returnType = some .long)
    (hd : decode c.code pc = .ok (.lreturn, 1)) (hc : cells ≤ kc) (hs : slots ≤ ks) (hq : Q (some (.long z)) T.heap locs) : own_Ends p e below s FrameEnd Q kc ks (T.setTop (mkF m pc Ls (.long z :: rest))) := by
  obtain ⟨fs, hr, hrun, hended, hW, hsame⟩ := X.leave (v := some (.long z)) (fun h => by rw [hret] at h; cases h) hlk
  exact ⟨_, _, retOut X hx hret rfl (Or.inr (Or.inl ⟨rfl, rfl, _, rfl⟩)) hd hr, hrun, hended, _, _, rfl, hq, ⟨_, rfl⟩, hW, hsame.mono hc hs⟩
theorem own_retA (X : Stand p l e R s m args below meth c T locs cells slots) (hx : p.tables.exec = Jvm.exec) (hlk : meth.locks = false) {pc : Nat} {Ls : Array Slot} {w : Value} {t : FieldType} {rest : List Value} (hret : meth.sig.returnType = some t) (ht : t.isReference = true) (hw : w.isRef = true)
    (hd : decode c.code pc = .ok (.areturn, 1)) (hc : cells ≤ kc) (hs : slots ≤ ks) (hq : Q (some w) T.heap locs) : own_Ends p e below s FrameEnd Q kc ks (T.setTop (mkF m pc Ls (w :: rest))) := by
  obtain ⟨fs, hr, hrun, hended, hW, hsame⟩ := X.leave (v := some w) (fun h => by rw [hret] at h; cases h) hlk
  have hn : narrow t w = w := by cases t <;> first | (cases ht; done) | rfl | (cases w <;> rfl)
  exact ⟨_, _, retOut X hx hret hn (Or.inr (Or.inr (Or.inr (Or.inr ⟨rfl, ht, hw⟩)))) hd hr, hrun, hended, _, _, rfl, hq, ⟨_, rfl⟩, hW, hsame.mono hc hs⟩
theorem own_ret0 (X : Stand p l e R s m args below meth c T locs cells slots) (hx : p.tables.exec = Jvm.exec) (hlk : meth.locks = false) {pc : Nat} {Ls : Array Slot} (hret : meth.sig.returnType = none)
    (hd : decode c.code pc = .ok (.return_, 1)) (hc : cells ≤ kc) (hs : slots ≤ ks) (hq : Q none T.heap locs) : own_Ends p e below s FrameEnd Q kc ks (T.setTop (mkF m pc Ls [])) := by
  obtain ⟨fs, hr, hrun, hended, hW, hsame⟩ := X.leave (v := none) (fun _ => rfl) hlk
  exact ⟨_, _, X.returnOut hx hret hd hr, hrun, hended, _, _, rfl, hq, ⟨_, rfl⟩, hW, hsame.mono hc hs⟩
variable {vm₁ : Vm} {nS : Nat}
theorem own_monoW {t : State} {o : Outcome} {L : List Loc} {k n k' n' : Nat} (h : ReturnedEndW s o t L k n) (hk : k ≤ k') (hn : n ≤ n') : ReturnedEndW s o t L k' n' := ⟨h.1, h.2.1, h.2.2.1, h.2.2.2.mono hk hn⟩
theorem own_retNW (X : Stand p l e R (s.setVm vm₁) m args below meth c T locs cells slots) (hx : p.tables.exec = Jvm.exec) (hlk : meth.locks = false) (hS : s.Since vm₁ nS) (hk : nS ≤ T.heap.size) {pc : Nat} {Ls : Array Slot} {z : Int32} {t : FieldType} {rest : List Value} (hret : meth.sig.returnType = some t) (ht : t = .boolean ∨ t = .byte ∨ t = .char ∨ t = .short)
    (hd : decode c.code pc = .ok (.ireturn, 1)) (hc : cells ≤ kc) (hs : slots ≤ ks) (hq : Q (some (.int (nar t z))) T.heap locs) : own_Ends p e below s ReturnedEndW Q kc ks (T.setTop (mkF m pc Ls (.int z :: rest))) := by
  obtain ⟨fs, hr, hrun, hended, hW⟩ := X.leaveW hS hk (v := some (.int (nar t z))) (fun h => by rw [hret] at h; cases h) hlk
  exact ⟨_, _, retN X hx hret ht hd hr, hrun, hended, _, _, rfl, hq, own_monoW hW hc hs⟩
theorem own_retIW (X : Stand p l e R (s.setVm vm₁) m args below meth c T locs cells slots) (hx : p.tables.exec = Jvm.exec) (hlk : meth.locks = false) (hS : s.Since vm₁ nS) (hk : nS ≤ T.heap.size) {pc : Nat} {Ls : Array Slot} {z : Int32} {rest : List Value} (hret : meth.sig.returnType = some .int)
    (hd : decode c.code pc = .ok (.ireturn, 1)) (hc : cells ≤ kc) (hs : slots ≤ ks) (hq : Q (some (.int z)) T.heap locs) : own_Ends p e below s ReturnedEndW Q kc ks (T.setTop (mkF m pc Ls (.int z :: rest))) := by
  obtain ⟨fs, hr, hrun, hended, hW⟩ := X.leaveW hS hk (v := some (.int z)) (fun h => by rw [hret] at h; cases h) hlk
  exact ⟨_, _, retOut X hx hret rfl (Or.inl ⟨rfl, Or.inl rfl, _, rfl⟩) hd hr, hrun, hended, _, _, rfl, hq, own_monoW hW hc hs⟩
theorem own_retAW (X : Stand p l e R (s.setVm vm₁) m args below meth c T locs cells slots) (hx : p.tables.exec = Jvm.exec) (hlk : meth.locks = false) (hS : s.Since vm₁ nS) (hk : nS ≤ T.heap.size) {pc : Nat} {Ls : Array Slot} {w : Value} {t : FieldType} {rest : List Value} (hret : meth.sig.returnType = some t) (ht : t.isReference = true) (hw : w.isRef = true)
    (hd : decode c.code pc = .ok (.areturn, 1)) (hc : cells ≤ kc) (hs : slots ≤ ks) (hq : Q (some w) T.heap locs) : own_Ends p e below s ReturnedEndW Q kc ks (T.setTop (mkF m pc Ls (w :: rest))) := by
  obtain ⟨fs, hr, hrun, hended, hW⟩ := X.leaveW hS hk (v := some w) (fun h => by rw [hret] at h; cases h) hlk
  have hn : narrow t w = w := by cases t <;> first | (cases ht; done) | rfl | (cases w <;> rfl)
  exact ⟨_, _, retOut X hx hret hn (Or.inr (Or.inr (Or.inr (Or.inr ⟨rfl, ht, hw⟩)))) hd hr, hrun, hended, _, _, rfl, hq, own_monoW hW hc hs⟩
theorem own_ret0W (X : Stand p l e R (s.setVm vm₁) m args below meth c T locs cells slots) (hx : p.tables.exec = Jvm.exec) (hlk : meth.locks = false) (hS : s.Since vm₁ nS) (hk : nS ≤ T.heap.size) {pc : Nat} {Ls : Array Slot} (hret : meth.sig.returnType = none)
    (hd : decode c.code pc = .ok (.return_, 1)) (hc : cells ≤ kc) (hs : slots ≤ ks) (hq : Q none T.heap locs) : own_Ends p e below s ReturnedEndW Q kc ks (T.setTop (mkF m pc Ls [])) := by
  obtain ⟨fs, hr, hrun, hended, hW⟩ := X.leaveW hS hk (v := none) (fun _ => rfl) hlk
  exact ⟨_, _, X.returnOut hx hret hd hr, hrun, hended, _, _, rfl, hq, own_monoW hW hc hs⟩
end Own
theorem own_b1 : nar .boolean (1 : Int32) = 1 := rfl
theorem own_b0 : nar .boolean (0 : Int32) = 0 := rfl
section Own2
variable {p : Program} {l : Launch} {e : Env} {R : Room} {s sS : State} {m : MethodId} {args : Array Value} {below : List Frame} {meth : Method} {c : Code} {T : State} {locs : List Loc} {cells slots : Nat} {Q : Option Value → Heap → List Loc → Prop} {kc ks : Nat} {G : State → Outcome → State → List Loc → Nat → Nat → Prop}
theorem own_iloadN (X : Stand p l e R sS m args below meth c T locs cells slots) (hx : p.tables.exec = Jvm.exec) {code : ByteArray} (hby : c.code = code) {pc : Nat} {Ls : Array Slot} {St : List Value} {k : Fin 4} {v : Int32} (hd : decode code pc = .ok (.iload_n k, 1)) (hl : Ls[k.val]? = some (.val (.int v))) (k : own_Ends p e below s G Q kc ks (T.setTop (mkF m (pc + 1) Ls (.int v :: St)))) : own_Ends p e below s G Q kc ks (T.setTop (mkF m pc Ls (St))) := own_of (fun _ q => XS.iloadN X.here hx rfl (hb hby hd) hl q) k
theorem own_iload (X : Stand p l e R sS m args below meth c T locs cells slots) (hx : p.tables.exec = Jvm.exec) {code : ByteArray} (hby : c.code = code) {pc : Nat} {Ls : Array Slot} {St : List Value} {k : Nat} {v : Int32} (hd : decode code pc = .ok (.iload k, 2)) (hl : Ls[k]? = some (.val (.int v))) (k : own_Ends p e below s G Q kc ks (T.setTop (mkF m (pc + 2) Ls (.int v :: St)))) : own_Ends p e below s G Q kc ks (T.setTop (mkF m pc Ls (St))) := own_of (fun _ q => XS.iload X.here hx rfl (hb hby hd) hl q) k
theorem own_lloadN (X : Stand p l e R sS m args below meth c T locs cells slots) (hx : p.tables.exec = Jvm.exec) {code : ByteArray} (hby : c.code = code) {pc : Nat} {Ls : Array Slot} {St : List Value} {k : Fin 4} {v : Int64} (hd : decode code pc = .ok (.lload_n k, 1)) (hl : Ls[k.val]? = some (.val (.long v))) (k : own_Ends p e below s G Q kc ks (T.setTop (mkF m (pc + 1) Ls (.long v :: St)))) : own_Ends p e below s G Q kc ks (T.setTop (mkF m pc Ls (St))) := own_of (fun _ q => XT.lloadN X.here hx rfl (hb hby hd) hl q) k
theorem own_lload (X : Stand p l e R sS m args below meth c T locs cells slots) (hx : p.tables.exec = Jvm.exec) {code : ByteArray} (hby : c.code = code) {pc : Nat} {Ls : Array Slot} {St : List Value} {k : Nat} {v : Int64} (hd : decode code pc = .ok (.lload k, 2)) (hl : Ls[k]? = some (.val (.long v))) (k : own_Ends p e below s G Q kc ks (T.setTop (mkF m (pc + 2) Ls (.long v :: St)))) : own_Ends p e below s G Q kc ks (T.setTop (mkF m pc Ls (St))) := own_of (fun _ q => XT.lload X.here hx rfl (hb hby hd) hl q) k
theorem own_dloadN (X : Stand p l e R sS m args below meth c T locs cells slots) (hx : p.tables.exec = Jvm.exec) {code : ByteArray} (hby : c.code = code) {pc : Nat} {Ls : Array Slot} {St : List Value} {k : Fin 4} {v : UInt64} (hd : decode code pc = .ok (.dload_n k, 1)) (hl : Ls[k.val]? = some (.val (.double v))) (k : own_Ends p e below s G Q kc ks (T.setTop (mkF m (pc + 1) Ls (.double v :: St)))) : own_Ends p e below s G Q kc ks (T.setTop (mkF m pc Ls (St))) := own_of (fun _ q => XS.dloadN X.here hx rfl (hb hby hd) hl q) k
theorem own_dload (X : Stand p l e R sS m args below meth c T locs cells slots) (hx : p.tables.exec = Jvm.exec) {code : ByteArray} (hby : c.code = code) {pc : Nat} {Ls : Array Slot} {St : List Value} {k : Nat} {v : UInt64} (hd : decode code pc = .ok (.dload k, 2)) (hl : Ls[k]? = some (.val (.double v))) (k : own_Ends p e below s G Q kc ks (T.setTop (mkF m (pc + 2) Ls (.double v :: St)))) : own_Ends p e below s G Q kc ks (T.setTop (mkF m pc Ls (St))) := own_of (fun _ q => XS.dload X.here hx rfl (hb hby hd) hl q) k
theorem own_aloadN (X : Stand p l e R sS m args below meth c T locs cells slots) (hx : p.tables.exec = Jvm.exec) {code : ByteArray} (hby : c.code = code) {pc : Nat} {Ls : Array Slot} {St : List Value} {k : Fin 4} {v : Value} (hd : decode code pc = .ok (.aload_n k, 1)) (hl : Ls[k.val]? = some (.val v)) (hv : v.isRef = true) (k : own_Ends p e below s G Q kc ks (T.setTop (mkF m (pc + 1) Ls (v :: St)))) : own_Ends p e below s G Q kc ks (T.setTop (mkF m pc Ls (St))) := own_of (fun _ q => XS.aloadN X.here hx rfl (hb hby hd) hl hv q) k
theorem own_aload (X : Stand p l e R sS m args below meth c T locs cells slots) (hx : p.tables.exec = Jvm.exec) {code : ByteArray} (hby : c.code = code) {pc : Nat} {Ls : Array Slot} {St : List Value} {k : Nat} {v : Value} (hd : decode code pc = .ok (.aload k, 2)) (hl : Ls[k]? = some (.val v)) (hv : v.isRef = true) (k : own_Ends p e below s G Q kc ks (T.setTop (mkF m (pc + 2) Ls (v :: St)))) : own_Ends p e below s G Q kc ks (T.setTop (mkF m pc Ls (St))) := own_of (fun _ q => XS.aload X.here hx rfl (hb hby hd) hl hv q) k
theorem own_istoreN (X : Stand p l e R sS m args below meth c T locs cells slots) (hx : p.tables.exec = Jvm.exec) {code : ByteArray} (hby : c.code = code) {pc : Nat} {Ls : Array Slot} {St : List Value} {k : Fin 4} {x : Int32} {l' : Array Slot} (hd : decode code pc = .ok (.istore_n k, 1)) (hl : storeLocals Ls k.val (.int x) = some l') (k : own_Ends p e below s G Q kc ks (T.setTop (mkF m (pc + 1) l' (St)))) : own_Ends p e below s G Q kc ks (T.setTop (mkF m pc Ls (.int x :: St))) := own_of (fun _ q => XS.istoreN X.here hx rfl (hb hby hd) rfl hl q) k
theorem own_istore (X : Stand p l e R sS m args below meth c T locs cells slots) (hx : p.tables.exec = Jvm.exec) {code : ByteArray} (hby : c.code = code) {pc : Nat} {Ls : Array Slot} {St : List Value} {k : Nat} {x : Int32} {l' : Array Slot} (hd : decode code pc = .ok (.istore k, 2)) (hl : storeLocals Ls k (.int x) = some l') (k : own_Ends p e below s G Q kc ks (T.setTop (mkF m (pc + 2) l' (St)))) : own_Ends p e below s G Q kc ks (T.setTop (mkF m pc Ls (.int x :: St))) := own_of (fun _ q => XS.istore X.here hx rfl (hb hby hd) rfl hl q) k
theorem own_lstoreN (X : Stand p l e R sS m args below meth c T locs cells slots) (hx : p.tables.exec = Jvm.exec) {code : ByteArray} (hby : c.code = code) {pc : Nat} {Ls : Array Slot} {St : List Value} {k : Fin 4} {x : Int64} {l' : Array Slot} (hd : decode code pc = .ok (.lstore_n k, 1)) (hl : storeLocals Ls k.val (.long x) = some l') (k : own_Ends p e below s G Q kc ks (T.setTop (mkF m (pc + 1) l' (St)))) : own_Ends p e below s G Q kc ks (T.setTop (mkF m pc Ls (.long x :: St))) := own_of (fun _ q => XT.lstoreN X.here hx rfl (hb hby hd) rfl hl q) k
theorem own_lstore (X : Stand p l e R sS m args below meth c T locs cells slots) (hx : p.tables.exec = Jvm.exec) {code : ByteArray} (hby : c.code = code) {pc : Nat} {Ls : Array Slot} {St : List Value} {k : Nat} {x : Int64} {l' : Array Slot} (hd : decode code pc = .ok (.lstore k, 2)) (hl : storeLocals Ls k (.long x) = some l') (k : own_Ends p e below s G Q kc ks (T.setTop (mkF m (pc + 2) l' (St)))) : own_Ends p e below s G Q kc ks (T.setTop (mkF m pc Ls (.long x :: St))) := own_of (fun _ q => XT.lstore X.here hx rfl (hb hby hd) rfl hl q) k
theorem own_astoreN (X : Stand p l e R sS m args below meth c T locs cells slots) (hx : p.tables.exec = Jvm.exec) {code : ByteArray} (hby : c.code = code) {pc : Nat} {Ls : Array Slot} {St : List Value} {k : Fin 4} {x : Value} {l' : Array Slot} (hd : decode code pc = .ok (.astore_n k, 1)) (hv : x.isRef = true) (hl : storeLocals Ls k.val x = some l') (k : own_Ends p e below s G Q kc ks (T.setTop (mkF m (pc + 1) l' (St)))) : own_Ends p e below s G Q kc ks (T.setTop (mkF m pc Ls (x :: St))) := own_of (fun _ q => XS.astoreN X.here hx rfl (hb hby hd) rfl hv hl q) k
theorem own_astore (X : Stand p l e R sS m args below meth c T locs cells slots) (hx : p.tables.exec = Jvm.exec) {code : ByteArray} (hby : c.code = code) {pc : Nat} {Ls : Array Slot} {St : List Value} {k : Nat} {x : Value} {l' : Array Slot} (hd : decode code pc = .ok (.astore k, 2)) (hv : x.isRef = true) (hl : storeLocals Ls k x = some l') (k : own_Ends p e below s G Q kc ks (T.setTop (mkF m (pc + 2) l' (St)))) : own_Ends p e below s G Q kc ks (T.setTop (mkF m pc Ls (x :: St))) := own_of (fun _ q => XS.astore X.here hx rfl (hb hby hd) rfl hv hl q) k
theorem own_aconstNull (X : Stand p l e R sS m args below meth c T locs cells slots) (hx : p.tables.exec = Jvm.exec) {code : ByteArray} (hby : c.code = code) {pc : Nat} {Ls : Array Slot} {St : List Value}  (hd : decode code pc = .ok (.aconst_null, 1)) (k : own_Ends p e below s G Q kc ks (T.setTop (mkF m (pc + 1) Ls (.null :: St)))) : own_Ends p e below s G Q kc ks (T.setTop (mkF m pc Ls (St))) := own_of (fun _ q => XS.aconstNull X.here hx rfl (hb hby hd) q) k
theorem own_iadd (X : Stand p l e R sS m args below meth c T locs cells slots) (hx : p.tables.exec = Jvm.exec) {code : ByteArray} (hby : c.code = code) {pc : Nat} {Ls : Array Slot} {St : List Value} {x y : Int32} (hd : decode code pc = .ok (.iadd, 1)) (k : own_Ends p e below s G Q kc ks (T.setTop (mkF m (pc + 1) Ls (.int (x + y) :: St)))) : own_Ends p e below s G Q kc ks (T.setTop (mkF m pc Ls (.int y :: .int x :: St))) := own_of (fun _ q => XS.iadd X.here hx rfl (hb hby hd) rfl q) k
theorem own_isub (X : Stand p l e R sS m args below meth c T locs cells slots) (hx : p.tables.exec = Jvm.exec) {code : ByteArray} (hby : c.code = code) {pc : Nat} {Ls : Array Slot} {St : List Value} {x y : Int32} (hd : decode code pc = .ok (.isub, 1)) (k : own_Ends p e below s G Q kc ks (T.setTop (mkF m (pc + 1) Ls (.int (x - y) :: St)))) : own_Ends p e below s G Q kc ks (T.setTop (mkF m pc Ls (.int y :: .int x :: St))) := own_of (fun _ q => XS.isub X.here hx rfl (hb hby hd) rfl q) k
theorem own_imul (X : Stand p l e R sS m args below meth c T locs cells slots) (hx : p.tables.exec = Jvm.exec) {code : ByteArray} (hby : c.code = code) {pc : Nat} {Ls : Array Slot} {St : List Value} {x y : Int32} (hd : decode code pc = .ok (.imul, 1)) (k : own_Ends p e below s G Q kc ks (T.setTop (mkF m (pc + 1) Ls (.int (x * y) :: St)))) : own_Ends p e below s G Q kc ks (T.setTop (mkF m pc Ls (.int y :: .int x :: St))) := own_of (fun _ q => XS.imul X.here hx rfl (hb hby hd) rfl q) k
theorem own_iand (X : Stand p l e R sS m args below meth c T locs cells slots) (hx : p.tables.exec = Jvm.exec) {code : ByteArray} (hby : c.code = code) {pc : Nat} {Ls : Array Slot} {St : List Value} {x y : Int32} (hd : decode code pc = .ok (.iand, 1)) (k : own_Ends p e below s G Q kc ks (T.setTop (mkF m (pc + 1) Ls (.int (x &&& y) :: St)))) : own_Ends p e below s G Q kc ks (T.setTop (mkF m pc Ls (.int y :: .int x :: St))) := own_of (fun _ q => XS.iand X.here hx rfl (hb hby hd) rfl q) k
theorem own_ior (X : Stand p l e R sS m args below meth c T locs cells slots) (hx : p.tables.exec = Jvm.exec) {code : ByteArray} (hby : c.code = code) {pc : Nat} {Ls : Array Slot} {St : List Value} {x y : Int32} (hd : decode code pc = .ok (.ior, 1)) (k : own_Ends p e below s G Q kc ks (T.setTop (mkF m (pc + 1) Ls (.int (x ||| y) :: St)))) : own_Ends p e below s G Q kc ks (T.setTop (mkF m pc Ls (.int y :: .int x :: St))) := own_of (fun _ q => XT.ior X.here hx rfl (hb hby hd) rfl q) k
theorem own_ixor (X : Stand p l e R sS m args below meth c T locs cells slots) (hx : p.tables.exec = Jvm.exec) {code : ByteArray} (hby : c.code = code) {pc : Nat} {Ls : Array Slot} {St : List Value} {x y : Int32} (hd : decode code pc = .ok (.ixor, 1)) (k : own_Ends p e below s G Q kc ks (T.setTop (mkF m (pc + 1) Ls (.int (x ^^^ y) :: St)))) : own_Ends p e below s G Q kc ks (T.setTop (mkF m pc Ls (.int y :: .int x :: St))) := own_of (fun _ q => XT.ixor X.here hx rfl (hb hby hd) rfl q) k
theorem own_ladd (X : Stand p l e R sS m args below meth c T locs cells slots) (hx : p.tables.exec = Jvm.exec) {code : ByteArray} (hby : c.code = code) {pc : Nat} {Ls : Array Slot} {St : List Value} {x y : Int64} (hd : decode code pc = .ok (.ladd, 1)) (k : own_Ends p e below s G Q kc ks (T.setTop (mkF m (pc + 1) Ls (.long (x + y) :: St)))) : own_Ends p e below s G Q kc ks (T.setTop (mkF m pc Ls (.long y :: .long x :: St))) := own_of (fun _ q => XT.ladd X.here hx rfl (hb hby hd) rfl q) k
theorem own_lsub (X : Stand p l e R sS m args below meth c T locs cells slots) (hx : p.tables.exec = Jvm.exec) {code : ByteArray} (hby : c.code = code) {pc : Nat} {Ls : Array Slot} {St : List Value} {x y : Int64} (hd : decode code pc = .ok (.lsub, 1)) (k : own_Ends p e below s G Q kc ks (T.setTop (mkF m (pc + 1) Ls (.long (x - y) :: St)))) : own_Ends p e below s G Q kc ks (T.setTop (mkF m pc Ls (.long y :: .long x :: St))) := own_of (fun _ q => XT.lsub X.here hx rfl (hb hby hd) rfl q) k
theorem own_lmul (X : Stand p l e R sS m args below meth c T locs cells slots) (hx : p.tables.exec = Jvm.exec) {code : ByteArray} (hby : c.code = code) {pc : Nat} {Ls : Array Slot} {St : List Value} {x y : Int64} (hd : decode code pc = .ok (.lmul, 1)) (k : own_Ends p e below s G Q kc ks (T.setTop (mkF m (pc + 1) Ls (.long (x * y) :: St)))) : own_Ends p e below s G Q kc ks (T.setTop (mkF m pc Ls (.long y :: .long x :: St))) := own_of (fun _ q => XT.lmul X.here hx rfl (hb hby hd) rfl q) k
theorem own_land (X : Stand p l e R sS m args below meth c T locs cells slots) (hx : p.tables.exec = Jvm.exec) {code : ByteArray} (hby : c.code = code) {pc : Nat} {Ls : Array Slot} {St : List Value} {x y : Int64} (hd : decode code pc = .ok (.land, 1)) (k : own_Ends p e below s G Q kc ks (T.setTop (mkF m (pc + 1) Ls (.long (x &&& y) :: St)))) : own_Ends p e below s G Q kc ks (T.setTop (mkF m pc Ls (.long y :: .long x :: St))) := own_of (fun _ q => XT.land X.here hx rfl (hb hby hd) rfl q) k
theorem own_lor (X : Stand p l e R sS m args below meth c T locs cells slots) (hx : p.tables.exec = Jvm.exec) {code : ByteArray} (hby : c.code = code) {pc : Nat} {Ls : Array Slot} {St : List Value} {x y : Int64} (hd : decode code pc = .ok (.lor, 1)) (k : own_Ends p e below s G Q kc ks (T.setTop (mkF m (pc + 1) Ls (.long (x ||| y) :: St)))) : own_Ends p e below s G Q kc ks (T.setTop (mkF m pc Ls (.long y :: .long x :: St))) := own_of (fun _ q => XT.lor X.here hx rfl (hb hby hd) rfl q) k
theorem own_lxor (X : Stand p l e R sS m args below meth c T locs cells slots) (hx : p.tables.exec = Jvm.exec) {code : ByteArray} (hby : c.code = code) {pc : Nat} {Ls : Array Slot} {St : List Value} {x y : Int64} (hd : decode code pc = .ok (.lxor, 1)) (k : own_Ends p e below s G Q kc ks (T.setTop (mkF m (pc + 1) Ls (.long (x ^^^ y) :: St)))) : own_Ends p e below s G Q kc ks (T.setTop (mkF m pc Ls (.long y :: .long x :: St))) := own_of (fun _ q => XT.lxor X.here hx rfl (hb hby hd) rfl q) k
theorem own_ishl (X : Stand p l e R sS m args below meth c T locs cells slots) (hx : p.tables.exec = Jvm.exec) {code : ByteArray} (hby : c.code = code) {pc : Nat} {Ls : Array Slot} {St : List Value} {x y : Int32} (hd : decode code pc = .ok (.ishl, 1)) (k : own_Ends p e below s G Q kc ks (T.setTop (mkF m (pc + 1) Ls (.int (x <<< (y &&& 31)) :: St)))) : own_Ends p e below s G Q kc ks (T.setTop (mkF m pc Ls (.int y :: .int x :: St))) := own_of (fun _ q => XT.ishl X.here hx rfl (hb hby hd) rfl q) k
theorem own_ishr (X : Stand p l e R sS m args below meth c T locs cells slots) (hx : p.tables.exec = Jvm.exec) {code : ByteArray} (hby : c.code = code) {pc : Nat} {Ls : Array Slot} {St : List Value} {x y : Int32} (hd : decode code pc = .ok (.ishr, 1)) (k : own_Ends p e below s G Q kc ks (T.setTop (mkF m (pc + 1) Ls (.int (x >>> (y &&& 31)) :: St)))) : own_Ends p e below s G Q kc ks (T.setTop (mkF m pc Ls (.int y :: .int x :: St))) := own_of (fun _ q => XT.ishr X.here hx rfl (hb hby hd) rfl q) k
theorem own_iushr (X : Stand p l e R sS m args below meth c T locs cells slots) (hx : p.tables.exec = Jvm.exec) {code : ByteArray} (hby : c.code = code) {pc : Nat} {Ls : Array Slot} {St : List Value} {x y : Int32} (hd : decode code pc = .ok (.iushr, 1)) (k : own_Ends p e below s G Q kc ks (T.setTop (mkF m (pc + 1) Ls (.int (XT.ushr x y) :: St)))) : own_Ends p e below s G Q kc ks (T.setTop (mkF m pc Ls (.int y :: .int x :: St))) := own_of (fun _ q => XT.iushr X.here hx rfl (hb hby hd) rfl q) k
theorem own_lshl (X : Stand p l e R sS m args below meth c T locs cells slots) (hx : p.tables.exec = Jvm.exec) {code : ByteArray} (hby : c.code = code) {pc : Nat} {Ls : Array Slot} {St : List Value} {x : Int64} {y : Int32} (hd : decode code pc = .ok (.lshl, 1)) (k : own_Ends p e below s G Q kc ks (T.setTop (mkF m (pc + 1) Ls (.long (x <<< (y.toInt64 &&& 63)) :: St)))) : own_Ends p e below s G Q kc ks (T.setTop (mkF m pc Ls (.int y :: .long x :: St))) := own_of (fun _ q => XT.lshl X.here hx rfl (hb hby hd) rfl q) k
theorem own_lshr (X : Stand p l e R sS m args below meth c T locs cells slots) (hx : p.tables.exec = Jvm.exec) {code : ByteArray} (hby : c.code = code) {pc : Nat} {Ls : Array Slot} {St : List Value} {x : Int64} {y : Int32} (hd : decode code pc = .ok (.lshr, 1)) (k : own_Ends p e below s G Q kc ks (T.setTop (mkF m (pc + 1) Ls (.long (x >>> (y.toInt64 &&& 63)) :: St)))) : own_Ends p e below s G Q kc ks (T.setTop (mkF m pc Ls (.int y :: .long x :: St))) := own_of (fun _ q => XT.lshr X.here hx rfl (hb hby hd) rfl q) k
theorem own_lushr (X : Stand p l e R sS m args below meth c T locs cells slots) (hx : p.tables.exec = Jvm.exec) {code : ByteArray} (hby : c.code = code) {pc : Nat} {Ls : Array Slot} {St : List Value} {x : Int64} {y : Int32} (hd : decode code pc = .ok (.lushr, 1)) (k : own_Ends p e below s G Q kc ks (T.setTop (mkF m (pc + 1) Ls (.long (XT.ushrL x y) :: St)))) : own_Ends p e below s G Q kc ks (T.setTop (mkF m pc Ls (.int y :: .long x :: St))) := own_of (fun _ q => XT.lushr X.here hx rfl (hb hby hd) rfl q) k
theorem own_ineg (X : Stand p l e R sS m args below meth c T locs cells slots) (hx : p.tables.exec = Jvm.exec) {code : ByteArray} (hby : c.code = code) {pc : Nat} {Ls : Array Slot} {St : List Value} {x : Int32} (hd : decode code pc = .ok (.ineg, 1)) (k : own_Ends p e below s G Q kc ks (T.setTop (mkF m (pc + 1) Ls (.int (-x) :: St)))) : own_Ends p e below s G Q kc ks (T.setTop (mkF m pc Ls (.int x :: St))) := own_of (fun _ q => XS.ineg X.here hx rfl (hb hby hd) rfl q) k
theorem own_lneg (X : Stand p l e R sS m args below meth c T locs cells slots) (hx : p.tables.exec = Jvm.exec) {code : ByteArray} (hby : c.code = code) {pc : Nat} {Ls : Array Slot} {St : List Value} {x : Int64} (hd : decode code pc = .ok (.lneg, 1)) (k : own_Ends p e below s G Q kc ks (T.setTop (mkF m (pc + 1) Ls (.long (-x) :: St)))) : own_Ends p e below s G Q kc ks (T.setTop (mkF m pc Ls (.long x :: St))) := own_of (fun _ q => XT.lneg X.here hx rfl (hb hby hd) rfl q) k
theorem own_i2l (X : Stand p l e R sS m args below meth c T locs cells slots) (hx : p.tables.exec = Jvm.exec) {code : ByteArray} (hby : c.code = code) {pc : Nat} {Ls : Array Slot} {St : List Value} {x : Int32} (hd : decode code pc = .ok (.i2l, 1)) (k : own_Ends p e below s G Q kc ks (T.setTop (mkF m (pc + 1) Ls (.long (x.toInt64) :: St)))) : own_Ends p e below s G Q kc ks (T.setTop (mkF m pc Ls (.int x :: St))) := own_of (fun _ q => XT.i2l X.here hx rfl (hb hby hd) rfl q) k
theorem own_l2i (X : Stand p l e R sS m args below meth c T locs cells slots) (hx : p.tables.exec = Jvm.exec) {code : ByteArray} (hby : c.code = code) {pc : Nat} {Ls : Array Slot} {St : List Value} {x : Int64} (hd : decode code pc = .ok (.l2i, 1)) (k : own_Ends p e below s G Q kc ks (T.setTop (mkF m (pc + 1) Ls (.int (x.toInt32) :: St)))) : own_Ends p e below s G Q kc ks (T.setTop (mkF m pc Ls (.long x :: St))) := own_of (fun _ q => XT.l2i X.here hx rfl (hb hby hd) rfl q) k
theorem own_i2b (X : Stand p l e R sS m args below meth c T locs cells slots) (hx : p.tables.exec = Jvm.exec) {code : ByteArray} (hby : c.code = code) {pc : Nat} {Ls : Array Slot} {St : List Value} {x : Int32} (hd : decode code pc = .ok (.i2b, 1)) (k : own_Ends p e below s G Q kc ks (T.setTop (mkF m (pc + 1) Ls (.int (x.toInt8.toInt32) :: St)))) : own_Ends p e below s G Q kc ks (T.setTop (mkF m pc Ls (.int x :: St))) := own_of (fun _ q => XT.i2b X.here hx rfl (hb hby hd) rfl q) k
theorem own_i2s (X : Stand p l e R sS m args below meth c T locs cells slots) (hx : p.tables.exec = Jvm.exec) {code : ByteArray} (hby : c.code = code) {pc : Nat} {Ls : Array Slot} {St : List Value} {x : Int32} (hd : decode code pc = .ok (.i2s, 1)) (k : own_Ends p e below s G Q kc ks (T.setTop (mkF m (pc + 1) Ls (.int (x.toInt16.toInt32) :: St)))) : own_Ends p e below s G Q kc ks (T.setTop (mkF m pc Ls (.int x :: St))) := own_of (fun _ q => XT.i2s X.here hx rfl (hb hby hd) rfl q) k
theorem own_i2c (X : Stand p l e R sS m args below meth c T locs cells slots) (hx : p.tables.exec = Jvm.exec) {code : ByteArray} (hby : c.code = code) {pc : Nat} {Ls : Array Slot} {St : List Value} {x : Int32} (hd : decode code pc = .ok (.i2c, 1)) (k : own_Ends p e below s G Q kc ks (T.setTop (mkF m (pc + 1) Ls (.int (x.toUInt32.toUInt16.toUInt32.toInt32) :: St)))) : own_Ends p e below s G Q kc ks (T.setTop (mkF m pc Ls (.int x :: St))) := own_of (fun _ q => XT.i2c X.here hx rfl (hb hby hd) rfl q) k
theorem own_lcmp (X : Stand p l e R sS m args below meth c T locs cells slots) (hx : p.tables.exec = Jvm.exec) {code : ByteArray} (hby : c.code = code) {pc : Nat} {Ls : Array Slot} {St : List Value} {x y : Int64} (hd : decode code pc = .ok (.lcmp, 1)) (k : own_Ends p e below s G Q kc ks (T.setTop (mkF m (pc + 1) Ls (.int (XT.cmpL x y) :: St)))) : own_Ends p e below s G Q kc ks (T.setTop (mkF m pc Ls (.long y :: .long x :: St))) := own_of (fun _ q => XT.lcmp X.here hx rfl (hb hby hd) rfl q) k
theorem own_dup (X : Stand p l e R sS m args below meth c T locs cells slots) (hx : p.tables.exec = Jvm.exec) {code : ByteArray} (hby : c.code = code) {pc : Nat} {Ls : Array Slot} {St : List Value} {x : Value} (hd : decode code pc = .ok (.dup, 1)) (hc : x.category = 1) (k : own_Ends p e below s G Q kc ks (T.setTop (mkF m (pc + 1) Ls (x :: x :: St)))) : own_Ends p e below s G Q kc ks (T.setTop (mkF m pc Ls (x :: St))) := own_of (fun _ q => XS.dup X.here hx rfl (hb hby hd) rfl hc q) k
theorem own_dupX1 (X : Stand p l e R sS m args below meth c T locs cells slots) (hx : p.tables.exec = Jvm.exec) {code : ByteArray} (hby : c.code = code) {pc : Nat} {Ls : Array Slot} {St : List Value} {x y : Value} (hd : decode code pc = .ok (.dup_x1, 1)) (hc : x.category = 1) (hc' : y.category = 1) (k : own_Ends p e below s G Q kc ks (T.setTop (mkF m (pc + 1) Ls (x :: y :: x :: St)))) : own_Ends p e below s G Q kc ks (T.setTop (mkF m pc Ls (x :: y :: St))) := own_of (fun _ q => XT.dupX1 X.here hx rfl (hb hby hd) rfl hc hc' q) k
theorem own_dup2 (X : Stand p l e R sS m args below meth c T locs cells slots) (hx : p.tables.exec = Jvm.exec) {code : ByteArray} (hby : c.code = code) {pc : Nat} {Ls : Array Slot} {St : List Value} {x y : Value} (hd : decode code pc = .ok (.dup2, 1)) (hc : x.category = 1) (hc' : y.category = 1) (k : own_Ends p e below s G Q kc ks (T.setTop (mkF m (pc + 1) Ls (x :: y :: x :: y :: St)))) : own_Ends p e below s G Q kc ks (T.setTop (mkF m pc Ls (x :: y :: St))) := own_of (fun _ q => XT.dup2 X.here hx rfl (hb hby hd) rfl hc hc' q) k
theorem own_dup2L (X : Stand p l e R sS m args below meth c T locs cells slots) (hx : p.tables.exec = Jvm.exec) {code : ByteArray} (hby : c.code = code) {pc : Nat} {Ls : Array Slot} {St : List Value} {x : Int64} (hd : decode code pc = .ok (.dup2, 1)) (k : own_Ends p e below s G Q kc ks (T.setTop (mkF m (pc + 1) Ls (.long x :: .long x :: St)))) : own_Ends p e below s G Q kc ks (T.setTop (mkF m pc Ls (.long x :: St))) := own_of (fun _ q => XT.dup2L X.here hx rfl (hb hby hd) rfl q) k
theorem own_pop (X : Stand p l e R sS m args below meth c T locs cells slots) (hx : p.tables.exec = Jvm.exec) {code : ByteArray} (hby : c.code = code) {pc : Nat} {Ls : Array Slot} {St : List Value} {x : Value} (hd : decode code pc = .ok (.pop, 1)) (hc : x.category = 1) (k : own_Ends p e below s G Q kc ks (T.setTop (mkF m (pc + 1) Ls (St)))) : own_Ends p e below s G Q kc ks (T.setTop (mkF m pc Ls (x :: St))) := own_of (fun _ q => XT.pop X.here hx rfl (hb hby hd) rfl hc q) k
theorem own_iinc (X : Stand p l e R sS m args below meth c T locs cells slots) (hx : p.tables.exec = Jvm.exec) {code : ByteArray} (hby : c.code = code) {pc : Nat} {Ls : Array Slot} {St : List Value} {k : Nat} {cst : Int} {x : Int32} {l' : Array Slot} (hd : decode code pc = .ok (.iinc k cst, 3)) (hl : Ls[k]? = some (.val (.int x))) (hl' : storeLocals Ls k (.int (x + Int32.ofInt cst)) = some l') (k : own_Ends p e below s G Q kc ks (T.setTop (mkF m (pc + 3) l' (St)))) : own_Ends p e below s G Q kc ks (T.setTop (mkF m pc Ls (St))) := own_of (fun _ q => XS.iinc X.here hx rfl (hb hby hd) hl hl' q) k
theorem own_iconst (X : Stand p l e R sS m args below meth c T locs cells slots) (hx : p.tables.exec = Jvm.exec) {code : ByteArray} (hby : c.code = code) {pc : Nat} {Ls : Array Slot} {St : List Value} {i : Int} (z : Int32) (hd : decode code pc = .ok (.iconst i, 1)) (hz : Int32.ofInt i = z) (k : own_Ends p e below s G Q kc ks (T.setTop (mkF m (pc + 1) Ls (.int z :: St)))) : own_Ends p e below s G Q kc ks (T.setTop (mkF m pc Ls St)) := by subst hz; exact own_of (fun _ q => XS.iconst X.here hx rfl (hb hby hd) q) k
theorem own_bipush (X : Stand p l e R sS m args below meth c T locs cells slots) (hx : p.tables.exec = Jvm.exec) {code : ByteArray} (hby : c.code = code) {pc : Nat} {Ls : Array Slot} {St : List Value} {i : Int} (z : Int32) (hd : decode code pc = .ok (.bipush i, 2)) (hz : (Int8.ofInt i).toInt32 = z) (k : own_Ends p e below s G Q kc ks (T.setTop (mkF m (pc + 2) Ls (.int z :: St)))) : own_Ends p e below s G Q kc ks (T.setTop (mkF m pc Ls St)) := by subst hz; exact own_of (fun _ q => XS.bipush X.here hx rfl (hb hby hd) q) k
theorem own_sipush (X : Stand p l e R sS m args below meth c T locs cells slots) (hx : p.tables.exec = Jvm.exec) {code : ByteArray} (hby : c.code = code) {pc : Nat} {Ls : Array Slot} {St : List Value} {i : Int} (z : Int32) (hd : decode code pc = .ok (.sipush i, 3)) (hz : (Int16.ofInt i).toInt32 = z) (k : own_Ends p e below s G Q kc ks (T.setTop (mkF m (pc + 3) Ls (.int z :: St)))) : own_Ends p e below s G Q kc ks (T.setTop (mkF m pc Ls St)) := by subst hz; exact own_of (fun _ q => XS.sipush X.here hx rfl (hb hby hd) q) k
theorem own_lconst (X : Stand p l e R sS m args below meth c T locs cells slots) (hx : p.tables.exec = Jvm.exec) {code : ByteArray} (hby : c.code = code) {pc : Nat} {Ls : Array Slot} {St : List Value} {i : Fin 2} (z : Int64) (hd : decode code pc = .ok (.lconst i, 1)) (hz : Int64.ofNat i = z) (k : own_Ends p e below s G Q kc ks (T.setTop (mkF m (pc + 1) Ls (.long z :: St)))) : own_Ends p e below s G Q kc ks (T.setTop (mkF m pc Ls St)) := by subst hz; exact own_of (fun _ q => XT.lconst X.here hx rfl (hb hby hd) q) k
theorem own_goto (X : Stand p l e R sS m args below meth c T locs cells slots) (hx : p.tables.exec = Jvm.exec) {code : ByteArray} (hby : c.code = code) {Ls : Array Slot} {St : List Value} (pc pc' : Nat) {o : Int}  (hd : decode code pc = .ok (.goto o, 3)) (ho : 0 ≤ (pc : Int) + o) (hp : ((pc : Int) + o).toNat = pc') (k : own_Ends p e below s G Q kc ks (T.setTop (mkF m pc' Ls St))) : own_Ends p e below s G Q kc ks (T.setTop (mkF m pc Ls (St))) := own_of (fun _ q => XS.goto X.here hx rfl (pc0 := pc) (pc' := pc') rfl (hb hby hd) ho hp q) k
theorem own_ifYes (X : Stand p l e R sS m args below meth c T locs cells slots) (hx : p.tables.exec = Jvm.exec) {code : ByteArray} (hby : c.code = code) {Ls : Array Slot} {St : List Value} (pc pc' : Nat) {o : Int} {cd : ClassFile.Cond} {x : Int32} (hd : decode code pc = .ok (.ifCond cd o, 3)) (hc : ifCond.holds cd x = true) (ho : 0 ≤ (pc : Int) + o) (hp : ((pc : Int) + o).toNat = pc') (k : own_Ends p e below s G Q kc ks (T.setTop (mkF m pc' Ls St))) : own_Ends p e below s G Q kc ks (T.setTop (mkF m pc Ls (.int x :: St))) := own_of (fun _ q => XS.ifYes X.here hx rfl (pc0 := pc) (pc' := pc') rfl (hb hby hd) rfl hc ho hp q) k
theorem own_icmpYes (X : Stand p l e R sS m args below meth c T locs cells slots) (hx : p.tables.exec = Jvm.exec) {code : ByteArray} (hby : c.code = code) {Ls : Array Slot} {St : List Value} (pc pc' : Nat) {o : Int} {cd : ClassFile.Cond} {x y : Int32} (hd : decode code pc = .ok (.if_icmp cd o, 3)) (hc : if_icmp.holds cd x y = true) (ho : 0 ≤ (pc : Int) + o) (hp : ((pc : Int) + o).toNat = pc') (k : own_Ends p e below s G Q kc ks (T.setTop (mkF m pc' Ls St))) : own_Ends p e below s G Q kc ks (T.setTop (mkF m pc Ls (.int y :: .int x :: St))) := own_of (fun _ q => XS.icmpYes X.here hx rfl (pc0 := pc) (pc' := pc') rfl (hb hby hd) rfl hc ho hp q) k
theorem own_ifnullYes (X : Stand p l e R sS m args below meth c T locs cells slots) (hx : p.tables.exec = Jvm.exec) {code : ByteArray} (hby : c.code = code) {Ls : Array Slot} {St : List Value} (pc pc' : Nat) {o : Int}  (hd : decode code pc = .ok (.ifnull o, 3)) (ho : 0 ≤ (pc : Int) + o) (hp : ((pc : Int) + o).toNat = pc') (k : own_Ends p e below s G Q kc ks (T.setTop (mkF m pc' Ls St))) : own_Ends p e below s G Q kc ks (T.setTop (mkF m pc Ls (.null :: St))) := own_of (fun _ q => XS.ifnullYes X.here hx rfl (pc0 := pc) (pc' := pc') rfl (hb hby hd) rfl ho hp q) k
theorem own_ifnonnullYes (X : Stand p l e R sS m args below meth c T locs cells slots) (hx : p.tables.exec = Jvm.exec) {code : ByteArray} (hby : c.code = code) {Ls : Array Slot} {St : List Value} (pc pc' : Nat) {o : Int} {b : Addr} (hd : decode code pc = .ok (.ifnonnull o, 3)) (ho : 0 ≤ (pc : Int) + o) (hp : ((pc : Int) + o).toNat = pc') (k : own_Ends p e below s G Q kc ks (T.setTop (mkF m pc' Ls St))) : own_Ends p e below s G Q kc ks (T.setTop (mkF m pc Ls (.ref b :: St))) := own_of (fun _ q => XT.ifnonnullYes X.here hx rfl (pc0 := pc) (pc' := pc') rfl (hb hby hd) rfl ho hp q) k
theorem own_ifNo (X : Stand p l e R sS m args below meth c T locs cells slots) (hx : p.tables.exec = Jvm.exec) {code : ByteArray} (hby : c.code = code) {pc : Nat} {Ls : Array Slot} {St : List Value} {cd : ClassFile.Cond} {o : Int} {x : Int32} (hd : decode code pc = .ok (.ifCond cd o, 3)) (hc : ifCond.holds cd x = false) (k : own_Ends p e below s G Q kc ks (T.setTop (mkF m (pc + 3) Ls (St)))) : own_Ends p e below s G Q kc ks (T.setTop (mkF m pc Ls (.int x :: St))) := own_of (fun _ q => XS.ifNo X.here hx rfl (hb hby hd) rfl hc q) k
theorem own_icmpNo (X : Stand p l e R sS m args below meth c T locs cells slots) (hx : p.tables.exec = Jvm.exec) {code : ByteArray} (hby : c.code = code) {pc : Nat} {Ls : Array Slot} {St : List Value} {cd : ClassFile.Cond} {o : Int} {x y : Int32} (hd : decode code pc = .ok (.if_icmp cd o, 3)) (hc : if_icmp.holds cd x y = false) (k : own_Ends p e below s G Q kc ks (T.setTop (mkF m (pc + 3) Ls (St)))) : own_Ends p e below s G Q kc ks (T.setTop (mkF m pc Ls (.int y :: .int x :: St))) := own_of (fun _ q => XS.icmpNo X.here hx rfl (hb hby hd) rfl hc q) k
theorem own_ifnullNo (X : Stand p l e R sS m args below meth c T locs cells slots) (hx : p.tables.exec = Jvm.exec) {code : ByteArray} (hby : c.code = code) {pc : Nat} {Ls : Array Slot} {St : List Value} {o : Int} {b : Addr} (hd : decode code pc = .ok (.ifnull o, 3)) (k : own_Ends p e below s G Q kc ks (T.setTop (mkF m (pc + 3) Ls (St)))) : own_Ends p e below s G Q kc ks (T.setTop (mkF m pc Ls (.ref b :: St))) := own_of (fun _ q => XS.ifnullNo X.here hx rfl (hb hby hd) rfl q) k
theorem own_ifnonnullNo (X : Stand p l e R sS m args below meth c T locs cells slots) (hx : p.tables.exec = Jvm.exec) {code : ByteArray} (hby : c.code = code) {pc : Nat} {Ls : Array Slot} {St : List Value} {o : Int} (hd : decode code pc = .ok (.ifnonnull o, 3)) (k : own_Ends p e below s G Q kc ks (T.setTop (mkF m (pc + 3) Ls (St)))) : own_Ends p e below s G Q kc ks (T.setTop (mkF m pc Ls (.null :: St))) := own_of (fun _ q => XT.ifnonnullNo X.here hx rfl (hb hby hd) rfl q) k
end Own2
theorem own_w {Z : State} {a0 : Array Value} (hw : ∀ d ∈ tables_1, d.before a0 Z = true) (i : Nat) {d : Jvm.Cond} (h : tables_1[i]? = some d) : d.before a0 Z = true := hw _ (List.mem_of_getElem? h)
theorem own_eqk {args : Array Value} {s : State} {t : Term} {k : Int32} (h : (Cond.eq t (.int k)).value args s none s [] = some true) : t.eval args s none [] s = some (.int k) := by
  obtain ⟨x, y, ex, ey, k1, k2⟩ := cmp_v (Or.inl h)
  obtain rfl : y = .int k := (Option.some.inj ((Term.int_eval k).symm.trans ey)).symm
  obtain ⟨z, rfl⟩ := k2
  rw [ex, gotT (Cond.eq_ints ex ey) h]
theorem own_staKeep {Z : State} {h h' : Heap} {C n d : String} {v : Value} {ws : List Addr} (F : Sta Z h C n d v) (K : Keep h h' ws) (q : ∀ x ∈ ws, ∀ c : Cell, h[x]? = some c → c.vm.isStatics = false) : Sta Z h' C n d v := by
  obtain ⟨cf, i, k, f, st, cell, h1, h2, h3, h4, h5, h6, h7⟩ := F
  refine ⟨cf, i, k, f, st, cell, h1, h2, h3, h4, K.2.1 st cell h5 (fun z => ?_), h6, h7⟩
  have := q st z cell h5
  rw [h6] at this; cases this
theorem own_strAtoms {Z : State} {a0 : Array Value} (hw : ∀ d ∈ tables_1, d.before a0 Z = true) : ∀ d ∈ Bundle.stringAtoms, d.before a0 Z = true := by
  intro d hd
  simp only [Bundle.stringAtoms, List.mem_cons, List.not_mem_nil, or_false] at hd
  rcases hd with rfl | rfl | rfl | rfl | rfl | rfl | rfl
  · exact hw _ (List.mem_of_getElem? (i := 7) rfl)
  · exact hw _ (List.mem_of_getElem? (i := 6) rfl)
  · exact hw _ (List.mem_of_getElem? (i := 23) rfl)
  · exact hw _ (List.mem_of_getElem? (i := 33) rfl)
  · exact hw _ (List.mem_of_getElem? (i := 31) rfl)
  · exact hw _ (List.mem_of_getElem? (i := 35) rfl)
  · exact hw _ (List.mem_of_getElem? (i := 36) rfl)
section OwnBack
variable {p : Program} {l : Launch} {e : Env} {R : Room} {s : State} {args : Array Value} {below : List Frame} {Z : State} {a0 : Array Value} {EL : List (String × Nat)} {h : Heap} {vm0 : Vm}
/-- a callee that reads a held constant and of whose end nothing is said on the constants -/
theorem own_backSC {y : MethodName} {bytes : ByteArray} {maxL : Nat} {ret : Option FieldType} {rm : Room} {len W : Nat} {as' : Array Value} {Q : Option Value → Heap → List Loc → Prop}
    (hM : MetFree l y (head1 [Cond.code y bytes maxL ret] rm) (fun a U => a = as' ∧ Z.Warmed39 U.vm ∧ U.heap = h ∧ CHv Z EL U.vm h) (fun _ _ _ _ _ => True) (fun _ U o U' => ∃ v L, o = .returned v ∧ Q v U'.heap L ∧ ReturnedEndW U o U' L rm.cells rm.slots))
    (hEL : EW Z a0 EL) (H : CHv Z EL vm0 h) (hZ : Z.Warmed39 vm0) (wc : (Cond.code y bytes maxL ret).before a0 Z = true) (wz : (Cond.initialized y.cls).before a0 Z = true) (hf : rm.frames + 1 ≤ R.frames) (hl : W + (maxL + 11) + rm.locals ≤ R.locals) :
    BackS l R p e below (s.setVm vm0) args y len W (fun A a => a = as' ∧ A.U.heap = h ∧ A.cells + rm.cells ≤ R.cells ∧ A.slots + rm.slots ≤ R.slots)
      (fun A _ v B => ∃ L, Q v B.U.heap L ∧ B.locs = A.locs ++ L ∧ B.cells = A.cells + rm.cells ∧ B.slots = A.slots + rm.slots) :=
  BackS.of_freeW (bytes := bytes) (maxL := maxL) (ret := ret) (E := fun _ _ o t L k n => k = rm.cells ∧ n = rm.slots ∧ ∃ v, o = .returned v ∧ Q v t.heap L) hM hf hl
    (fun m meth c A a Y hp => have hU : Z.Warmed39 A.U.vm := wtrans (s := s.setVm vm0) hZ Y.warmed
      ⟨by show (Cond.and _ .tt).before a A.U = true; rw [Cond.before_and, mv hU wc]; rfl, mv hU wc, mv hU wz, hp.2.2.1, hp.2.2.2⟩)
    (fun m meth c A a g mk Y hp => ⟨hp.1, wtrans (s := s.setVm vm0) hZ Y.warmed, hp.2.1, (CHv.at Y hZ hEL H).1⟩) (fun _ _ _ _ _ _ _ _ _ => trivial)
    (fun _ _ _ _ ⟨v, L, h1, h2, h3⟩ => ⟨L, _, _, h3, rfl, rfl, v, h1, h2⟩)
    (fun m meth c A a g mk v t L k n Y hp _ _ ⟨e1, e2, v', e3, e4⟩ => by cases e3; subst e1 e2; exact ⟨L, e4, rfl, rfl, rfl⟩)
end OwnBack
section OwnB
variable {p : Program} {l : Launch} {e : Env} {R : Room} {s : State} {args : Array Value} {below : List Frame} {Z : State} {a0 : Array Value} {EL : List (String × Nat)} {h : Heap} {vm0 : Vm}
/-- a callee that keeps the invariant and writes to objects that are no constant's -/
theorem own_backSHs {y : MethodName} {bytes : ByteArray} {maxL : Nat} {ret : Option FieldType} {rm : Room} {len W : Nat} {as' : Array Value} {Q : Option Value → Heap → List Loc → Prop} {ss : List Addr}
    (hM : MetFree l y (head1 [Cond.code y bytes maxL ret] rm) (fun a U => a = as' ∧ Z.Warmed39 U.vm ∧ U.heap = h ∧ CHv Z EL U.vm h ∧ ∀ x ∈ ss, Safe Z EL U.vm h x) (fun _ _ _ _ _ => True) (fun _ U o U' => ∃ v L, o = .returned v ∧ Q v U'.heap L ∧ CHr Z EL U.vm U.heap U'.vm U'.heap ∧ ReturnedEndW U o U' L rm.cells rm.slots))
    (hZ : Z.Warmed39 vm0) (wc : (Cond.code y bytes maxL ret).before a0 Z = true) (wz : (Cond.initialized y.cls).before a0 Z = true) (hf : rm.frames + 1 ≤ R.frames) (hl : W + (maxL + 11) + rm.locals ≤ R.locals) (hEL : EW Z a0 EL) (H : CHv Z EL vm0 h) (hss : ∀ x ∈ ss, x < h.size ∧ Safe Z EL vm0 h x) :
    BackS l R p e below (s.setVm vm0) args y len W (fun A a => a = as' ∧ A.U.heap = h ∧ A.cells + rm.cells ≤ R.cells ∧ A.slots + rm.slots ≤ R.slots)
      (fun A _ v B => ∃ L, Q v B.U.heap L ∧ B.locs = A.locs ++ L ∧ B.cells = A.cells + rm.cells ∧ B.slots = A.slots + rm.slots ∧ CHr Z EL vm0 h B.U.vm B.U.heap) :=
  BackS.of_freeW (bytes := bytes) (maxL := maxL) (ret := ret) (E := fun _ first o t L k n => k = rm.cells ∧ n = rm.slots ∧ (∃ v, o = .returned v ∧ Q v t.heap L) ∧ CHr Z EL first.vm first.heap t.vm t.heap) hM hf hl
    (fun m meth c A a Y hp => have hU : Z.Warmed39 A.U.vm := wtrans (s := s.setVm vm0) hZ Y.warmed
      ⟨by show (Cond.and _ .tt).before a A.U = true; rw [Cond.before_and, mv hU wc]; rfl, mv hU wc, mv hU wz, hp.2.2.1, hp.2.2.2⟩)
    (fun m meth c A a g mk Y hp => ⟨hp.1, wtrans (s := s.setVm vm0) hZ Y.warmed, hp.2.1, (CHv.at Y hZ hEL H).1, fun x hx => (CHv.at Y hZ hEL H).safe (hss x hx).1 (hss x hx).2⟩) (fun _ _ _ _ _ _ _ _ _ => trivial)
    (fun _ _ _ _ ⟨v, L, h1, h2, h3, h4⟩ => ⟨L, _, _, h4, rfl, rfl, ⟨v, h1, h2⟩, h3⟩)
    (fun m meth c A a g mk v t L k n Y hp _ _ ⟨e1, e2, ⟨v', e3, e4⟩, e5⟩ => by
      cases e3; subst e1 e2
      refine ⟨L, e4, rfl, rfl, rfl, (CHv.at Y hZ hEL H).trans ?_⟩
      rw [← hp.2.1]; exact e5)
end OwnB
section OwnH
variable {p : Program} {l : Launch} {e : Env} {R : Room} {s : State} {m : MethodId} {args : Array Value} {below : List Frame} {meth : Method} {c : Code} {T : State} {locs : List Loc} {cells slots : Nat} {Q : Option Value → Heap → List Loc → Prop} {kc ks : Nat} {vm₁ : Vm} {nS : Nat} {Z : State} {EL : List (String × Nat)}
/-- the end of a body that keeps the invariant on the held constants -/
def own_GH (Z : State) (EL : List (String × Nat)) (s : State) (o : Outcome) (t : State) (L : List Loc) (k n : Nat) : Prop := CHr Z EL s.vm s.heap t.vm t.heap ∧ ReturnedEndW s o t L k n
theorem own_retAH (X : Stand p l e R (s.setVm vm₁) m args below meth c T locs cells slots) (hx : p.tables.exec = Jvm.exec) (hlk : meth.locks = false) (hS : s.Since vm₁ nS) (hk : nS ≤ T.heap.size) (hC : CHr Z EL s.vm s.heap T.vm T.heap) {pc : Nat} {Ls : Array Slot} {w : Value} {t : FieldType} {rest : List Value} (hret : meth.sig.returnType = some t) (ht : t.isReference = true) (hw : w.isRef = true)
    (hd : decode c.code pc = .ok (.areturn, 1)) (hc : cells ≤ kc) (hs : slots ≤ ks) (hq : Q (some w) T.heap locs) : own_Ends p e below s (own_GH Z EL) Q kc ks (T.setTop (mkF m pc Ls (w :: rest))) := by
  obtain ⟨fs, hr, hrun, hended, hW⟩ := X.leaveW hS hk (v := some w) (fun h => by rw [hret] at h; cases h) hlk
  have hn : narrow t w = w := by cases t <;> first | (cases ht; done) | rfl | (cases w <;> rfl)
  exact ⟨_, _, retOut X hx hret hn (Or.inr (Or.inr (Or.inr (Or.inr ⟨rfl, ht, hw⟩)))) hd hr, hrun, hended, _, _, rfl, hq, hC, own_monoW hW hc hs⟩
theorem own_ret0H (X : Stand p l e R (s.setVm vm₁) m args below meth c T locs cells slots) (hx : p.tables.exec = Jvm.exec) (hlk : meth.locks = false) (hS : s.Since vm₁ nS) (hk : nS ≤ T.heap.size) (hC : CHr Z EL s.vm s.heap T.vm T.heap) {pc : Nat} {Ls : Array Slot} (hret : meth.sig.returnType = none)
    (hd : decode c.code pc = .ok (.return_, 1)) (hc : cells ≤ kc) (hs : slots ≤ ks) (hq : Q none T.heap locs) : own_Ends p e below s (own_GH Z EL) Q kc ks (T.setTop (mkF m pc Ls [])) := by
  obtain ⟨fs, hr, hrun, hended, hW⟩ := X.leaveW hS hk (v := none) (fun _ => rfl) hlk
  exact ⟨_, _, X.returnOut hx hret hd hr, hrun, hended, _, _, rfl, hq, hC, own_monoW hW hc hs⟩
end OwnH
theorem own_sfor {Z : State} {EL : List (String × Nat)} {vm : Vm} {h : Heap} {b u : Addr} (ho : b = u ∨ h.size ≤ u) (S : Safe Z EL vm h b) : Safe Z EL vm h u := by
  rcases ho with rfl | q
  · exact S
  · exact Safe.new q
theorem own_nar2 (x : Int32) : nar .char (nar .char x) = nar .char x := by
  show (x.toUInt32.toUInt16.toUInt32.toInt32).toUInt32.toUInt16.toUInt32.toInt32 = x.toUInt32.toUInt16.toUInt32.toInt32
  have : (x.toUInt32.toUInt16.toUInt32.toInt32).toUInt32 = x.toUInt32.toUInt16.toUInt32 := rfl
  rw [this, UInt16.toUInt16_toUInt32]
def Qv (x : Int32) (h0 : Heap) (n0 : Nat) (v : Option Value) (h : Heap) (L : List Loc) : Prop := v = some (.int x) ∧ Fr n0 L ∧ h = h0
def Qn (h0 : Heap) (n0 : Nat) (v : Option Value) (h : Heap) (L : List Loc) : Prop := v = none ∧ Fr n0 L ∧ h = h0
def own_at (cs : List Int32) (j : Int32) : Int32 := cs.getD j.toNatClampNeg 0
theorem own_at_eq (cs : List Int32) (j : Int32) : (cs.map Value.int).getD j.toNatClampNeg (.int 0) = .int (own_at cs j) := by
  unfold own_at
  simp only [List.getD_eq_getElem?_getD, List.getElem?_map]
  cases cs[j.toNatClampNeg]? <;> rfl
/-- the sign at a place of a String of one-byte signs -/
def own_ch (cs : List Int32) (j : Int32) : Int32 := nar .char (((own_at cs j) &&& 255).toUInt32.toUInt16.toUInt32.toInt32)
def own_b8 (c : Int32) : Int32 := nar .byte (c.toInt8.toInt32)
theorem own_notFace {s : State} {args : Array Value} {C : String} {y w : MethodName} (ws : (Cond.selects C w w).before args s = true) (hc : w.cls = y.cls) : NotFace s y := fun r0 h0 => by
  obtain ⟨c2, r2, m2, q1, q2, q3, q4, kP, hkP, hkPi⟩ := Cond.selects_spec ws
  have f1 := findClass_of_methodNamed h0
  have f2 := findClass_of_methodNamed q3
  rw [hc, f1] at f2
  have e : r0.cls = m2.cls := Option.some.inj f2
  exact ⟨kP, by rw [e]; exact hkP, hkPi⟩
theorem own_selQ {Z : State} {a0 : Array Value} {C : String} {y : MethodName} (ws : (Cond.selects C y y).before a0 Z = true) (wp : (Cond.privateMethod y).before a0 Z = true) (wm : (Cond.instanceMethod y).before a0 Z = true) (hy : y.cls ≠ "java/lang/invoke/MethodHandle" ∧ y.cls ≠ "java/lang/invoke/VarHandle") : (Cond.selects y.cls y y).before a0 Z = true := by
  obtain ⟨c2, r2, m2, q1, q2, q3, q4, kP, hkP, hkPi⟩ := Cond.selects_spec ws
  exact selects_self_of_private (findClass_of_methodNamed q3) hkP hkPi (Cond.privateMethod_at wp) wm hy
theorem own_sameM {Z : State} {a0 : Array Value} {C : String} {y w : MethodName} (wd : (Cond.declares y).before a0 Z = true) (ws : (Cond.selects C w w).before a0 Z = true) (hc : w.cls = y.cls) (hy : y.cls ≠ "java/lang/invoke/MethodHandle" ∧ y.cls ≠ "java/lang/invoke/VarHandle") : (Cond.sameMethod y.cls y.cls y.name y.desc).before a0 Z = true := by
  obtain ⟨m, meth, hn, -, -, -⟩ := Cond.declares_spec wd
  obtain ⟨c2, r2, m2, q1, q2, q3, q4, kP, hkP, hkPi⟩ := Cond.selects_spec ws
  have f1 := findClass_of_methodNamed hn
  have f2 := findClass_of_methodNamed q3
  rw [hc, f1] at f2
  have f3 : m.cls = m2.cls := Option.some.inj f2
  have e := State.methodFound?_of_named hn hy
  have hn' : Z.methodNamed? ⟨y.cls, y.name, y.desc⟩ = some m := hn
  simp [Cond.before, Cond.holds, Cond.value, f1, e, hn', f3, hkP, hkPi]
section OwnClone
variable {p : Program} {l : Launch} {e : Env} {R : Room} {s : State} {m : MethodId} {args : Array Value} {below : List Frame} {meth : Method} {c : Code} {T : State} {locs : List Loc} {cells slots : Nat} {Z : State} {h : Heap} {a : Addr} {ty : FieldType}
theorem own_cloneV (X : Stand p l e R s m args below meth c T locs cells slots) (hx : p.tables.exec = Jvm.exec) (hZ : Z.Warmed39 s.vm) {a0 : Array Value} {own ad : String} {index : Nat} (hown : s.vm.findClass own = some m.cls)
    (w1 : (Cond.methodLink own index ⟨ad, "clone", "()Ljava/lang/Object;"⟩).before a0 Z = true) (w2 : (Cond.sameMethod ad "java/lang/Object" "clone" "()Ljava/lang/Object;").before a0 Z = true) (w3 : (Cond.native ⟨"java/lang/Object", "clone", "()Ljava/lang/Object;"⟩).before a0 Z = true)
    (w4 : (Cond.instanceMethod ⟨"java/lang/Object", "clone", "()Ljava/lang/Object;"⟩).before a0 Z = true) (w5 : (Cond.selects ad ⟨ad, "clone", "()Ljava/lang/Object;"⟩ ⟨"java/lang/Object", "clone", "()Ljava/lang/Object;"⟩).before a0 Z = true) (w6 : (Cond.castable ad "java/lang/Cloneable").before a0 Z = true)
    (eT : T.heap = h) {k : ClassId} {z : Int32} {vs : List Value} {dv : Value} (F : Arv Z h a k ty z vs dv) (E : Exa Z h a ad) {g : JFrame} (hg : g.method = m) (hsize : g.locals.size = c.maxLocals) {rest : List Value} (hst : g.stack = .ref a :: rest) (hd : decode c.code g.pc = .ok (.invokevirtual index, 3))
    (hf : 1 ≤ R.frames) {W cap : Nat} (hW : 2 * g.monitorRoom + (rest.map fun v => v.category).sum ≤ W) (hl : W + 14 ≤ R.locals) (hcap : z.toNatClampNeg ≤ cap) (hc : cells + 1 ≤ R.cells) (hsl : slots + cap ≤ R.slots) :
    ∃ T' h', Stand p l e R s m args below meth c T' locs (cells + 1) (slots + cap) ∧ T'.heap = h' ∧ Ext h h' ∧ Arv Z h' h.size k ty z vs dv ∧ Exa Z h' h.size ad ∧
      ∀ target, Steps p.tables e below (T'.setTop { g with pc := g.pc + 3, stack := .ref h.size :: rest }) target → Steps p.tables e below (T.setTop g) target := by
  obtain ⟨cl, A, q1, S, q3, H, G⟩ := F
  have FC : FitC Z cl := fitC_of A fun i hi v hv => by rw [H i hi] at hv; cases hv; exact G i hi
  obtain ⟨T', h', X', e', ex, A', E', st⟩ := cloneA X hx hZ hown w1 w2 w3 w4 w5 w6 eT A E FC hg hsize hst hd hf hW hl (by rw [S]; exact hcap) hc hsl
  exact ⟨T', h', X', e', ex, ⟨cloneOf cl, A', q1, S, q3, H, G⟩, E', st⟩
end OwnClone
theorem own_neor {o b b' : Addr} {n : Nat} (h : b = b' ∨ n ≤ b') (h1 : o ≠ b) (h2 : o < n) : o ≠ b' := by
  rcases h with rfl | h
  · exact h1
  · exact Nat.ne_of_lt (Nat.lt_of_lt_of_le h2 h)
/-- a StringBuilder at a, its array at b (z places), n signs: the bytes cs -/
def own_SB (Z : State) (h : Heap) (a b : Addr) (kb : ClassId) (z n : Int32) (cs : List Int32) : Prop := Exa Z h a "java/lang/StringBuilder" ∧ Fld Z h a "java/lang/AbstractStringBuilder" "value" "[B" (.ref b) ∧ Fld Z h a "java/lang/AbstractStringBuilder" "coder" "B" (.int (0 : Int32)) ∧ Fld Z h a "java/lang/AbstractStringBuilder" "count" "I" (.int n) ∧
  Exa Z h b "[B" ∧ Arv Z h b kb .byte z (List.map Value.int cs) (.int (0 : Int32)) ∧ (z = 16 ∨ z = 34) ∧ n.toInt = cs.length ∧ (cs.length : Int) ≤ z.toInt
theorem own_shr0 (z : Int32) : z >>> ((0 : Int32) &&& 31) = z := by
  apply Int32.toInt_inj.mp
  rw [c_ishr z 0 0 (by decide)]
  simp
theorem own_shl0 (z : Int32) : z <<< ((0 : Int32) &&& 31) = z := by
  have h := c_ishl z 0 0 (by decide)
  have r1 := rng32 z
  have r2 := rng32 (z <<< ((0 : Int32) &&& 31))
  apply Int32.toInt_inj.mp
  generalize (z <<< ((0 : Int32) &&& 31)).toInt = w at *
  rw [show ((2 ^ 0 : Nat) : Int) = 1 from rfl] at h
  omega
theorem own_sub0 (z : Int32) : z - (0 : Int32) = z := Int32.sub_zero z
def own_min (x y : Int32) : Int32 := if y < x then y else x
def own_max (x y : Int32) : Int32 := if x < y then y else x
theorem own_i18 : (18 : Int32).toInt = 18 := by decide
theorem own_i16 : (16 : Int32).toInt = 16 := by decide
theorem own_i34 : (34 : Int32).toInt = 34 := by decide
theorem own_i0 : (0 : Int32).toInt = 0 := by decide
theorem own_ge0 {x : Int32} (h : 0 ≤ x.toInt) : ¬ (x < (0 : Int32)) := by rw [Int32.lt_iff_toInt_lt, own_i0]; omega
theorem own_ltI {x y : Int32} : x < y ↔ x.toInt < y.toInt := Int32.lt_iff_toInt_lt
theorem own_clamp {x : Int32} {n : Nat} (h : x.toInt = n) : x.toNatClampNeg = n := by simp only [Int32.toNatClampNeg, h]; rfl
theorem own_addI {x y : Int32} (h1 : -2147483648 ≤ x.toInt + y.toInt) (h2 : x.toInt + y.toInt < 2147483648) : (x + y).toInt = x.toInt + y.toInt := by
  have h := c_iadd x y
  have r := rng32 (x + y)
  omega
theorem own_subI {x y : Int32} (h1 : -2147483648 ≤ x.toInt - y.toInt) (h2 : x.toInt - y.toInt < 2147483648) : (x - y).toInt = x.toInt - y.toInt := by
  have h := c_isub x y
  have r := rng32 (x - y)
  omega
theorem own_nl {x : Int32} (h : ¬ ((18 : Int32) < x)) : (16 : Int32) + own_max x (18 : Int32) = (34 : Int32) := by
  unfold own_max
  split
  · decide
  · rename_i q
    have e : x = 18 := by
      apply Int32.toInt_inj.mp
      rw [own_ltI] at h q
      rw [own_i18] at h q ⊢
      omega
    rw [e]; decide
theorem own_h18 {x : Int32} (h0 : 0 ≤ x.toInt) (h1 : x.toInt ≤ 34) : ¬ ((18 : Int32) < (x - (16 : Int32))) := by
  have e := own_subI (x := x) (y := 16) (by rw [own_i16]; omega) (by rw [own_i16]; omega)
  rw [own_ltI, e, own_i18, own_i16]; omega
theorem own_minle {z n : Int32} (h : n.toInt ≤ z.toInt) : own_min (z - (0 : Int32)) n = n := by
  unfold own_min
  rw [own_sub0]
  split
  · rfl
  · rename_i q
    apply Int32.toInt_inj.mp
    rw [own_ltI] at q; omega
theorem own_padk (cs : List Int32) (k : Nat) : ∀ i, (List.map Value.int (cs ++ List.replicate k (0 : Int32))).getD i (.int (0 : Int32)) = (List.map Value.int cs).getD i (.int (0 : Int32)) := by
  rw [List.map_append, List.map_replicate]; exact pad_rep _ _ _
/-- what a copy of bs behind cs holds -/
theorem own_cp (cs bs : List Int32) (k n : Nat) (hb : bs.length ≤ n) (i : Nat) : (List.map Value.int (cs ++ bs)).getD i (.int (0 : Int32)) = (((List.map Value.int (cs ++ List.replicate k (0 : Int32))).take cs.length) ++ ((List.range n).map fun j => (List.map Value.int bs).getD (0 + j) (.int (0 : Int32))) ++ ((List.map Value.int (cs ++ List.replicate k (0 : Int32))).drop (cs.length + n))).getD i (.int (0 : Int32)) := by
  have e1 : (List.map Value.int (cs ++ List.replicate k (0 : Int32))).take cs.length = List.map Value.int cs := by
    rw [List.map_append, List.take_append_of_le_length (by rw [List.length_map]; exact Nat.le_refl _), List.take_of_length_le (by rw [List.length_map]; exact Nat.le_refl _)]
  have e2 : (List.map Value.int (cs ++ List.replicate k (0 : Int32))).drop (cs.length + n) = List.replicate (k - n) (.int (0 : Int32)) := by
    rw [List.map_append, List.map_replicate, List.drop_append, List.drop_of_length_le (by rw [List.length_map]; omega), List.nil_append, List.length_map, List.drop_replicate]
    congr 1; omega
  rw [e1, e2, pad_rep, List.map_append]
  simp only [List.getD_eq_getElem?_getD]
  by_cases h1 : i < (List.map Value.int cs).length
  · rw [List.getElem?_append_left h1, List.getElem?_append_left h1]
  · rw [List.getElem?_append_right (Nat.le_of_not_lt h1), List.getElem?_append_right (Nat.le_of_not_lt h1), List.getElem?_map, List.getElem?_map]
    by_cases h2 : i - (List.map Value.int cs).length < n
    · rw [List.getElem?_range h2]; simp [List.getElem?_map]
    · rw [List.getElem?_eq_none (l := bs) (by omega), List.getElem?_eq_none (l := List.range n) (by rw [List.length_range]; omega)]; rfl
theorem own_cpI (cs bs : List Int32) {sp dp nn : Int32} (hs : sp.toNatClampNeg = 0) (hp : dp.toNatClampNeg = cs.length) (hb : bs.length ≤ nn.toNatClampNeg) : ∀ i, (List.map Value.int (cs ++ bs)).getD i (.int (0 : Int32)) = (((List.map Value.int (cs ++ List.replicate nn.toNatClampNeg (0 : Int32))).take dp.toNatClampNeg) ++ ((List.range nn.toNatClampNeg).map fun j => (List.map Value.int bs).getD (sp.toNatClampNeg + j) (.int (0 : Int32))) ++ ((List.map Value.int (cs ++ List.replicate nn.toNatClampNeg (0 : Int32))).drop (dp.toNatClampNeg + nn.toNatClampNeg))).getD i (.int (0 : Int32)) := by
  rw [hs, hp]; exact own_cp cs bs _ _ hb
theorem own_cpl (cs : List Int32) {dp nn : Int32} (hp : dp.toNatClampNeg = cs.length) : dp.toNatClampNeg + nn.toNatClampNeg ≤ (List.map Value.int (cs ++ List.replicate nn.toNatClampNeg (0 : Int32))).length := by
  rw [List.length_map, List.length_append, List.length_replicate, hp]; exact Nat.le_refl _
theorem own_setR (cs ds : List Int32) (n : Nat) (d : Int32) : (cs ++ (List.replicate (n + 1) (0 : Int32) ++ ds)).set (cs.length + n) d = cs ++ (List.replicate n (0 : Int32) ++ d :: ds) := by
  rw [List.set_append_right _ _ (by omega), Nat.add_sub_cancel_left]
  congr 1
  rw [List.set_append_left _ _ (by rw [List.length_replicate]; omega), List.replicate_succ', List.set_append_right _ _ (by rw [List.length_replicate]; exact Nat.le_refl _), List.length_replicate, Nat.sub_self, List.append_assoc]
  rfl
def Qai (Z : State) (a1 b : Addr) (cs : List Int32) (h0 : Heap) (n0 : Nat) (v : Option Value) (h : Heap) (L : List Loc) : Prop := v = some (.ref a1) ∧ Fr n0 L ∧ Keep h0 h [a1, b] ∧ ∃ (b' : Addr) (kb' : ClassId) (z' n' : Int32), (b = b' ∨ h0.size ≤ b') ∧ own_SB Z h a1 b' kb' z' n' cs
/-- a String of one-byte signs, or null; its objects lie below n -/
def own_OS (Z : State) (h : Heap) (n : Nat) (w : Value) (cs : List Int32) : Prop := (w = .null ∧ cs = [110, 117, 108, 108]) ∨ ∃ (a b : Addr) (kb : ClassId) (z : Int32), w = .ref a ∧ a < n ∧ b < n ∧ Exa Z h a "java/lang/String" ∧ Fld Z h a "java/lang/String" "coder" "B" (.int (0 : Int32)) ∧ Fld Z h a "java/lang/String" "value" "[B" (.ref b) ∧ Arv Z h b kb .byte z (List.map Value.int cs) (.int (0 : Int32)) ∧ z.toInt = cs.length
theorem own_OSkeep {Z : State} {h h' : Heap} {n : Nat} {w : Value} {cs : List Int32} {ws : List Addr} (O : own_OS Z h n w cs) (K : Keep h h' ws) (q : ∀ x ∈ ws, n ≤ x) : own_OS Z h' n w cs := by
  rcases O with O | ⟨a, b, kb, z, e, la, lb, E, C, F, V, hz⟩
  · exact Or.inl O
  · exact Or.inr ⟨a, b, kb, z, e, la, lb, E.keep K, C.keep K (fun m => absurd (q a m) (Nat.not_le.mpr la)), F.keep K (fun m => absurd (q a m) (Nat.not_le.mpr la)), V.keep K (fun m => absurd (q b m) (Nat.not_le.mpr lb)), hz⟩
theorem own_OSext {Z : State} {h h' : Heap} {n : Nat} {w : Value} {cs : List Int32} (O : own_OS Z h n w cs) (E' : Ext h h') : own_OS Z h' n w cs := by
  rcases O with O | ⟨a, b, kb, z, e, la, lb, E, C, F, V, hz⟩
  · exact Or.inl O
  · exact Or.inr ⟨a, b, kb, z, e, la, lb, E.ext E', C.ext E', F.ext E', V.ext E', hz⟩
theorem own_OSmono {Z : State} {h : Heap} {n n' : Nat} {w : Value} {cs : List Int32} (O : own_OS Z h n w cs) (q : n ≤ n') : own_OS Z h n' w cs := by
  rcases O with O | ⟨a, b, kb, z, e, la, lb, r⟩
  · exact Or.inl O
  · exact Or.inr ⟨a, b, kb, z, e, Nat.lt_of_lt_of_le la q, Nat.lt_of_lt_of_le lb q, r⟩
theorem own_OSref {Z : State} {h : Heap} {n : Nat} {w : Value} {cs : List Int32} (O : own_OS Z h n w cs) : w.isRef = true := by
  rcases O with ⟨rfl, -⟩ | ⟨a, b, kb, z, rfl, -⟩ <;> rfl
theorem own_mono {l : Launch} {x : MethodName} {S : Spec} {P : Array Value → State → Prop} {K : Program → Env → List Frame → State → Array Value → Prop} {Q Q' : Array Value → State → Outcome → State → Prop} (h : MetFree l x S P K Q) (hq : ∀ a s o t, Q a s o t → Q' a s o t) : MetFree l x S P K Q' := fun p e ha hc hk s m args below hf happ hP hK => by
  obtain ⟨n, o, h1, h2, h3, h4⟩ := h p e ha hc hk s m args below hf happ hP hK
  exact ⟨n, o, h1, h2, h3, hq _ _ _ _ h4⟩
theorem own_leN {x : Int32} {n : Nat} (h : (n : Int) ≤ x.toInt) : n ≤ x.toNatClampNeg := by
  simp only [Int32.toNatClampNeg]; omega
theorem own_nogrow {x : Int32} (h : ¬ ((0 : Int32) < (x - (16 : Int32)))) (h0 : 0 ≤ x.toInt) (h1 : x.toInt ≤ 34) : x.toInt ≤ (16 : Int32).toInt := by
  have e := own_subI (x := x) (y := 16) (by rw [own_i16]; omega) (by rw [own_i16]; omega)
  rw [own_ltI, e, own_i0, own_i16] at h
  rw [own_i16]; omega
theorem own_nogr34 {x : Int32} (h0 : 0 ≤ x.toInt) (h1 : x.toInt ≤ 34) : ¬ ((0 : Int32) < (x - (34 : Int32))) := by
  have e := own_subI (x := x) (y := 34) (by rw [own_i34]; omega) (by rw [own_i34]; omega)
  rw [own_ltI, e, own_i0, own_i34]; omega
theorem own_z0 : (0 : Int32).toNatClampNeg = 0 := rfl
def own_o (m : Nat) : Int32 := Int32.ofNat (48 + m % 10)
def own_t (m : Nat) : Int32 := Int32.ofNat (48 + m % 100 / 10)
/-- the decimal digits of m, two at a time -/
def own_dec (m : Nat) : List Int32 := if h : 100 ≤ m then own_dec (m / 100) ++ [own_t m, own_o m] else if 10 ≤ m then [own_t m, own_o m] else [own_o m]
termination_by m
decreasing_by omega
theorem own_digB {m : Nat} (h : 100 ≤ m) : own_dec m = own_dec (m / 100) ++ [own_t m, own_o m] := by rw [own_dec, dif_pos h]
theorem own_digT {m : Nat} (h : ¬ 100 ≤ m) (h2 : 10 ≤ m) : own_dec m = [own_t m, own_o m] := by rw [own_dec, dif_neg h, if_pos h2]
theorem own_digO {m : Nat} (h : ¬ 100 ≤ m) (h2 : ¬ 10 ≤ m) : own_dec m = [own_o m] := by rw [own_dec, dif_neg h, if_neg h2]
def own_sg (x : Int32) : List Int32 := if x < 0 then [45] else []
def own_num (x : Int32) : List Int32 := own_sg x ++ own_dec x.toInt.natAbs
theorem own_ya {x sv y : Int32} (h1 : sv = if x < (0 : Int32) then (1 : Int32) else (0 : Int32)) (h2 : y = if sv = (0 : Int32) then (-x) else x) : y.toInt = -(x.toInt.natAbs : Int) := by
  by_cases q : x < (0 : Int32)
  · rw [if_pos q] at h1; rw [h1, if_neg (by decide)] at h2; rw [h2]
    rw [Int32.lt_iff_toInt_lt, show (0 : Int32).toInt = 0 by decide] at q; omega
  · rw [if_neg q] at h1; rw [h1, if_pos rfl] at h2; rw [h2]
    have e := c_ineg x
    have r := rng32 (-x)
    have r2 := rng32 x
    rw [Int32.lt_iff_toInt_lt, show (0 : Int32).toInt = 0 by decide] at q; omega
theorem own_sl1 {x sv : Int32} (h1 : sv = if x < (0 : Int32) then (1 : Int32) else (0 : Int32)) (h : ¬ (sv = (0 : Int32))) : own_sg x = [45] := by
  by_cases q : x < (0 : Int32)
  · unfold own_sg; exact if_pos q
  · rw [if_neg q] at h1; exact absurd h1 h
theorem own_sl0 {x sv : Int32} (h1 : sv = if x < (0 : Int32) then (1 : Int32) else (0 : Int32)) (h : sv = (0 : Int32)) : own_sg x = [] := by
  by_cases q : x < (0 : Int32)
  · rw [if_pos q, h] at h1; exact absurd h1 (by decide)
  · unfold own_sg; exact if_neg q
def own_ones : List Int32 := (List.range 100).map fun i => own_o i
def own_tens : List Int32 := (List.range 100).map fun i => own_t i
theorem own_oM (m : Nat) : own_o (m % 100) = own_o m := by unfold own_o; rw [show m % 100 % 10 = m % 10 by omega]
theorem own_tM (m : Nat) : own_t (m % 100) = own_t m := by unfold own_t; rw [show m % 100 % 100 = m % 100 by omega]
theorem own_at_r {f : Nat → Int32} {r : Int32} {m : Nat} (h : r.toInt = m) (hm : m < 100) : own_at ((List.range 100).map f) r = f m := by
  unfold own_at
  rw [own_clamp h, List.getD_eq_getElem?_getD, List.getElem?_map, List.getElem?_range hm]; rfl
theorem own_ofI {m : Nat} (h : m < 2147483648) : (Int32.ofNat m).toInt = m := Int32.toInt_ofNat_of_lt (by simpa using h)
theorem own_byte {x : Int32} (h0 : 0 ≤ x.toInt) (h1 : x.toInt < 128) : x.toInt8.toInt32 = x := by
  apply Int32.toInt_inj.mp
  have h := c_i2b x
  omega
theorem own_oI (m : Nat) : (own_o m).toInt = 48 + (m % 10 : Nat) := by unfold own_o; rw [own_ofI (by omega)]; omega
theorem own_tI (m : Nat) : (own_t m).toInt = 48 + (m % 100 / 10 : Nat) := by unfold own_t; rw [own_ofI (by omega)]; omega
theorem own_ob (m : Nat) : (own_o m).toInt8.toInt32 = own_o m := own_byte (by rw [own_oI]; omega) (by rw [own_oI]; omega)
theorem own_tb (m : Nat) : (own_t m).toInt8.toInt32 = own_t m := own_byte (by rw [own_tI]; omega) (by rw [own_tI]; omega)
theorem own_nb (x : Int32) (h : x = 45 ∨ x = 110 ∨ x = 117 ∨ x = 108) : x.toInt8.toInt32 = x := by rcases h with rfl | rfl | rfl | rfl <;> decide
theorem own_i100 : (100 : Int32).toInt = 100 := by decide
theorem own_im100 : (-100 : Int32).toInt = -100 := by decide
theorem own_im9 : (-9 : Int32).toInt = -9 := by decide
theorem own_im1 : (-1 : Int32).toInt = -1 := by decide
/-- one turn: the hundreds and the rest of -m -/
theorem own_q100 {y : Int32} {m : Nat} (h : y.toInt = -(m : Int)) (hm : 100 ≤ m) : (y / (100 : Int32)).toInt = -((m / 100 : Nat) : Int) := by
  have q := (c_idiv y 100 100 own_i100 (by decide)).2 (by omega)
  rw [q, h]; omega
theorem own_r100 {y q : Int32} {m : Nat} (h : y.toInt = -(m : Int)) (hq : q.toInt = -((m / 100 : Nat) : Int)) (hm : m ≤ 2147483648) : ((q * (100 : Int32)) - y).toInt = (m % 100 : Nat) := by
  have e1 := c_imul q 100
  have e2 := c_isub (q * 100) y
  have r1 := rng32 (q * 100)
  have r2 := rng32 ((q * 100) - y)
  rw [own_i100, hq] at e1
  rw [h] at e2
  omega
theorem own_negI {y : Int32} {m : Nat} (h : y.toInt = -(m : Int)) (hm : m < 2147483648) : (-y).toInt = m := by
  have e := c_ineg y
  have r := rng32 (-y)
  omega
theorem own_neg0 {x : Int32} (h : ¬ x < 0) : (-x).toInt = -(x.toInt.natAbs : Int) := by
  have e := c_ineg x
  have r := rng32 (-x)
  have r2 := rng32 x
  rw [own_ltI, own_i0] at h
  omega
theorem own_dlen (m : Nat) (h : m ≤ 2147483648) : ((own_dec m).length : Int) = if m < 10 then 1 else if m < 100 then 2 else if m < 1000 then 3 else if m < 10000 then 4 else if m < 100000 then 5 else if m < 1000000 then 6 else if m < 10000000 then 7 else if m < 100000000 then 8 else if m < 1000000000 then 9 else 10 := by
  have a1 : m / 100 / 100 = m / 10000 := by omega
  have a2 : m / 10000 / 100 = m / 1000000 := by omega
  have a3 : m / 1000000 / 100 = m / 100000000 := by omega
  by_cases h1 : 100 ≤ m
  · rw [own_digB h1, List.length_append]
    by_cases h2 : 100 ≤ m / 100
    · rw [own_digB h2, List.length_append, a1]
      by_cases h3 : 100 ≤ m / 10000
      · rw [own_digB h3, List.length_append, a2]
        by_cases h4 : 100 ≤ m / 1000000
        · rw [own_digB h4, List.length_append, a3]
          by_cases h5 : 10 ≤ m / 100000000
          · rw [own_digT (by omega) h5]; simp only [List.length_cons, List.length_nil]; repeat (first | rw [if_neg (by omega)] | omega)
          · rw [own_digO (by omega) h5]; simp only [List.length_cons, List.length_nil]; repeat (first | rw [if_neg (by omega)] | (rw [if_pos (by omega)]; omega))
        · by_cases h5 : 10 ≤ m / 1000000
          · rw [own_digT h4 h5]; simp only [List.length_cons, List.length_nil]; repeat (first | rw [if_neg (by omega)] | (rw [if_pos (by omega)]; omega))
          · rw [own_digO h4 h5]; simp only [List.length_cons, List.length_nil]; repeat (first | rw [if_neg (by omega)] | (rw [if_pos (by omega)]; omega))
      · by_cases h5 : 10 ≤ m / 10000
        · rw [own_digT h3 h5]; simp only [List.length_cons, List.length_nil]; repeat (first | rw [if_neg (by omega)] | (rw [if_pos (by omega)]; omega))
        · rw [own_digO h3 h5]; simp only [List.length_cons, List.length_nil]; repeat (first | rw [if_neg (by omega)] | (rw [if_pos (by omega)]; omega))
    · by_cases h5 : 10 ≤ m / 100
      · rw [own_digT h2 h5]; simp only [List.length_cons, List.length_nil]; repeat (first | rw [if_neg (by omega)] | (rw [if_pos (by omega)]; omega))
      · rw [own_digO h2 h5]; simp only [List.length_cons, List.length_nil]; repeat (first | rw [if_neg (by omega)] | (rw [if_pos (by omega)]; omega))
  · by_cases h5 : 10 ≤ m
    · rw [own_digT h1 h5]; simp only [List.length_cons, List.length_nil]; repeat (first | rw [if_neg (by omega)] | (rw [if_pos (by omega)]; omega))
    · rw [own_digO h1 h5]; simp only [List.length_cons, List.length_nil]; repeat (first | rw [if_neg (by omega)] | (rw [if_pos (by omega)]; omega))
theorem own_sgl (x : Int32) : ((own_sg x).length : Int) = if x < 0 then 1 else 0 := by unfold own_sg; split <;> rfl
theorem own_numlen (x : Int32) : (own_num x).length ≤ 11 ∧ 1 ≤ (own_num x).length := by
  have h1 := own_dlen x.toInt.natAbs (by have := rng32 x; omega)
  have h2 := own_sgl x
  have e : (own_num x).length = (own_sg x).length + (own_dec x.toInt.natAbs).length := by unfold own_num; rw [List.length_append]
  split at h2 <;> (split at h1; omega; split at h1; omega; split at h1; omega; split at h1; omega; split at h1; omega; split at h1; omega; split at h1; omega; split at h1; omega; split at h1; omega; omega)
theorem own_at_mem {cs : List Int32} {x : Int32} {j : Nat} (h : x.toInt = j) (hj : j < cs.length) : own_at cs x ∈ cs := by
  unfold own_at
  rw [own_clamp h, List.getD_eq_getElem?_getD, List.getElem?_eq_getElem hj]
  exact List.getElem_mem hj
theorem own_take1 {cs : List Int32} {x : Int32} {j : Nat} (h : x.toInt = j) (hj : j < cs.length) : List.map own_b8 (cs.take j) ++ (List.replicate 0 (0 : Int32) ++ own_b8 (own_at cs x) :: []) = List.map own_b8 (cs.take (j + 1)) := by
  have e : own_at cs x = cs[j] := by
    unfold own_at
    rw [own_clamp h, List.getD_eq_getElem?_getD, List.getElem?_eq_getElem hj]; rfl
  rw [e, List.take_add_one, List.getElem?_eq_getElem hj, List.map_append]; rfl
theorem own_cfz (z : Int32) : nar .byte ((XT.ushr (z - z) (31 : Int32)).toInt8.toInt32) = 0 := by
  rw [Int32.sub_self]; decide
theorem own_inc {x : Int32} {j : Nat} (h : x.toInt = j) (hj : j ≤ 1000000) : (x + (1 : Int32)).toInt = ((j + 1 : Nat) : Int) := by
  rw [own_addI (by rw [show (1 : Int32).toInt = 1 by decide]; omega) (by rw [show (1 : Int32).toInt = 1 by decide]; omega), show (1 : Int32).toInt = 1 by decide]; omega
abbrev mN_0 : MethodName := ⟨"java/lang/String", "coder", "()B"⟩
theorem d16_0 : decode jdk_42_method_152_code 0 = .ok (.getstatic 38, 3) := by decide +kernel
theorem d16_3 : decode jdk_42_method_152_code 3 = .ok (.ifCond .eq 10, 3) := by decide +kernel
theorem d16_6 : decode jdk_42_method_152_code 6 = .ok (.aload_n 0, 1) := by decide +kernel
theorem d16_7 : decode jdk_42_method_152_code 7 = .ok (.getfield 15, 3) := by decide +kernel
theorem d16_10 : decode jdk_42_method_152_code 10 = .ok (.goto 4, 3) := by decide +kernel
theorem d16_14 : decode jdk_42_method_152_code 14 = .ok (.ireturn, 1) := by decide +kernel
theorem pn_0 : plainName "java/lang/String" = true := by first | (simp [plainName, overriddenIn]; done) | decide +kernel
theorem ef_coL (m : MethodId) (x0 : Addr) : entryFrame m #[(.ref x0)] 1 = mkF m 0 #[.val (.ref x0)] [] := by first | (simp [entryFrame, mkF, argsToLocals, Value.category]; done) | rfl
set_option maxRecDepth 65536 in
set_option maxHeartbeats 40000000 in
theorem rmcoL (l : Launch) (Z : State) (a0 : Array Value) (hw : ∀ d ∈ tables_1, d.before a0 Z = true) (ws : List Jvm.Cond) (a1 : Addr) (g1 : Int32) (h0 : Heap) (n0 : Nat) (Z0 : n0 ≤ h0.size) (Fc : Fld Z h0 a1 "java/lang/String" "coder" "B" (.int (0 : Int32))) (SC : Sta Z h0 "java/lang/String" "COMPACT_STRINGS" "Z" (.int g1)) (hg1 : ¬ (g1 = (0 : Int32))) :
    MetFree l mN_0 (head1 (Jvm.Cond.code mN_0 jdk_42_method_152_code 1 (some .byte) :: ws) ({ frames := 0, cells := 0, slots := 0, locals := 0 } : Room)) (fun a U => a = #[(.ref a1)] ∧ Z.Warmed39 U.vm ∧ U.heap = h0) (fun _ _ _ _ _ => True) (fun _ U o U' => ∃ v L, o = .returned v ∧ (Qv 0 h0 n0) v U'.heap L ∧ FrameEnd U o U' L ({ frames := 0, cells := 0, slots := 0, locals := 0 } : Room).cells ({ frames := 0, cells := 0, slots := 0, locals := 0 } : Room).slots) := by
  refine MetFree.of_bodySF (plainFor_of_name pn_0) hisR ?_
  intro p e s m args below meth c s₁ Bd hml0 hP hK
  obtain ⟨rfl, hZ, hh⟩ := hP
  have hx := Bd.exec
  have hby := Bd.bytes
  have hml : c.maxLocals = 1 := hml0
  have hown : s.vm.findClass "java/lang/String" = some m.cls := findClass_of_methodNamed Bd.named
  have hnm := (name_of_methodNamed Bd.named Bd.method).1
  have hlk := Bd.notSynchronized
  have X0 : Stand p l e ({ frames := 0, cells := 0, slots := 0, locals := 0 } : Room) s m #[(.ref a1)] below meth c s₁ [] 0 0 := Stand.of_body Bd
  have e0 : s₁.heap = h0 := by rw [← hh, Bd.state]; rfl
  have N0 := Fr.nil n0
  show own_Ends p e below s FrameEnd (Qv 0 h0 n0) 0 0 (s₁.setTop (entryFrame m #[(.ref a1)] 1))
  refine own_of (U' := (s₁.setTop (mkF m 0 #[.val (.ref a1)] []))) (fun _ k => castTop (ef_coL m a1) k) ?_
  obtain ⟨T1, X1, e1, st1⟩ := getS2 X0 hx hZ hown (host := "") (Or.inl (own_w hw 18 rfl)) Via.refl e0 SC (g := (mkF m 0 #[.val (.ref a1)] [])) rfl (hb hby d16_0)
  refine own_of (U' := (T1.setTop (mkF m 3 #[.val (.ref a1)] [(.int g1)]))) (st1) ?_
  have hc3_2 : ¬ (g1 = (0 : Int32)) := hg1
  refine own_ifNo X1 hx hby d16_3 ((if0 _ _).trans (feq hc3_2).1) ?_
  refine own_aloadN X1 hx hby d16_6 rfl rfl ?_
  obtain ⟨T3, X3, e3, st3⟩ := getF X1 hx hZ hown (host := "") (Or.inl (own_w hw 30 rfl)) Via.refl e1 Fc (g := (mkF m 7 #[.val (.ref a1)] [(.ref a1)])) rfl rfl (hb hby d16_7)
  refine own_of (U' := (T3.setTop (mkF m 10 #[.val (.ref a1)] [(.int (0 : Int32))]))) (st3) ?_
  refine own_goto X3 hx hby 10 14 d16_10 (by decide) (by decide) ?_
  exact own_retN X3 hx hlk (t := .byte) Bd.returns (by simp) (hb hby d16_14) (by decide) (by decide) (⟨rfl, N0, e3⟩)
abbrev mN_1 : MethodName := ⟨"java/lang/String", "length", "()I"⟩
theorem pd_0 : parseMethodDescriptor "()B" = some ⟨[], some .byte⟩ := by decide +kernel
theorem d15_0 : decode jdk_42_method_54_code 0 = .ok (.aload_n 0, 1) := by decide +kernel
theorem d15_1 : decode jdk_42_method_54_code 1 = .ok (.getfield 9, 3) := by decide +kernel
theorem d15_4 : decode jdk_42_method_54_code 4 = .ok (.arraylength, 1) := by decide +kernel
theorem d15_5 : decode jdk_42_method_54_code 5 = .ok (.aload_n 0, 1) := by decide +kernel
theorem d15_6 : decode jdk_42_method_54_code 6 = .ok (.invokevirtual 335, 3) := by decide +kernel
theorem d15_9 : decode jdk_42_method_54_code 9 = .ok (.ishr, 1) := by decide +kernel
theorem d15_10 : decode jdk_42_method_54_code 10 = .ok (.ireturn, 1) := by decide +kernel
theorem ef_lnS (m : MethodId) (x0 : Addr) : entryFrame m #[(.ref x0)] 1 = mkF m 0 #[.val (.ref x0)] [] := by first | (simp [entryFrame, mkF, argsToLocals, Value.category]; done) | rfl
set_option maxRecDepth 65536 in
set_option maxHeartbeats 40000000 in
theorem rmlnS (l : Launch) (Z : State) (a0 : Array Value) (hw : ∀ d ∈ tables_1, d.before a0 Z = true) (ws : List Jvm.Cond) (a1 : Addr) (g1 : Int32) (b : Addr) (kb : ClassId) (z : Int32) (cs : List Int32) (h0 : Heap) (n0 : Nat) (Z0 : n0 ≤ h0.size) (E1 : Exa Z h0 a1 "java/lang/String") (Fc : Fld Z h0 a1 "java/lang/String" "coder" "B" (.int (0 : Int32))) (Fv : Fld Z h0 a1 "java/lang/String" "value" "[B" (.ref b)) (Vb : Arv Z h0 b kb .byte z (cs.map Value.int) (.int (0 : Int32))) (SC : Sta Z h0 "java/lang/String" "COMPACT_STRINGS" "Z" (.int g1)) (hg1 : ¬ (g1 = (0 : Int32))) :
    MetFree l mN_1 (head1 (Jvm.Cond.code mN_1 jdk_42_method_54_code 1 (some .int) :: ws) ({ frames := 1, cells := 0, slots := 0, locals := 13 } : Room)) (fun a U => a = #[(.ref a1)] ∧ Z.Warmed39 U.vm ∧ U.heap = h0) (fun _ _ _ _ _ => True) (fun _ U o U' => ∃ v L, o = .returned v ∧ (Qv z h0 n0) v U'.heap L ∧ FrameEnd U o U' L ({ frames := 1, cells := 0, slots := 0, locals := 13 } : Room).cells ({ frames := 1, cells := 0, slots := 0, locals := 13 } : Room).slots) := by
  refine MetFree.of_bodySF (plainFor_of_name pn_0) hisR ?_
  intro p e s m args below meth c s₁ Bd hml0 hP hK
  obtain ⟨rfl, hZ, hh⟩ := hP
  have hx := Bd.exec
  have hby := Bd.bytes
  have hml : c.maxLocals = 1 := hml0
  have hown : s.vm.findClass "java/lang/String" = some m.cls := findClass_of_methodNamed Bd.named
  have hnm := (name_of_methodNamed Bd.named Bd.method).1
  have hlk := Bd.notSynchronized
  have X0 : Stand p l e ({ frames := 1, cells := 0, slots := 0, locals := 13 } : Room) s m #[(.ref a1)] below meth c s₁ [] 0 0 := Stand.of_body Bd
  have e0 : s₁.heap = h0 := by rw [← hh, Bd.state]; rfl
  have N0 := Fr.nil n0
  show own_Ends p e below s FrameEnd (Qv z h0 n0) 0 0 (s₁.setTop (entryFrame m #[(.ref a1)] 1))
  refine own_of (U' := (s₁.setTop (mkF m 0 #[.val (.ref a1)] []))) (fun _ k => castTop (ef_lnS m a1) k) ?_
  refine own_aloadN X0 hx hby d15_0 rfl rfl ?_
  obtain ⟨T4, X4, e4, st4⟩ := getF X0 hx hZ hown (host := "") (Or.inl (own_w hw 32 rfl)) Via.refl e0 Fv (g := (mkF m 1 #[.val (.ref a1)] [(.ref a1)])) rfl rfl (hb hby d15_1)
  refine own_of (U' := (T4.setTop (mkF m 4 #[.val (.ref a1)] [(.ref b)]))) (st4) ?_
  obtain ⟨cl5, Ar5, qa5, Sa5, Na5, -, -⟩ := id Vb
  have al5 := X4.arraylength hx (by rw [e4]; exact Ar5.1) (State.isArrayOf_alike hZ.alike Ar5.2.1) (g := (mkF m 4 #[.val (.ref a1)] [(.ref b)])) rfl rfl (hb hby d15_4)
  rw [len_of Sa5 Na5] at al5
  refine own_of (U' := (T4.setTop (mkF m 5 #[.val (.ref a1)] [(.int z)]))) (al5) ?_
  refine own_aloadN X4 hx hby d15_5 rfl rfl ?_
  obtain ⟨cq6, kq6, q6a, q6b, q6c⟩ := isOf hZ e4 E1
  obtain ⟨_, _, ⟨T6, L6, k6, n6⟩, -, X6, ⟨Lc6, hQ6, l6, y6, z6⟩, st6⟩ := X4.virtualBack hx (y := mN_0) (z := mN_0) hown (mvT hZ (own_w hw 93 rfl)) (mvT hZ (own_w hw 94 rfl)) (notFace_of_selects (args := #[]) (mvT hZ (own_w hw 96 rfl))) (mvT hZ (own_w hw 96 rfl)) (mvT hZ (own_w hw 95 rfl)) (by decide) (backOf (W := 1) (rmcoL l Z a0 hw [] a1 g1 h0 n0 Z0 Fc SC hg1) hZ (own_w hw 97 rfl) (own_w hw 7 rfl) (by decide) (by decide)) q6a q6c (g := (mkF m 6 #[.val (.ref a1)] [(.ref a1), (.int z)])) rfl (by rw [hml]; rfl) (Steps.refl _) (argsL := []) (rest := [(.int z)]) (lenOf pd_0 rfl) rfl (by show 2 * 0 + _ ≤ _; exact Nat.le_of_eq rfl) (hb hby d15_6) (fun _ _ => ⟨rfl, e4, (by decide : 0 + 0 ≤ _), (by decide : 0 + 0 ≤ _)⟩)
  dsimp only [Pt.U, Pt.locs, Pt.cells, Pt.slots] at X6 l6 y6 z6 st6 hQ6
  rw [l6, y6, z6] at X6
  obtain ⟨rfl, Nq6, e6⟩ := hQ6
  have N6 := Fr.app N0 Nq6
  refine own_of (U' := (T6.setTop (mkF m 9 #[.val (.ref a1)] [(.int (0 : Int32)), (.int z)]))) (fun _ k => st6.trans k) ?_
  refine own_ishr X6 hx hby d15_9 ?_
  exact own_retI X6 hx hlk Bd.returns (hb hby d15_10) (by decide) (by decide) (⟨congrArg (fun z => some (Value.int z)) (own_shr0 z), N6, e6⟩)
abbrev mN_2 : MethodName := ⟨"java/lang/AbstractStringBuilder", "isLatin1", "()Z"⟩
theorem d24_0 : decode jdk_68_method_68_code 0 = .ok (.getstatic 18, 3) := by decide +kernel
theorem d24_3 : decode jdk_68_method_68_code 3 = .ok (.ifCond .eq 14, 3) := by decide +kernel
theorem d24_6 : decode jdk_68_method_68_code 6 = .ok (.aload_n 0, 1) := by decide +kernel
theorem d24_7 : decode jdk_68_method_68_code 7 = .ok (.getfield 22, 3) := by decide +kernel
theorem d24_10 : decode jdk_68_method_68_code 10 = .ok (.ifCond .ne 7, 3) := by decide +kernel
theorem d24_13 : decode jdk_68_method_68_code 13 = .ok (.iconst 1, 1) := by decide +kernel
theorem d24_14 : decode jdk_68_method_68_code 14 = .ok (.goto 4, 3) := by decide +kernel
theorem d24_18 : decode jdk_68_method_68_code 18 = .ok (.ireturn, 1) := by decide +kernel
theorem pn_1 : plainName "java/lang/AbstractStringBuilder" = true := by first | (simp [plainName, overriddenIn]; done) | decide +kernel
theorem ef_ab (m : MethodId) (x0 : Addr) : entryFrame m #[(.ref x0)] 1 = mkF m 0 #[.val (.ref x0)] [] := by first | (simp [entryFrame, mkF, argsToLocals, Value.category]; done) | rfl
set_option maxRecDepth 65536 in
set_option maxHeartbeats 40000000 in
theorem rmab (l : Launch) (Z : State) (a0 : Array Value) (hw : ∀ d ∈ tables_1, d.before a0 Z = true) (ws : List Jvm.Cond) (a1 : Addr) (g1 : Int32) (h0 : Heap) (n0 : Nat) (Z0 : n0 ≤ h0.size) (Fc : Fld Z h0 a1 "java/lang/AbstractStringBuilder" "coder" "B" (.int (0 : Int32))) (SC : Sta Z h0 "java/lang/String" "COMPACT_STRINGS" "Z" (.int g1)) (hg1 : ¬ (g1 = (0 : Int32))) :
    MetFree l mN_2 (head1 (Jvm.Cond.code mN_2 jdk_68_method_68_code 1 (some .boolean) :: ws) ({ frames := 0, cells := 0, slots := 0, locals := 0 } : Room)) (fun a U => a = #[(.ref a1)] ∧ Z.Warmed39 U.vm ∧ U.heap = h0) (fun _ _ _ _ _ => True) (fun _ U o U' => ∃ v L, o = .returned v ∧ (Qv 1 h0 n0) v U'.heap L ∧ FrameEnd U o U' L ({ frames := 0, cells := 0, slots := 0, locals := 0 } : Room).cells ({ frames := 0, cells := 0, slots := 0, locals := 0 } : Room).slots) := by
  refine MetFree.of_bodySF (plainFor_of_name pn_1) hisR ?_
  intro p e s m args below meth c s₁ Bd hml0 hP hK
  obtain ⟨rfl, hZ, hh⟩ := hP
  have hx := Bd.exec
  have hby := Bd.bytes
  have hml : c.maxLocals = 1 := hml0
  have hown : s.vm.findClass "java/lang/AbstractStringBuilder" = some m.cls := findClass_of_methodNamed Bd.named
  have hnm := (name_of_methodNamed Bd.named Bd.method).1
  have hlk := Bd.notSynchronized
  have X0 : Stand p l e ({ frames := 0, cells := 0, slots := 0, locals := 0 } : Room) s m #[(.ref a1)] below meth c s₁ [] 0 0 := Stand.of_body Bd
  have e0 : s₁.heap = h0 := by rw [← hh, Bd.state]; rfl
  have N0 := Fr.nil n0
  show own_Ends p e below s FrameEnd (Qv 1 h0 n0) 0 0 (s₁.setTop (entryFrame m #[(.ref a1)] 1))
  refine own_of (U' := (s₁.setTop (mkF m 0 #[.val (.ref a1)] []))) (fun _ k => castTop (ef_ab m a1) k) ?_
  obtain ⟨T7, X7, e7, st7⟩ := getS2 X0 hx hZ hown (host := "") (Or.inl (own_w hw 73 rfl)) Via.refl e0 SC (g := (mkF m 0 #[.val (.ref a1)] [])) rfl (hb hby d24_0)
  refine own_of (U' := (T7.setTop (mkF m 3 #[.val (.ref a1)] [(.int g1)]))) (st7) ?_
  have hc3_8 : ¬ (g1 = (0 : Int32)) := hg1
  refine own_ifNo X7 hx hby d24_3 ((if0 _ _).trans (feq hc3_8).1) ?_
  refine own_aloadN X7 hx hby d24_6 rfl rfl ?_
  obtain ⟨T9, X9, e9, st9⟩ := getF X7 hx hZ hown (host := "") (Or.inl (own_w hw 76 rfl)) Via.refl e7 Fc (g := (mkF m 7 #[.val (.ref a1)] [(.ref a1)])) rfl rfl (hb hby d24_7)
  refine own_of (U' := (T9.setTop (mkF m 10 #[.val (.ref a1)] [(.int (0 : Int32))]))) (st9) ?_
  have hc10_10 : (0 : Int32) = (0 : Int32) := by decide
  refine own_ifNo X9 hx hby d24_10 ((if0 _ _).trans (teq hc10_10).2) ?_
  refine own_iconst X9 hx hby 1 d24_13 rfl ?_
  refine own_goto X9 hx hby 14 18 d24_14 (by decide) (by decide) ?_
  exact own_retN X9 hx hlk (t := .boolean) Bd.returns (by simp) (hb hby d24_18) (by decide) (by decide) (⟨rfl, N0, e9⟩)
abbrev mN_3 : MethodName := ⟨"java/lang/AbstractStringBuilder", "getValue", "()[B"⟩
theorem d29_0 : decode jdk_68_method_64_code 0 = .ok (.aload_n 0, 1) := by decide +kernel
theorem d29_1 : decode jdk_68_method_64_code 1 = .ok (.getfield 15, 3) := by decide +kernel
theorem d29_4 : decode jdk_68_method_64_code 4 = .ok (.areturn, 1) := by decide +kernel
theorem ef_gv (m : MethodId) (x0 : Addr) : entryFrame m #[(.ref x0)] 1 = mkF m 0 #[.val (.ref x0)] [] := by first | (simp [entryFrame, mkF, argsToLocals, Value.category]; done) | rfl
def Qgv (w2 : Addr) (h0 : Heap) (n0 : Nat) (v : Option Value) (h : Heap) (L : List Loc) : Prop := v = some (.ref w2) ∧ Fr n0 L ∧ h = h0
set_option maxRecDepth 65536 in
set_option maxHeartbeats 40000000 in
theorem rmgv (l : Launch) (Z : State) (a0 : Array Value) (hw : ∀ d ∈ tables_1, d.before a0 Z = true) (ws : List Jvm.Cond) (a1 : Addr) (w2 : Addr) (h0 : Heap) (n0 : Nat) (Z0 : n0 ≤ h0.size) (F1 : Fld Z h0 a1 "java/lang/AbstractStringBuilder" "value" "[B" (.ref w2)) :
    MetFree l mN_3 (head1 (Jvm.Cond.code mN_3 jdk_68_method_64_code 1 (some (.array .byte)) :: ws) ({ frames := 0, cells := 0, slots := 0, locals := 0 } : Room)) (fun a U => a = #[(.ref a1)] ∧ Z.Warmed39 U.vm ∧ U.heap = h0) (fun _ _ _ _ _ => True) (fun _ U o U' => ∃ v L, o = .returned v ∧ (Qgv w2 h0 n0) v U'.heap L ∧ FrameEnd U o U' L ({ frames := 0, cells := 0, slots := 0, locals := 0 } : Room).cells ({ frames := 0, cells := 0, slots := 0, locals := 0 } : Room).slots) := by
  refine MetFree.of_bodySF (plainFor_of_name pn_1) hisR ?_
  intro p e s m args below meth c s₁ Bd hml0 hP hK
  obtain ⟨rfl, hZ, hh⟩ := hP
  have hx := Bd.exec
  have hby := Bd.bytes
  have hml : c.maxLocals = 1 := hml0
  have hown : s.vm.findClass "java/lang/AbstractStringBuilder" = some m.cls := findClass_of_methodNamed Bd.named
  have hnm := (name_of_methodNamed Bd.named Bd.method).1
  have hlk := Bd.notSynchronized
  have X0 : Stand p l e ({ frames := 0, cells := 0, slots := 0, locals := 0 } : Room) s m #[(.ref a1)] below meth c s₁ [] 0 0 := Stand.of_body Bd
  have e0 : s₁.heap = h0 := by rw [← hh, Bd.state]; rfl
  have N0 := Fr.nil n0
  show own_Ends p e below s FrameEnd (Qgv w2 h0 n0) 0 0 (s₁.setTop (entryFrame m #[(.ref a1)] 1))
  refine own_of (U' := (s₁.setTop (mkF m 0 #[.val (.ref a1)] []))) (fun _ k => castTop (ef_gv m a1) k) ?_
  refine own_aloadN X0 hx hby d29_0 rfl rfl ?_
  obtain ⟨T11, X11, e11, st11⟩ := getF X0 hx hZ hown (host := "") (Or.inl (own_w hw 74 rfl)) Via.refl e0 F1 (g := (mkF m 1 #[.val (.ref a1)] [(.ref a1)])) rfl rfl (hb hby d29_1)
  refine own_of (U' := (T11.setTop (mkF m 4 #[.val (.ref a1)] [(.ref w2)]))) (st11) ?_
  exact own_retA X11 hx hlk Bd.returns rfl rfl (hb hby d29_4) (by decide) (by decide) (⟨rfl, N0, e11⟩)
abbrev mN_4 : MethodName := ⟨"java/lang/AbstractStringBuilder", "length", "()I"⟩
theorem d31_0 : decode jdk_68_method_6_code 0 = .ok (.aload_n 0, 1) := by decide +kernel
theorem d31_1 : decode jdk_68_method_6_code 1 = .ok (.getfield 79, 3) := by decide +kernel
theorem d31_4 : decode jdk_68_method_6_code 4 = .ok (.ireturn, 1) := by decide +kernel
theorem ef_al (m : MethodId) (x0 : Addr) : entryFrame m #[(.ref x0)] 1 = mkF m 0 #[.val (.ref x0)] [] := by first | (simp [entryFrame, mkF, argsToLocals, Value.category]; done) | rfl
def Qal (w2 : Int32) (h0 : Heap) (n0 : Nat) (v : Option Value) (h : Heap) (L : List Loc) : Prop := v = some (.int w2) ∧ Fr n0 L ∧ h = h0
set_option maxRecDepth 65536 in
set_option maxHeartbeats 40000000 in
theorem rmal (l : Launch) (Z : State) (a0 : Array Value) (hw : ∀ d ∈ tables_1, d.before a0 Z = true) (ws : List Jvm.Cond) (a1 : Addr) (w2 : Int32) (h0 : Heap) (n0 : Nat) (Z0 : n0 ≤ h0.size) (F1 : Fld Z h0 a1 "java/lang/AbstractStringBuilder" "count" "I" (.int w2)) :
    MetFree l mN_4 (head1 (Jvm.Cond.code mN_4 jdk_68_method_6_code 1 (some .int) :: ws) ({ frames := 0, cells := 0, slots := 0, locals := 0 } : Room)) (fun a U => a = #[(.ref a1)] ∧ Z.Warmed39 U.vm ∧ U.heap = h0) (fun _ _ _ _ _ => True) (fun _ U o U' => ∃ v L, o = .returned v ∧ (Qal w2 h0 n0) v U'.heap L ∧ FrameEnd U o U' L ({ frames := 0, cells := 0, slots := 0, locals := 0 } : Room).cells ({ frames := 0, cells := 0, slots := 0, locals := 0 } : Room).slots) := by
  refine MetFree.of_bodySF (plainFor_of_name pn_1) hisR ?_
  intro p e s m args below meth c s₁ Bd hml0 hP hK
  obtain ⟨rfl, hZ, hh⟩ := hP
  have hx := Bd.exec
  have hby := Bd.bytes
  have hml : c.maxLocals = 1 := hml0
  have hown : s.vm.findClass "java/lang/AbstractStringBuilder" = some m.cls := findClass_of_methodNamed Bd.named
  have hnm := (name_of_methodNamed Bd.named Bd.method).1
  have hlk := Bd.notSynchronized
  have X0 : Stand p l e ({ frames := 0, cells := 0, slots := 0, locals := 0 } : Room) s m #[(.ref a1)] below meth c s₁ [] 0 0 := Stand.of_body Bd
  have e0 : s₁.heap = h0 := by rw [← hh, Bd.state]; rfl
  have N0 := Fr.nil n0
  show own_Ends p e below s FrameEnd (Qal w2 h0 n0) 0 0 (s₁.setTop (entryFrame m #[(.ref a1)] 1))
  refine own_of (U' := (s₁.setTop (mkF m 0 #[.val (.ref a1)] []))) (fun _ k => castTop (ef_al m a1) k) ?_
  refine own_aloadN X0 hx hby d31_0 rfl rfl ?_
  obtain ⟨T12, X12, e12, st12⟩ := getF X0 hx hZ hown (host := "") (Or.inl (own_w hw 98 rfl)) Via.refl e0 F1 (g := (mkF m 1 #[.val (.ref a1)] [(.ref a1)])) rfl rfl (hb hby d31_1)
  refine own_of (U' := (T12.setTop (mkF m 4 #[.val (.ref a1)] [(.int w2)]))) (st12) ?_
  exact own_retI X12 hx hlk Bd.returns (hb hby d31_4) (by decide) (by decide) (⟨rfl, N0, e12⟩)
abbrev mN_5 : MethodName := ⟨"java/lang/StringBuilder", "length", "()I"⟩
theorem pd_1 : parseMethodDescriptor "()I" = some ⟨[], some .int⟩ := by decide +kernel
abbrev mN_6 : MethodName := ⟨"java/lang/AbstractStringBuilder", "ensureCapacityInternal", "(I)V"⟩
theorem d30_0 : decode jdk_67_method_93_code 0 = .ok (.aload_n 0, 1) := by decide +kernel
theorem d30_1 : decode jdk_67_method_93_code 1 = .ok (.invokespecial 343, 3) := by decide +kernel
theorem d30_4 : decode jdk_67_method_93_code 4 = .ok (.ireturn, 1) := by decide +kernel
theorem pn_2 : plainName "java/lang/StringBuilder" = true := by first | (simp [plainName, overriddenIn]; done) | decide +kernel
theorem ef_sl (m : MethodId) (x0 : Addr) : entryFrame m #[(.ref x0)] 1 = mkF m 0 #[.val (.ref x0)] [] := by first | (simp [entryFrame, mkF, argsToLocals, Value.category]; done) | rfl
set_option maxRecDepth 65536 in
set_option maxHeartbeats 40000000 in
theorem rmsl (l : Launch) (Z : State) (a0 : Array Value) (hw : ∀ d ∈ tables_1, d.before a0 Z = true) (ws : List Jvm.Cond) (a1 : Addr) (n : Int32) (h0 : Heap) (n0 : Nat) (Z0 : n0 ≤ h0.size) (E1 : Exa Z h0 a1 "java/lang/StringBuilder") (Fn : Fld Z h0 a1 "java/lang/AbstractStringBuilder" "count" "I" (.int n)) :
    MetFree l mN_5 (head1 (Jvm.Cond.code mN_5 jdk_67_method_93_code 1 (some .int) :: ws) ({ frames := 1, cells := 0, slots := 0, locals := 12 } : Room)) (fun a U => a = #[(.ref a1)] ∧ Z.Warmed39 U.vm ∧ U.heap = h0) (fun _ _ _ _ _ => True) (fun _ U o U' => ∃ v L, o = .returned v ∧ (Qv n h0 n0) v U'.heap L ∧ FrameEnd U o U' L ({ frames := 1, cells := 0, slots := 0, locals := 12 } : Room).cells ({ frames := 1, cells := 0, slots := 0, locals := 12 } : Room).slots) := by
  refine MetFree.of_bodySF (plainFor_of_name pn_2) hisR ?_
  intro p e s m args below meth c s₁ Bd hml0 hP hK
  obtain ⟨rfl, hZ, hh⟩ := hP
  have hx := Bd.exec
  have hby := Bd.bytes
  have hml : c.maxLocals = 1 := hml0
  have hown : s.vm.findClass "java/lang/StringBuilder" = some m.cls := findClass_of_methodNamed Bd.named
  have hnm := (name_of_methodNamed Bd.named Bd.method).1
  have hlk := Bd.notSynchronized
  have X0 : Stand p l e ({ frames := 1, cells := 0, slots := 0, locals := 12 } : Room) s m #[(.ref a1)] below meth c s₁ [] 0 0 := Stand.of_body Bd
  have e0 : s₁.heap = h0 := by rw [← hh, Bd.state]; rfl
  have N0 := Fr.nil n0
  show own_Ends p e below s FrameEnd (Qv n h0 n0) 0 0 (s₁.setTop (entryFrame m #[(.ref a1)] 1))
  refine own_of (U' := (s₁.setTop (mkF m 0 #[.val (.ref a1)] []))) (fun _ k => castTop (ef_sl m a1) k) ?_
  refine own_aloadN X0 hx hby d30_0 rfl rfl ?_
  obtain ⟨_, _, ⟨T13, L13, k13, n13⟩, -, X13, ⟨Lc13, hQ13, l13, y13, z13⟩, st13⟩ := superBack X0 hx hZ (y := mN_4) hown (own_w hw 172 rfl) (own_sameM (y := mN_4) (w := mN_6) (own_w hw 167 rfl) (own_w hw 103 rfl) rfl (by decide)) (own_w hw 168 rfl) (own_w hw 85 rfl) (by decide) (backOf (W := 0) (rmal l Z a0 hw [] a1 n h0 n0 Z0 Fn) hZ (own_w hw 173 rfl) (own_w hw 70 rfl) (by decide) (by decide)) e0 (Ins.self E1) (g := (mkF m 1 #[.val (.ref a1)] [(.ref a1)])) rfl (by rw [hml]; rfl) (own_w hw 173 rfl) (argsL := []) (rest := []) (lenOf pd_1 rfl) rfl (by show 2 * 0 + _ ≤ _; exact Nat.le_of_eq rfl) (hb hby d30_1) (fun _ _ => ⟨rfl, e0, (by decide : 0 + 0 ≤ _), (by decide : 0 + 0 ≤ _)⟩)
  dsimp only [Pt.U, Pt.locs, Pt.cells, Pt.slots] at X13 l13 y13 z13 st13 hQ13
  rw [l13, y13, z13] at X13
  obtain ⟨rfl, Nq13, e13⟩ := hQ13
  have N13 := Fr.app N0 Nq13
  refine own_of (U' := (T13.setTop (mkF m 4 #[.val (.ref a1)] [(.int n)]))) (fun _ k => st13.trans k) ?_
  exact own_retI X13 hx hlk Bd.returns (hb hby d30_4) (by decide) (by decide) (⟨rfl, N13, e13⟩)
abbrev mN_7 : MethodName := ⟨"java/lang/Math", "min", "(II)I"⟩
theorem d35_0 : decode jdk_29_method_69_code 0 = .ok (.iload_n 0, 1) := by decide +kernel
theorem d35_1 : decode jdk_29_method_69_code 1 = .ok (.iload_n 1, 1) := by decide +kernel
theorem d35_2 : decode jdk_29_method_69_code 2 = .ok (.if_icmp .gt 7, 3) := by decide +kernel
theorem d35_5 : decode jdk_29_method_69_code 5 = .ok (.iload_n 0, 1) := by decide +kernel
theorem d35_6 : decode jdk_29_method_69_code 6 = .ok (.goto 4, 3) := by decide +kernel
theorem d35_9 : decode jdk_29_method_69_code 9 = .ok (.iload_n 1, 1) := by decide +kernel
theorem d35_10 : decode jdk_29_method_69_code 10 = .ok (.ireturn, 1) := by decide +kernel
theorem ef_min (m : MethodId) (x0 : Int32) (x1 : Int32) : entryFrame m #[(.int x0), (.int x1)] 2 = mkF m 0 #[.val (.int x0), .val (.int x1)] [] := by first | (simp [entryFrame, mkF, argsToLocals, Value.category]; done) | rfl
set_option maxRecDepth 65536 in
set_option maxHeartbeats 40000000 in
theorem rmmin (l : Launch) (Z : State) (a0 : Array Value) (hw : ∀ d ∈ tables_1, d.before a0 Z = true) (ws : List Jvm.Cond) (p1 p2 : Int32) (h0 : Heap) (n0 : Nat) (Z0 : n0 ≤ h0.size)  :
    MetFree l mN_7 (head1 (Jvm.Cond.code mN_7 jdk_29_method_69_code 2 (some .int) :: ws) ({ frames := 0, cells := 0, slots := 0, locals := 0 } : Room)) (fun a U => a = #[(.int p1), (.int p2)] ∧ Z.Warmed39 U.vm ∧ U.heap = h0) (fun _ _ _ _ _ => True) (fun _ U o U' => ∃ v L, o = .returned v ∧ (Qv (own_min p1 p2) h0 n0) v U'.heap L ∧ FrameEnd U o U' L ({ frames := 0, cells := 0, slots := 0, locals := 0 } : Room).cells ({ frames := 0, cells := 0, slots := 0, locals := 0 } : Room).slots) := by
  refine MetFree.of_bodySF (Jvm.Free.JP.mathPlain rfl (by decide +kernel)) hisR ?_
  intro p e s m args below meth c s₁ Bd hml0 hP hK
  obtain ⟨rfl, hZ, hh⟩ := hP
  have hx := Bd.exec
  have hby := Bd.bytes
  have hml : c.maxLocals = 2 := hml0
  have hown : s.vm.findClass "java/lang/Math" = some m.cls := findClass_of_methodNamed Bd.named
  have hnm := (name_of_methodNamed Bd.named Bd.method).1
  have hlk := Bd.notSynchronized
  have X0 : Stand p l e ({ frames := 0, cells := 0, slots := 0, locals := 0 } : Room) s m #[(.int p1), (.int p2)] below meth c s₁ [] 0 0 := Stand.of_body Bd
  have e0 : s₁.heap = h0 := by rw [← hh, Bd.state]; rfl
  have N0 := Fr.nil n0
  show own_Ends p e below s FrameEnd (Qv (own_min p1 p2) h0 n0) 0 0 (s₁.setTop (entryFrame m #[(.int p1), (.int p2)] 2))
  refine own_of (U' := (s₁.setTop (mkF m 0 #[.val (.int p1), .val (.int p2)] []))) (fun _ k => castTop (ef_min m p1 p2) k) ?_
  refine own_iloadN X0 hx hby d35_0 rfl ?_
  refine own_iloadN X0 hx hby d35_1 rfl ?_
  by_cases hc2_14 : p2 < p1
  · skip
    refine own_icmpYes X0 hx hby 2 9 d35_2 (tlt hc2_14).2.2.1 (by decide) (by decide) ?_
    refine own_iloadN X0 hx hby d35_9 rfl ?_
    exact own_retI X0 hx hlk Bd.returns (hb hby d35_10) (by decide) (by decide) (⟨congrArg (fun z => some (Value.int z)) (show p2 = own_min p1 p2 from by simp [own_min, own_b0, own_b1, hc2_14]), N0, e0⟩)
  · skip
    refine own_icmpNo X0 hx hby d35_2 (flt hc2_14).2.2.1 ?_
    refine own_iloadN X0 hx hby d35_5 rfl ?_
    refine own_goto X0 hx hby 6 10 d35_6 (by decide) (by decide) ?_
    exact own_retI X0 hx hlk Bd.returns (hb hby d35_10) (by decide) (by decide) (⟨congrArg (fun z => some (Value.int z)) (show p1 = own_min p1 p2 from by simp [own_min, own_b0, own_b1, hc2_14]), N0, e0⟩)
abbrev mN_8 : MethodName := ⟨"java/lang/Math", "max", "(II)I"⟩
theorem d44_0 : decode jdk_29_method_65_code 0 = .ok (.iload_n 0, 1) := by decide +kernel
theorem d44_1 : decode jdk_29_method_65_code 1 = .ok (.iload_n 1, 1) := by decide +kernel
theorem d44_2 : decode jdk_29_method_65_code 2 = .ok (.if_icmp .lt 7, 3) := by decide +kernel
theorem d44_5 : decode jdk_29_method_65_code 5 = .ok (.iload_n 0, 1) := by decide +kernel
theorem d44_6 : decode jdk_29_method_65_code 6 = .ok (.goto 4, 3) := by decide +kernel
theorem d44_9 : decode jdk_29_method_65_code 9 = .ok (.iload_n 1, 1) := by decide +kernel
theorem d44_10 : decode jdk_29_method_65_code 10 = .ok (.ireturn, 1) := by decide +kernel
theorem ef_max (m : MethodId) (x0 : Int32) (x1 : Int32) : entryFrame m #[(.int x0), (.int x1)] 2 = mkF m 0 #[.val (.int x0), .val (.int x1)] [] := by first | (simp [entryFrame, mkF, argsToLocals, Value.category]; done) | rfl
set_option maxRecDepth 65536 in
set_option maxHeartbeats 40000000 in
theorem rmmax (l : Launch) (Z : State) (a0 : Array Value) (hw : ∀ d ∈ tables_1, d.before a0 Z = true) (ws : List Jvm.Cond) (p1 p2 : Int32) (h0 : Heap) (n0 : Nat) (Z0 : n0 ≤ h0.size)  :
    MetFree l mN_8 (head1 (Jvm.Cond.code mN_8 jdk_29_method_65_code 2 (some .int) :: ws) ({ frames := 0, cells := 0, slots := 0, locals := 0 } : Room)) (fun a U => a = #[(.int p1), (.int p2)] ∧ Z.Warmed39 U.vm ∧ U.heap = h0) (fun _ _ _ _ _ => True) (fun _ U o U' => ∃ v L, o = .returned v ∧ (Qv (own_max p1 p2) h0 n0) v U'.heap L ∧ FrameEnd U o U' L ({ frames := 0, cells := 0, slots := 0, locals := 0 } : Room).cells ({ frames := 0, cells := 0, slots := 0, locals := 0 } : Room).slots) := by
  refine MetFree.of_bodySF (Jvm.Free.JP.mathPlain rfl (by decide +kernel)) hisR ?_
  intro p e s m args below meth c s₁ Bd hml0 hP hK
  obtain ⟨rfl, hZ, hh⟩ := hP
  have hx := Bd.exec
  have hby := Bd.bytes
  have hml : c.maxLocals = 2 := hml0
  have hown : s.vm.findClass "java/lang/Math" = some m.cls := findClass_of_methodNamed Bd.named
  have hnm := (name_of_methodNamed Bd.named Bd.method).1
  have hlk := Bd.notSynchronized
  have X0 : Stand p l e ({ frames := 0, cells := 0, slots := 0, locals := 0 } : Room) s m #[(.int p1), (.int p2)] below meth c s₁ [] 0 0 := Stand.of_body Bd
  have e0 : s₁.heap = h0 := by rw [← hh, Bd.state]; rfl
  have N0 := Fr.nil n0
  show own_Ends p e below s FrameEnd (Qv (own_max p1 p2) h0 n0) 0 0 (s₁.setTop (entryFrame m #[(.int p1), (.int p2)] 2))
  refine own_of (U' := (s₁.setTop (mkF m 0 #[.val (.int p1), .val (.int p2)] []))) (fun _ k => castTop (ef_max m p1 p2) k) ?_
  refine own_iloadN X0 hx hby d44_0 rfl ?_
  refine own_iloadN X0 hx hby d44_1 rfl ?_
  by_cases hc2_15 : p1 < p2
  · skip
    refine own_icmpYes X0 hx hby 2 9 d44_2 (tlt hc2_15).1 (by decide) (by decide) ?_
    refine own_iloadN X0 hx hby d44_9 rfl ?_
    exact own_retI X0 hx hlk Bd.returns (hb hby d44_10) (by decide) (by decide) (⟨congrArg (fun z => some (Value.int z)) (show p2 = own_max p1 p2 from by simp [own_max, own_b0, own_b1, hc2_15]), N0, e0⟩)
  · skip
    refine own_icmpNo X0 hx hby d44_2 (flt hc2_15).1 ?_
    refine own_iloadN X0 hx hby d44_5 rfl ?_
    refine own_goto X0 hx hby 6 10 d44_6 (by decide) (by decide) ?_
    exact own_retI X0 hx hlk Bd.returns (hb hby d44_10) (by decide) (by decide) (⟨congrArg (fun z => some (Value.int z)) (show p1 = own_max p1 p2 from by simp [own_max, own_b0, own_b1, hc2_15]), N0, e0⟩)
abbrev mN_9 : MethodName := ⟨"java/util/Arrays", "checkLength", "(II)V"⟩
theorem d34_0 : decode jdk_65_method_131_code 0 = .ok (.iload_n 1, 1) := by decide +kernel
theorem d34_1 : decode jdk_65_method_131_code 1 = .ok (.iload_n 0, 1) := by decide +kernel
theorem d34_2 : decode jdk_65_method_131_code 2 = .ok (.if_icmp .ge 35, 3) := by decide +kernel
theorem d34_37 : decode jdk_65_method_131_code 37 = .ok (.return_, 1) := by decide +kernel
theorem pn_3 : plainName "java/util/Arrays" = true := by first | (simp [plainName, overriddenIn]; done) | decide +kernel
theorem ef_ck (m : MethodId) (x0 : Int32) (x1 : Int32) : entryFrame m #[(.int x0), (.int x1)] 2 = mkF m 0 #[.val (.int x0), .val (.int x1)] [] := by first | (simp [entryFrame, mkF, argsToLocals, Value.category]; done) | rfl
set_option maxRecDepth 65536 in
set_option maxHeartbeats 40000000 in
theorem rmck (l : Launch) (Z : State) (a0 : Array Value) (hw : ∀ d ∈ tables_1, d.before a0 Z = true) (ws : List Jvm.Cond) (p1 p2 : Int32) (h0 : Heap) (n0 : Nat) (Z0 : n0 ≤ h0.size) (h1 : ¬ (p2 < p1)) :
    MetFree l mN_9 (head1 (Jvm.Cond.code mN_9 jdk_65_method_131_code 2 none :: ws) ({ frames := 0, cells := 0, slots := 0, locals := 0 } : Room)) (fun a U => a = #[(.int p1), (.int p2)] ∧ Z.Warmed39 U.vm ∧ U.heap = h0) (fun _ _ _ _ _ => True) (fun _ U o U' => ∃ v L, o = .returned v ∧ (Qn h0 n0) v U'.heap L ∧ FrameEnd U o U' L ({ frames := 0, cells := 0, slots := 0, locals := 0 } : Room).cells ({ frames := 0, cells := 0, slots := 0, locals := 0 } : Room).slots) := by
  refine MetFree.of_bodySF (plainFor_of_name pn_3) hisR ?_
  intro p e s m args below meth c s₁ Bd hml0 hP hK
  obtain ⟨rfl, hZ, hh⟩ := hP
  have hx := Bd.exec
  have hby := Bd.bytes
  have hml : c.maxLocals = 2 := hml0
  have hown : s.vm.findClass "java/util/Arrays" = some m.cls := findClass_of_methodNamed Bd.named
  have hnm := (name_of_methodNamed Bd.named Bd.method).1
  have hlk := Bd.notSynchronized
  have X0 : Stand p l e ({ frames := 0, cells := 0, slots := 0, locals := 0 } : Room) s m #[(.int p1), (.int p2)] below meth c s₁ [] 0 0 := Stand.of_body Bd
  have e0 : s₁.heap = h0 := by rw [← hh, Bd.state]; rfl
  have N0 := Fr.nil n0
  show own_Ends p e below s FrameEnd (Qn h0 n0) 0 0 (s₁.setTop (entryFrame m #[(.int p1), (.int p2)] 2))
  refine own_of (U' := (s₁.setTop (mkF m 0 #[.val (.int p1), .val (.int p2)] []))) (fun _ k => castTop (ef_ck m p1 p2) k) ?_
  refine own_iloadN X0 hx hby d34_0 rfl ?_
  refine own_iloadN X0 hx hby d34_1 rfl ?_
  have hc2_16 : ¬ (p2 < p1) := h1
  refine own_icmpYes X0 hx hby 2 37 d34_2 (flt hc2_16).2.1 (by decide) (by decide) ?_
  exact own_ret0 X0 hx hlk Bd.returns (hb hby d34_37) (by decide) (by decide) (⟨rfl, N0, e0⟩)
abbrev mN_10 : MethodName := ⟨"jdk/internal/util/ArraysSupport", "newLength", "(III)I"⟩
theorem pd_2 : parseMethodDescriptor "(II)I" = some ⟨[.int, .int], some .int⟩ := by decide +kernel
theorem d43_0 : decode jdk_48_method_27_code 0 = .ok (.iload_n 0, 1) := by decide +kernel
theorem d43_1 : decode jdk_48_method_27_code 1 = .ok (.iload_n 1, 1) := by decide +kernel
theorem d43_2 : decode jdk_48_method_27_code 2 = .ok (.iload_n 2, 1) := by decide +kernel
theorem d43_3 : decode jdk_48_method_27_code 3 = .ok (.invokestatic 194, 3) := by decide +kernel
theorem d43_6 : decode jdk_48_method_27_code 6 = .ok (.iadd, 1) := by decide +kernel
theorem d43_7 : decode jdk_48_method_27_code 7 = .ok (.istore_n 3, 1) := by decide +kernel
theorem d43_8 : decode jdk_48_method_27_code 8 = .ok (.iconst 0, 1) := by decide +kernel
theorem d43_9 : decode jdk_48_method_27_code 9 = .ok (.iload_n 3, 1) := by decide +kernel
theorem d43_10 : decode jdk_48_method_27_code 10 = .ok (.if_icmp .ge 11, 3) := by decide +kernel
theorem d43_13 : decode jdk_48_method_27_code 13 = .ok (.iload_n 3, 1) := by decide +kernel
theorem d43_14 : decode jdk_48_method_27_code 14 = .ok (.ldc 200, 2) := by decide +kernel
theorem d43_16 : decode jdk_48_method_27_code 16 = .ok (.if_icmp .gt 5, 3) := by decide +kernel
theorem d43_19 : decode jdk_48_method_27_code 19 = .ok (.iload_n 3, 1) := by decide +kernel
theorem d43_20 : decode jdk_48_method_27_code 20 = .ok (.ireturn, 1) := by decide +kernel
theorem pn_4 : plainName "jdk/internal/util/ArraysSupport" = true := by first | (simp [plainName, overriddenIn]; done) | decide +kernel
theorem ef_nl (m : MethodId) (x1 : Int32) : entryFrame m #[(.int (16 : Int32)), (.int x1), (.int (18 : Int32))] 4 = mkF m 0 #[.val (.int (16 : Int32)), .val (.int x1), .val (.int (18 : Int32)), .unset] [] := by first | (simp [entryFrame, mkF, argsToLocals, Value.category]; done) | rfl
set_option maxRecDepth 65536 in
set_option maxHeartbeats 40000000 in
theorem rmnl (l : Launch) (Z : State) (a0 : Array Value) (hw : ∀ d ∈ tables_1, d.before a0 Z = true) (ws : List Jvm.Cond) (p1 : Int32) (h0 : Heap) (n0 : Nat) (Z0 : n0 ≤ h0.size) (h1 : ¬ ((18 : Int32) < p1)) :
    MetFree l mN_10 (head1 (Jvm.Cond.code mN_10 jdk_48_method_27_code 4 (some .int) :: ws) ({ frames := 1, cells := 0, slots := 0, locals := 14 } : Room)) (fun a U => a = #[(.int (16 : Int32)), (.int p1), (.int (18 : Int32))] ∧ Z.Warmed39 U.vm ∧ U.heap = h0) (fun _ _ _ _ _ => True) (fun _ U o U' => ∃ v L, o = .returned v ∧ (Qv 34 h0 n0) v U'.heap L ∧ FrameEnd U o U' L ({ frames := 1, cells := 0, slots := 0, locals := 14 } : Room).cells ({ frames := 1, cells := 0, slots := 0, locals := 14 } : Room).slots) := by
  refine MetFree.of_bodySF (plainFor_of_name pn_4) hisR ?_
  intro p e s m args below meth c s₁ Bd hml0 hP hK
  obtain ⟨rfl, hZ, hh⟩ := hP
  have hx := Bd.exec
  have hby := Bd.bytes
  have hml : c.maxLocals = 4 := hml0
  have hown : s.vm.findClass "jdk/internal/util/ArraysSupport" = some m.cls := findClass_of_methodNamed Bd.named
  have hnm := (name_of_methodNamed Bd.named Bd.method).1
  have hlk := Bd.notSynchronized
  have X0 : Stand p l e ({ frames := 1, cells := 0, slots := 0, locals := 14 } : Room) s m #[(.int (16 : Int32)), (.int p1), (.int (18 : Int32))] below meth c s₁ [] 0 0 := Stand.of_body Bd
  have e0 : s₁.heap = h0 := by rw [← hh, Bd.state]; rfl
  have N0 := Fr.nil n0
  show own_Ends p e below s FrameEnd (Qv 34 h0 n0) 0 0 (s₁.setTop (entryFrame m #[(.int (16 : Int32)), (.int p1), (.int (18 : Int32))] 4))
  refine own_of (U' := (s₁.setTop (mkF m 0 #[.val (.int (16 : Int32)), .val (.int p1), .val (.int (18 : Int32)), .unset] []))) (fun _ k => castTop (ef_nl m p1) k) ?_
  refine own_iloadN X0 hx hby d43_0 rfl ?_
  refine own_iloadN X0 hx hby d43_1 rfl ?_
  refine own_iloadN X0 hx hby d43_2 rfl ?_
  obtain ⟨_, _, ⟨T17, L17, k17, n17⟩, -, X17, ⟨Lc17, hQ17, l17, y17, z17⟩, st17⟩ := Jvm.LawKit.callS X0 hx (y := mN_8) hown (mvT hZ (own_w hw 242 rfl)) (mvT hZ (own_w hw 243 rfl)) (mvT hZ (own_w hw 187 rfl)) (mvT hZ (own_w hw 244 rfl)) (by decide) (backOf (W := 1) (rmmax l Z a0 hw [] p1 (18 : Int32) h0 n0 Z0 ) hZ (own_w hw 244 rfl) (own_w hw 187 rfl) (by decide) (by decide)) (g := (mkF m 3 #[.val (.int (16 : Int32)), .val (.int p1), .val (.int (18 : Int32)), .unset] [(.int (18 : Int32)), (.int p1), (.int (16 : Int32))])) rfl (by rw [hml]; rfl) (argsL := [(.int p1), (.int (18 : Int32))]) (rest := [(.int (16 : Int32))]) (lenOf pd_2 rfl) rfl (by show 2 * 0 + _ ≤ _; exact Nat.le_of_eq rfl) (hb hby d43_3) (fun _ _ => ⟨rfl, e0, (by decide : 0 + 0 ≤ _), (by decide : 0 + 0 ≤ _)⟩)
  dsimp only [Pt.U, Pt.locs, Pt.cells, Pt.slots] at X17 l17 y17 z17 st17 hQ17
  rw [l17, y17, z17] at X17
  obtain ⟨rfl, Nq17, e17⟩ := hQ17
  have N17 := Fr.app N0 Nq17
  refine own_of (U' := (T17.setTop (mkF m 6 #[.val (.int (16 : Int32)), .val (.int p1), .val (.int (18 : Int32)), .unset] [(.int (own_max p1 (18 : Int32))), (.int (16 : Int32))]))) (st17) ?_
  refine own_iadd X17 hx hby d43_6 ?_
  refine own_eq (U' := (T17.setTop (mkF m 7 #[.val (.int (16 : Int32)), .val (.int p1), .val (.int (18 : Int32)), .unset] [(.int (34 : Int32))]))) (by rw [show ((16 : Int32) + (own_max p1 (18 : Int32))) = (34 : Int32) from own_nl h1]) ?_
  refine own_istoreN X17 hx hby d43_7 (l' := #[.val (.int (16 : Int32)), .val (.int p1), .val (.int (18 : Int32)), .val (.int (34 : Int32))]) rfl ?_
  refine own_iconst X17 hx hby 0 d43_8 rfl ?_
  refine own_iloadN X17 hx hby d43_9 rfl ?_
  have hc10_18 : (0 : Int32) < (34 : Int32) := by decide
  refine own_icmpNo X17 hx hby d43_10 (tlt hc10_18).2.1 ?_
  refine own_iloadN X17 hx hby d43_13 rfl ?_
  refine own_of (U' := (T17.setTop (mkF m 16 #[.val (.int (16 : Int32)), .val (.int p1), .val (.int (18 : Int32)), .val (.int (34 : Int32))] [(.int (2147483639 : Int32)), (.int (34 : Int32))]))) (X17.ldcInt hx hown (mvT hZ (own_w hw 245 rfl)) (g := (mkF m 14 #[.val (.int (16 : Int32)), .val (.int p1), .val (.int (18 : Int32)), .val (.int (34 : Int32))] [(.int (34 : Int32))])) rfl (hb hby d43_14)) ?_
  have hc16_19 : ¬ ((2147483639 : Int32) < (34 : Int32)) := by decide
  refine own_icmpNo X17 hx hby d43_16 (flt hc16_19).2.2.1 ?_
  refine own_iloadN X17 hx hby d43_19 rfl ?_
  exact own_retI X17 hx hlk Bd.returns (hb hby d43_20) (by decide) (by decide) (⟨rfl, N17, e17⟩)
abbrev mN_11 : MethodName := ⟨"java/lang/AbstractStringBuilder", "newCapacity", "(I)I"⟩
theorem pd_3 : parseMethodDescriptor "(III)I" = some ⟨[.int, .int, .int], some .int⟩ := by decide +kernel
theorem d42_0 : decode jdk_68_method_10_code 0 = .ok (.aload_n 0, 1) := by decide +kernel
theorem d42_1 : decode jdk_68_method_10_code 1 = .ok (.getfield 15, 3) := by decide +kernel
theorem d42_4 : decode jdk_68_method_10_code 4 = .ok (.arraylength, 1) := by decide +kernel
theorem d42_5 : decode jdk_68_method_10_code 5 = .ok (.istore_n 2, 1) := by decide +kernel
theorem d42_6 : decode jdk_68_method_10_code 6 = .ok (.iload_n 1, 1) := by decide +kernel
theorem d42_7 : decode jdk_68_method_10_code 7 = .ok (.aload_n 0, 1) := by decide +kernel
theorem d42_8 : decode jdk_68_method_10_code 8 = .ok (.getfield 22, 3) := by decide +kernel
theorem d42_11 : decode jdk_68_method_10_code 11 = .ok (.ishl, 1) := by decide +kernel
theorem d42_12 : decode jdk_68_method_10_code 12 = .ok (.istore_n 3, 1) := by decide +kernel
theorem d42_13 : decode jdk_68_method_10_code 13 = .ok (.iload_n 3, 1) := by decide +kernel
theorem d42_14 : decode jdk_68_method_10_code 14 = .ok (.iload_n 2, 1) := by decide +kernel
theorem d42_15 : decode jdk_68_method_10_code 15 = .ok (.isub, 1) := by decide +kernel
theorem d42_16 : decode jdk_68_method_10_code 16 = .ok (.istore 4, 2) := by decide +kernel
theorem d42_18 : decode jdk_68_method_10_code 18 = .ok (.iload_n 2, 1) := by decide +kernel
theorem d42_19 : decode jdk_68_method_10_code 19 = .ok (.iload 4, 2) := by decide +kernel
theorem d42_21 : decode jdk_68_method_10_code 21 = .ok (.iload_n 2, 1) := by decide +kernel
theorem d42_22 : decode jdk_68_method_10_code 22 = .ok (.iconst 2, 1) := by decide +kernel
theorem d42_23 : decode jdk_68_method_10_code 23 = .ok (.aload_n 0, 1) := by decide +kernel
theorem d42_24 : decode jdk_68_method_10_code 24 = .ok (.getfield 22, 3) := by decide +kernel
theorem d42_27 : decode jdk_68_method_10_code 27 = .ok (.ishl, 1) := by decide +kernel
theorem d42_28 : decode jdk_68_method_10_code 28 = .ok (.iadd, 1) := by decide +kernel
theorem d42_29 : decode jdk_68_method_10_code 29 = .ok (.invokestatic 114, 3) := by decide +kernel
theorem d42_32 : decode jdk_68_method_10_code 32 = .ok (.istore 5, 2) := by decide +kernel
theorem d42_34 : decode jdk_68_method_10_code 34 = .ok (.iload 5, 2) := by decide +kernel
theorem d42_36 : decode jdk_68_method_10_code 36 = .ok (.ldc 39, 2) := by decide +kernel
theorem d42_38 : decode jdk_68_method_10_code 38 = .ok (.if_icmp .ne 13, 3) := by decide +kernel
theorem d42_51 : decode jdk_68_method_10_code 51 = .ok (.iload 5, 2) := by decide +kernel
theorem d42_53 : decode jdk_68_method_10_code 53 = .ok (.aload_n 0, 1) := by decide +kernel
theorem d42_54 : decode jdk_68_method_10_code 54 = .ok (.getfield 22, 3) := by decide +kernel
theorem d42_57 : decode jdk_68_method_10_code 57 = .ok (.ishr, 1) := by decide +kernel
theorem d42_58 : decode jdk_68_method_10_code 58 = .ok (.ireturn, 1) := by decide +kernel
theorem ef_nc (m : MethodId) (x0 : Addr) (x1 : Int32) : entryFrame m #[(.ref x0), (.int x1)] 6 = mkF m 0 #[.val (.ref x0), .val (.int x1), .unset, .unset, .unset, .unset] [] := by first | (simp [entryFrame, mkF, argsToLocals, Value.category]; done) | rfl
set_option maxRecDepth 65536 in
set_option maxHeartbeats 40000000 in
theorem rmnc (l : Launch) (Z : State) (a0 : Array Value) (hw : ∀ d ∈ tables_1, d.before a0 Z = true) (ws : List Jvm.Cond) (a1 : Addr) (p2 : Int32) (b : Addr) (kb : ClassId) (cs : List Int32) (h0 : Heap) (n0 : Nat) (Z0 : n0 ≤ h0.size) (Fv : Fld Z h0 a1 "java/lang/AbstractStringBuilder" "value" "[B" (.ref b)) (Fc : Fld Z h0 a1 "java/lang/AbstractStringBuilder" "coder" "B" (.int (0 : Int32))) (Vb : Arv Z h0 b kb .byte (16 : Int32) (List.map Value.int cs) (.int (0 : Int32))) (h1 : ¬ ((18 : Int32) < (p2 - (16 : Int32)))) :
    MetFree l mN_11 (head1 (Jvm.Cond.code mN_11 jdk_68_method_10_code 6 (some .int) :: ws) ({ frames := 2, cells := 0, slots := 0, locals := 29 } : Room)) (fun a U => a = #[(.ref a1), (.int p2)] ∧ Z.Warmed39 U.vm ∧ U.heap = h0) (fun _ _ _ _ _ => True) (fun _ U o U' => ∃ v L, o = .returned v ∧ (Qv 34 h0 n0) v U'.heap L ∧ FrameEnd U o U' L ({ frames := 2, cells := 0, slots := 0, locals := 29 } : Room).cells ({ frames := 2, cells := 0, slots := 0, locals := 29 } : Room).slots) := by
  refine MetFree.of_bodySF (plainFor_of_name pn_1) hisR ?_
  intro p e s m args below meth c s₁ Bd hml0 hP hK
  obtain ⟨rfl, hZ, hh⟩ := hP
  have hx := Bd.exec
  have hby := Bd.bytes
  have hml : c.maxLocals = 6 := hml0
  have hown : s.vm.findClass "java/lang/AbstractStringBuilder" = some m.cls := findClass_of_methodNamed Bd.named
  have hnm := (name_of_methodNamed Bd.named Bd.method).1
  have hlk := Bd.notSynchronized
  have X0 : Stand p l e ({ frames := 2, cells := 0, slots := 0, locals := 29 } : Room) s m #[(.ref a1), (.int p2)] below meth c s₁ [] 0 0 := Stand.of_body Bd
  have e0 : s₁.heap = h0 := by rw [← hh, Bd.state]; rfl
  have N0 := Fr.nil n0
  show own_Ends p e below s FrameEnd (Qv 34 h0 n0) 0 0 (s₁.setTop (entryFrame m #[(.ref a1), (.int p2)] 6))
  refine own_of (U' := (s₁.setTop (mkF m 0 #[.val (.ref a1), .val (.int p2), .unset, .unset, .unset, .unset] []))) (fun _ k => castTop (ef_nc m a1 p2) k) ?_
  refine own_aloadN X0 hx hby d42_0 rfl rfl ?_
  obtain ⟨T20, X20, e20, st20⟩ := getF X0 hx hZ hown (host := "") (Or.inl (own_w hw 74 rfl)) Via.refl e0 Fv (g := (mkF m 1 #[.val (.ref a1), .val (.int p2), .unset, .unset, .unset, .unset] [(.ref a1)])) rfl rfl (hb hby d42_1)
  refine own_of (U' := (T20.setTop (mkF m 4 #[.val (.ref a1), .val (.int p2), .unset, .unset, .unset, .unset] [(.ref b)]))) (st20) ?_
  obtain ⟨cl21, Ar21, qa21, Sa21, Na21, -, -⟩ := id Vb
  have al21 := X20.arraylength hx (by rw [e20]; exact Ar21.1) (State.isArrayOf_alike hZ.alike Ar21.2.1) (g := (mkF m 4 #[.val (.ref a1), .val (.int p2), .unset, .unset, .unset, .unset] [(.ref b)])) rfl rfl (hb hby d42_4)
  rw [len_of Sa21 Na21] at al21
  refine own_of (U' := (T20.setTop (mkF m 5 #[.val (.ref a1), .val (.int p2), .unset, .unset, .unset, .unset] [(.int (16 : Int32))]))) (al21) ?_
  refine own_istoreN X20 hx hby d42_5 (l' := #[.val (.ref a1), .val (.int p2), .val (.int (16 : Int32)), .unset, .unset, .unset]) rfl ?_
  refine own_iloadN X20 hx hby d42_6 rfl ?_
  refine own_aloadN X20 hx hby d42_7 rfl rfl ?_
  obtain ⟨T22, X22, e22, st22⟩ := getF X20 hx hZ hown (host := "") (Or.inl (own_w hw 76 rfl)) Via.refl e20 Fc (g := (mkF m 8 #[.val (.ref a1), .val (.int p2), .val (.int (16 : Int32)), .unset, .unset, .unset] [(.ref a1), (.int p2)])) rfl rfl (hb hby d42_8)
  refine own_of (U' := (T22.setTop (mkF m 11 #[.val (.ref a1), .val (.int p2), .val (.int (16 : Int32)), .unset, .unset, .unset] [(.int (0 : Int32)), (.int p2)]))) (st22) ?_
  refine own_ishl X22 hx hby d42_11 ?_
  refine own_eq (U' := (T22.setTop (mkF m 12 #[.val (.ref a1), .val (.int p2), .val (.int (16 : Int32)), .unset, .unset, .unset] [(.int p2)]))) (by rw [show (p2 <<< ((0 : Int32) &&& 31)) = p2 from own_shl0 p2]) ?_
  refine own_istoreN X22 hx hby d42_12 (l' := #[.val (.ref a1), .val (.int p2), .val (.int (16 : Int32)), .val (.int p2), .unset, .unset]) rfl ?_
  refine own_iloadN X22 hx hby d42_13 rfl ?_
  refine own_iloadN X22 hx hby d42_14 rfl ?_
  refine own_isub X22 hx hby d42_15 ?_
  refine own_istore X22 hx hby d42_16 (l' := #[.val (.ref a1), .val (.int p2), .val (.int (16 : Int32)), .val (.int p2), .val (.int (p2 - (16 : Int32))), .unset]) rfl ?_
  refine own_iloadN X22 hx hby d42_18 rfl ?_
  refine own_iload X22 hx hby d42_19 rfl ?_
  refine own_iloadN X22 hx hby d42_21 rfl ?_
  refine own_iconst X22 hx hby 2 d42_22 rfl ?_
  refine own_aloadN X22 hx hby d42_23 rfl rfl ?_
  obtain ⟨T23, X23, e23, st23⟩ := getF X22 hx hZ hown (host := "") (Or.inl (own_w hw 76 rfl)) Via.refl e22 Fc (g := (mkF m 24 #[.val (.ref a1), .val (.int p2), .val (.int (16 : Int32)), .val (.int p2), .val (.int (p2 - (16 : Int32))), .unset] [(.ref a1), (.int (2 : Int32)), (.int (16 : Int32)), (.int (p2 - (16 : Int32))), (.int (16 : Int32))])) rfl rfl (hb hby d42_24)
  refine own_of (U' := (T23.setTop (mkF m 27 #[.val (.ref a1), .val (.int p2), .val (.int (16 : Int32)), .val (.int p2), .val (.int (p2 - (16 : Int32))), .unset] [(.int (0 : Int32)), (.int (2 : Int32)), (.int (16 : Int32)), (.int (p2 - (16 : Int32))), (.int (16 : Int32))]))) (st23) ?_
  refine own_ishl X23 hx hby d42_27 ?_
  refine own_eq (U' := (T23.setTop (mkF m 28 #[.val (.ref a1), .val (.int p2), .val (.int (16 : Int32)), .val (.int p2), .val (.int (p2 - (16 : Int32))), .unset] [(.int (2 : Int32)), (.int (16 : Int32)), (.int (p2 - (16 : Int32))), (.int (16 : Int32))]))) (by rw [show ((2 : Int32) <<< ((0 : Int32) &&& 31)) = (2 : Int32) by decide]) ?_
  refine own_iadd X23 hx hby d42_28 ?_
  refine own_eq (U' := (T23.setTop (mkF m 29 #[.val (.ref a1), .val (.int p2), .val (.int (16 : Int32)), .val (.int p2), .val (.int (p2 - (16 : Int32))), .unset] [(.int (18 : Int32)), (.int (p2 - (16 : Int32))), (.int (16 : Int32))]))) (by rw [show ((16 : Int32) + (2 : Int32)) = (18 : Int32) by decide]) ?_
  obtain ⟨_, _, ⟨T24, L24, k24, n24⟩, -, X24, ⟨Lc24, hQ24, l24, y24, z24⟩, st24⟩ := Jvm.LawKit.callS X23 hx (y := mN_10) hown (mvT hZ (own_w hw 238 rfl)) (mvT hZ (own_w hw 239 rfl)) (mvT hZ (own_w hw 240 rfl)) (mvT hZ (own_w hw 241 rfl)) (by decide) (backOf (W := 0) (rmnl l Z a0 hw [] (p2 - (16 : Int32)) h0 n0 Z0 h1) hZ (own_w hw 241 rfl) (own_w hw 240 rfl) (by decide) (by decide)) (g := (mkF m 29 #[.val (.ref a1), .val (.int p2), .val (.int (16 : Int32)), .val (.int p2), .val (.int (p2 - (16 : Int32))), .unset] [(.int (18 : Int32)), (.int (p2 - (16 : Int32))), (.int (16 : Int32))])) rfl (by rw [hml]; rfl) (argsL := [(.int (16 : Int32)), (.int (p2 - (16 : Int32))), (.int (18 : Int32))]) (rest := []) (lenOf pd_3 rfl) rfl (by show 2 * 0 + _ ≤ _; exact Nat.le_of_eq rfl) (hb hby d42_29) (fun _ _ => ⟨rfl, e23, (by decide : 0 + 0 ≤ _), (by decide : 0 + 0 ≤ _)⟩)
  dsimp only [Pt.U, Pt.locs, Pt.cells, Pt.slots] at X24 l24 y24 z24 st24 hQ24
  rw [l24, y24, z24] at X24
  obtain ⟨rfl, Nq24, e24⟩ := hQ24
  have N24 := Fr.app N0 Nq24
  refine own_of (U' := (T24.setTop (mkF m 32 #[.val (.ref a1), .val (.int p2), .val (.int (16 : Int32)), .val (.int p2), .val (.int (p2 - (16 : Int32))), .unset] [(.int (34 : Int32))]))) (st24) ?_
  refine own_istore X24 hx hby d42_32 (l' := #[.val (.ref a1), .val (.int p2), .val (.int (16 : Int32)), .val (.int p2), .val (.int (p2 - (16 : Int32))), .val (.int (34 : Int32))]) rfl ?_
  refine own_iload X24 hx hby d42_34 rfl ?_
  refine own_of (U' := (T24.setTop (mkF m 38 #[.val (.ref a1), .val (.int p2), .val (.int (16 : Int32)), .val (.int p2), .val (.int (p2 - (16 : Int32))), .val (.int (34 : Int32))] [(.int (2147483647 : Int32)), (.int (34 : Int32))]))) (X24.ldcInt hx hown (mvT hZ (own_w hw 246 rfl)) (g := (mkF m 36 #[.val (.ref a1), .val (.int p2), .val (.int (16 : Int32)), .val (.int p2), .val (.int (p2 - (16 : Int32))), .val (.int (34 : Int32))] [(.int (34 : Int32))])) rfl (hb hby d42_36)) ?_
  have hc38_25 : ¬ ((34 : Int32) = (2147483647 : Int32)) := by decide
  refine own_icmpYes X24 hx hby 38 51 d42_38 (feq hc38_25).2 (by decide) (by decide) ?_
  refine own_iload X24 hx hby d42_51 rfl ?_
  refine own_aloadN X24 hx hby d42_53 rfl rfl ?_
  obtain ⟨T26, X26, e26, st26⟩ := getF X24 hx hZ hown (host := "") (Or.inl (own_w hw 76 rfl)) Via.refl e24 Fc (g := (mkF m 54 #[.val (.ref a1), .val (.int p2), .val (.int (16 : Int32)), .val (.int p2), .val (.int (p2 - (16 : Int32))), .val (.int (34 : Int32))] [(.ref a1), (.int (34 : Int32))])) rfl rfl (hb hby d42_54)
  refine own_of (U' := (T26.setTop (mkF m 57 #[.val (.ref a1), .val (.int p2), .val (.int (16 : Int32)), .val (.int p2), .val (.int (p2 - (16 : Int32))), .val (.int (34 : Int32))] [(.int (0 : Int32)), (.int (34 : Int32))]))) (st26) ?_
  refine own_ishr X26 hx hby d42_57 ?_
  refine own_eq (U' := (T26.setTop (mkF m 58 #[.val (.ref a1), .val (.int p2), .val (.int (16 : Int32)), .val (.int p2), .val (.int (p2 - (16 : Int32))), .val (.int (34 : Int32))] [(.int (34 : Int32))]))) (by rw [show ((34 : Int32) >>> ((0 : Int32) &&& 31)) = (34 : Int32) by decide]) ?_
  exact own_retI X26 hx hlk Bd.returns (hb hby d42_58) (by decide) (by decide) (⟨rfl, N24, e26⟩)
abbrev mN_12 : MethodName := ⟨"java/util/Arrays", "copyOf", "([BI)[B"⟩
theorem d45_0 : decode jdk_65_method_121_code 0 = .ok (.iload_n 1, 1) := by decide +kernel
theorem d45_1 : decode jdk_65_method_121_code 1 = .ok (.aload_n 0, 1) := by decide +kernel
theorem d45_2 : decode jdk_65_method_121_code 2 = .ok (.arraylength, 1) := by decide +kernel
theorem d45_3 : decode jdk_65_method_121_code 3 = .ok (.if_icmp .ne 11, 3) := by decide +kernel
theorem d45_14 : decode jdk_65_method_121_code 14 = .ok (.iload_n 1, 1) := by decide +kernel
theorem d45_15 : decode jdk_65_method_121_code 15 = .ok (.newarray .byte, 2) := by decide +kernel
theorem d45_17 : decode jdk_65_method_121_code 17 = .ok (.astore_n 2, 1) := by decide +kernel
theorem d45_18 : decode jdk_65_method_121_code 18 = .ok (.aload_n 0, 1) := by decide +kernel
theorem d45_19 : decode jdk_65_method_121_code 19 = .ok (.iconst 0, 1) := by decide +kernel
theorem d45_20 : decode jdk_65_method_121_code 20 = .ok (.aload_n 2, 1) := by decide +kernel
theorem d45_21 : decode jdk_65_method_121_code 21 = .ok (.iconst 0, 1) := by decide +kernel
theorem d45_22 : decode jdk_65_method_121_code 22 = .ok (.aload_n 0, 1) := by decide +kernel
theorem d45_23 : decode jdk_65_method_121_code 23 = .ok (.arraylength, 1) := by decide +kernel
theorem d45_24 : decode jdk_65_method_121_code 24 = .ok (.iload_n 1, 1) := by decide +kernel
theorem d45_25 : decode jdk_65_method_121_code 25 = .ok (.invokestatic 304, 3) := by decide +kernel
theorem d45_28 : decode jdk_65_method_121_code 28 = .ok (.invokestatic 150, 3) := by decide +kernel
theorem d45_31 : decode jdk_65_method_121_code 31 = .ok (.aload_n 2, 1) := by decide +kernel
theorem d45_32 : decode jdk_65_method_121_code 32 = .ok (.areturn, 1) := by decide +kernel
theorem ef_co (m : MethodId) (x0 : Addr) : entryFrame m #[(.ref x0), (.int (34 : Int32))] 3 = mkF m 0 #[.val (.ref x0), .val (.int (34 : Int32)), .unset] [] := by first | (simp [entryFrame, mkF, argsToLocals, Value.category]; done) | rfl
def Qco (Z : State) (cs : List Int32) (h0 : Heap) (n0 : Nat) (v : Option Value) (h : Heap) (L : List Loc) : Prop := ∃ (u : Addr) (ku : ClassId), v = some (.ref u) ∧ Fr n0 L ∧ Keep h0 h [] ∧ h0.size ≤ u ∧ Exa Z h u "[B" ∧ Arv Z h u ku .byte (34 : Int32) (List.map Value.int cs) (.int (0 : Int32))
set_option maxRecDepth 65536 in
set_option maxHeartbeats 40000000 in
theorem rmco (l : Launch) (Z : State) (a0 : Array Value) (hw : ∀ d ∈ tables_1, d.before a0 Z = true) (ws : List Jvm.Cond) (b : Addr) (kb : ClassId) (cs : List Int32) (h0 : Heap) (n0 : Nat) (Z0 : n0 ≤ h0.size) (Vb : Arv Z h0 b kb .byte (16 : Int32) (List.map Value.int cs) (.int (0 : Int32))) (hle : (cs.length : Int) ≤ (16 : Int32).toInt) :
    MetFree l mN_12 (head1 (Jvm.Cond.code mN_12 jdk_65_method_121_code 3 (some (.array .byte)) :: ws) ({ frames := 1, cells := 1, slots := 34, locals := 18 } : Room)) (fun a U => a = #[(.ref b), (.int (34 : Int32))] ∧ Z.Warmed39 U.vm ∧ U.heap = h0) (fun _ _ _ _ _ => True) (fun _ U o U' => ∃ v L, o = .returned v ∧ (Qco Z cs h0 n0) v U'.heap L ∧ FrameEnd U o U' L ({ frames := 1, cells := 1, slots := 34, locals := 18 } : Room).cells ({ frames := 1, cells := 1, slots := 34, locals := 18 } : Room).slots) := by
  refine MetFree.of_bodySF (plainFor_of_name pn_3) hisR ?_
  intro p e s m args below meth c s₁ Bd hml0 hP hK
  obtain ⟨rfl, hZ, hh⟩ := hP
  have hx := Bd.exec
  have hby := Bd.bytes
  have hml : c.maxLocals = 3 := hml0
  have hown : s.vm.findClass "java/util/Arrays" = some m.cls := findClass_of_methodNamed Bd.named
  have hnm := (name_of_methodNamed Bd.named Bd.method).1
  have hlk := Bd.notSynchronized
  have X0 : Stand p l e ({ frames := 1, cells := 1, slots := 34, locals := 18 } : Room) s m #[(.ref b), (.int (34 : Int32))] below meth c s₁ [] 0 0 := Stand.of_body Bd
  have e0 : s₁.heap = h0 := by rw [← hh, Bd.state]; rfl
  have N0 := Fr.nil n0
  have KK := Keep.refl h0 []
  show own_Ends p e below s FrameEnd (Qco Z cs h0 n0) 1 34 (s₁.setTop (entryFrame m #[(.ref b), (.int (34 : Int32))] 3))
  refine own_of (U' := (s₁.setTop (mkF m 0 #[.val (.ref b), .val (.int (34 : Int32)), .unset] []))) (fun _ k => castTop (ef_co m b) k) ?_
  refine own_iloadN X0 hx hby d45_0 rfl ?_
  refine own_aloadN X0 hx hby d45_1 rfl rfl ?_
  obtain ⟨cl27, Ar27, qa27, Sa27, Na27, -, -⟩ := id Vb
  have al27 := X0.arraylength hx (by rw [e0]; exact Ar27.1) (State.isArrayOf_alike hZ.alike Ar27.2.1) (g := (mkF m 2 #[.val (.ref b), .val (.int (34 : Int32)), .unset] [(.ref b), (.int (34 : Int32))])) rfl rfl (hb hby d45_2)
  rw [len_of Sa27 Na27] at al27
  refine own_of (U' := (s₁.setTop (mkF m 3 #[.val (.ref b), .val (.int (34 : Int32)), .unset] [(.int (16 : Int32)), (.int (34 : Int32))]))) (al27) ?_
  have hc3_28 : ¬ ((34 : Int32) = (16 : Int32)) := by decide
  refine own_icmpYes X0 hx hby 3 14 d45_3 (feq hc3_28).2 (by decide) (by decide) ?_
  refine own_iloadN X0 hx hby d45_14 rfl ?_
  obtain ⟨T29, h29, k29, X29, e29, E29, A29, B29, st29⟩ := newPE X0 hx hZ (own_w hw 23 rfl) e0 (g := (mkF m 15 #[.val (.ref b), .val (.int (34 : Int32)), .unset] [(.int (34 : Int32))])) rfl (hb hby d45_15) rfl (by decide) (cap := 34) (by decide) (by decide) (by decide) (by decide) (ad := "[B") (by decide)
  obtain ⟨b29, gz29⟩ : ∃ z, z = h0.size := ⟨_, rfl⟩
  rw [← gz29] at A29 B29 st29
  have g_b29 : n0 ≤ b29 := Nat.le_trans Z0 (Nat.le_of_eq gz29.symm)
  have sz_b29 : h0.size ≤ b29 := Nat.le_trans KK.1 (Nat.le_of_eq gz29.symm)
  have ne_b_b29 : b ≠ b29 := Nat.ne_of_lt (Nat.lt_of_lt_of_le Vb.lt (Nat.le_of_eq gz29.symm))
  replace Z0 := Nat.le_trans Z0 E29.1
  replace Vb := Vb.ext E29
  replace KK := KK.ext E29
  have V29 : Arv Z h29 b29 k29 .byte (34 : Int32) (List.map Value.int ([] : List Int32)) (.int (0 : Int32)) := Arv.new A29 (by decide)
  refine own_of (U' := (T29.setTop (mkF m 17 #[.val (.ref b), .val (.int (34 : Int32)), .unset] [(.ref b29)]))) (st29) ?_
  refine own_astoreN X29 hx hby d45_17 rfl (l' := #[.val (.ref b), .val (.int (34 : Int32)), .val (.ref b29)]) rfl ?_
  refine own_aloadN X29 hx hby d45_18 rfl rfl ?_
  refine own_iconst X29 hx hby 0 d45_19 rfl ?_
  refine own_aloadN X29 hx hby d45_20 rfl rfl ?_
  refine own_iconst X29 hx hby 0 d45_21 rfl ?_
  refine own_aloadN X29 hx hby d45_22 rfl rfl ?_
  obtain ⟨cl30, Ar30, qa30, Sa30, Na30, -, -⟩ := id Vb
  have al30 := X29.arraylength hx (by rw [e29]; exact Ar30.1) (State.isArrayOf_alike hZ.alike Ar30.2.1) (g := (mkF m 23 #[.val (.ref b), .val (.int (34 : Int32)), .val (.ref b29)] [(.ref b), (.int (0 : Int32)), (.ref b29), (.int (0 : Int32)), (.ref b)])) rfl rfl (hb hby d45_23)
  rw [len_of Sa30 Na30] at al30
  refine own_of (U' := (T29.setTop (mkF m 24 #[.val (.ref b), .val (.int (34 : Int32)), .val (.ref b29)] [(.int (16 : Int32)), (.int (0 : Int32)), (.ref b29), (.int (0 : Int32)), (.ref b)]))) (al30) ?_
  refine own_iloadN X29 hx hby d45_24 rfl ?_
  obtain ⟨_, _, ⟨T31, L31, k31, n31⟩, -, X31, ⟨Lc31, hQ31, l31, y31, z31⟩, st31⟩ := Jvm.LawKit.callS X29 hx (y := mN_7) hown (mvT hZ (own_w hw 185 rfl)) (mvT hZ (own_w hw 186 rfl)) (mvT hZ (own_w hw 187 rfl)) (mvT hZ (own_w hw 188 rfl)) (by decide) (backOf (W := 4) (rmmin l Z a0 hw [] (16 : Int32) (34 : Int32) h29 n0 Z0 ) hZ (own_w hw 188 rfl) (own_w hw 187 rfl) (by decide) (by decide)) (g := (mkF m 25 #[.val (.ref b), .val (.int (34 : Int32)), .val (.ref b29)] [(.int (34 : Int32)), (.int (16 : Int32)), (.int (0 : Int32)), (.ref b29), (.int (0 : Int32)), (.ref b)])) rfl (by rw [hml]; rfl) (argsL := [(.int (16 : Int32)), (.int (34 : Int32))]) (rest := [(.int (0 : Int32)), (.ref b29), (.int (0 : Int32)), (.ref b)]) (lenOf pd_2 rfl) rfl (by show 2 * 0 + _ ≤ _; exact Nat.le_of_eq rfl) (hb hby d45_25) (fun _ _ => ⟨rfl, e29, (by decide : 1 + 0 ≤ _), (by decide : 34 + 0 ≤ _)⟩)
  dsimp only [Pt.U, Pt.locs, Pt.cells, Pt.slots] at X31 l31 y31 z31 st31 hQ31
  rw [l31, y31, z31] at X31
  obtain ⟨rfl, Nq31, e31⟩ := hQ31
  have N31 := Fr.app N0 Nq31
  refine own_of (U' := (T31.setTop (mkF m 28 #[.val (.ref b), .val (.int (34 : Int32)), .val (.ref b29)] [(.int (own_min (16 : Int32) (34 : Int32))), (.int (0 : Int32)), (.ref b29), (.int (0 : Int32)), (.ref b)]))) (st31) ?_
  refine own_eq (U' := (T31.setTop (mkF m 28 #[.val (.ref b), .val (.int (34 : Int32)), .val (.ref b29)] [(.int (16 : Int32)), (.int (0 : Int32)), (.ref b29), (.int (0 : Int32)), (.ref b)]))) (by rw [show (own_min (16 : Int32) (34 : Int32)) = (16 : Int32) from by decide]) ?_
  have Vp32 := Arv.pad V29 (own_padk ([] : List Int32) ((16 : Int32)).toNatClampNeg)
  obtain ⟨T32, h32, L32, X32, e32, N32, Kp32, Vr32, st32⟩ := cpA X31 hx hZ hown (own_w hw 189 rfl) (own_w hw 124 rfl) (own_w hw 122 rfl) (own_w hw 123 rfl) e31 Vb Vp32 (Or.inl ⟨rfl, rfl⟩) (sp := (0 : Int32)) (dp := (0 : Int32)) (nn := (16 : Int32)) (by decide) (by decide) (by decide) (by decide) (by decide) (us := _) rfl (own_cpl ([] : List Int32) rfl) N31 g_b29 (g := (mkF m 28 #[.val (.ref b), .val (.int (34 : Int32)), .val (.ref b29)] [(.int (16 : Int32)), (.int (0 : Int32)), (.ref b29), (.int (0 : Int32)), (.ref b)])) rfl (by rw [hml]; rfl) rfl (hb hby d45_28) (by decide) (W := 0) (by show 2 * 0 + _ ≤ _; exact Nat.le_of_eq rfl) (by decide)
  replace Z0 := Nat.le_trans Z0 Kp32.1
  replace Vb := Vb.keep Kp32 (ninS ne_b_b29 nin0)
  replace KK := KK.trans Kp32 (allS (Or.inr sz_b29) all0)
  replace B29 := B29.keep Kp32
  have Vn32 : Arv Z h32 b29 k29 .byte (34 : Int32) (List.map Value.int (cs)) (.int (0 : Int32)) := (Arv.pad Vr32 (own_cpI ([] : List Int32) cs rfl rfl (own_leN hle)))
  refine own_of (U' := (T32.setTop (mkF m 31 #[.val (.ref b), .val (.int (34 : Int32)), .val (.ref b29)] []))) (st32) ?_
  refine own_aloadN X32 hx hby d45_31 rfl rfl ?_
  exact own_retA X32 hx hlk Bd.returns rfl rfl (hb hby d45_32) (by decide) (by decide) (by rw [e32]; exact ⟨b29, k29, rfl, N32, KK, sz_b29, B29, Vn32⟩)
theorem pd_4 : parseMethodDescriptor "(I)I" = some ⟨[.int], some .int⟩ := by decide +kernel
theorem pd_5 : parseMethodDescriptor "([BI)[B" = some ⟨[(.array .byte), .int], some (.array .byte)⟩ := by decide +kernel
theorem d17_0 : decode jdk_68_method_9_code 0 = .ok (.aload_n 0, 1) := by decide +kernel
theorem d17_1 : decode jdk_68_method_9_code 1 = .ok (.getfield 15, 3) := by decide +kernel
theorem d17_4 : decode jdk_68_method_9_code 4 = .ok (.arraylength, 1) := by decide +kernel
theorem d17_5 : decode jdk_68_method_9_code 5 = .ok (.aload_n 0, 1) := by decide +kernel
theorem d17_6 : decode jdk_68_method_9_code 6 = .ok (.getfield 22, 3) := by decide +kernel
theorem d17_9 : decode jdk_68_method_9_code 9 = .ok (.ishr, 1) := by decide +kernel
theorem d17_10 : decode jdk_68_method_9_code 10 = .ok (.istore_n 2, 1) := by decide +kernel
theorem d17_11 : decode jdk_68_method_9_code 11 = .ok (.iload_n 1, 1) := by decide +kernel
theorem d17_12 : decode jdk_68_method_9_code 12 = .ok (.iload_n 2, 1) := by decide +kernel
theorem d17_13 : decode jdk_68_method_9_code 13 = .ok (.isub, 1) := by decide +kernel
theorem d17_14 : decode jdk_68_method_9_code 14 = .ok (.ifCond .le 24, 3) := by decide +kernel
theorem d17_17 : decode jdk_68_method_9_code 17 = .ok (.aload_n 0, 1) := by decide +kernel
theorem d17_18 : decode jdk_68_method_9_code 18 = .ok (.aload_n 0, 1) := by decide +kernel
theorem d17_19 : decode jdk_68_method_9_code 19 = .ok (.getfield 15, 3) := by decide +kernel
theorem d17_22 : decode jdk_68_method_9_code 22 = .ok (.aload_n 0, 1) := by decide +kernel
theorem d17_23 : decode jdk_68_method_9_code 23 = .ok (.iload_n 1, 1) := by decide +kernel
theorem d17_24 : decode jdk_68_method_9_code 24 = .ok (.invokevirtual 104, 3) := by decide +kernel
theorem d17_27 : decode jdk_68_method_9_code 27 = .ok (.aload_n 0, 1) := by decide +kernel
theorem d17_28 : decode jdk_68_method_9_code 28 = .ok (.getfield 22, 3) := by decide +kernel
theorem d17_31 : decode jdk_68_method_9_code 31 = .ok (.ishl, 1) := by decide +kernel
theorem d17_32 : decode jdk_68_method_9_code 32 = .ok (.invokestatic 108, 3) := by decide +kernel
theorem d17_35 : decode jdk_68_method_9_code 35 = .ok (.putfield 15, 3) := by decide +kernel
theorem d17_38 : decode jdk_68_method_9_code 38 = .ok (.return_, 1) := by decide +kernel
theorem ef_ec16 (m : MethodId) (x0 : Addr) (x1 : Int32) : entryFrame m #[(.ref x0), (.int x1)] 3 = mkF m 0 #[.val (.ref x0), .val (.int x1), .unset] [] := by first | (simp [entryFrame, mkF, argsToLocals, Value.category]; done) | rfl
def Qec (Z : State) (a1 b : Addr) (p2 n : Int32) (cs : List Int32) (h0 : Heap) (n0 : Nat) (v : Option Value) (h : Heap) (L : List Loc) : Prop := v = none ∧ Fr n0 L ∧ Keep h0 h [a1] ∧ ∃ (b' : Addr) (kb' : ClassId) (z' : Int32), (b = b' ∨ h0.size ≤ b') ∧ own_SB Z h a1 b' kb' z' n cs ∧ p2.toInt ≤ z'.toInt
set_option maxRecDepth 65536 in
set_option maxHeartbeats 40000000 in
theorem rmec16 (l : Launch) (Z : State) (a0 : Array Value) (hw : ∀ d ∈ tables_1, d.before a0 Z = true) (ws : List Jvm.Cond) (a1 : Addr) (p2 : Int32) (b : Addr) (kb : ClassId) (n : Int32) (cs : List Int32) (h0 : Heap) (n0 : Nat) (Z0 : n0 ≤ h0.size) (B1 : own_SB Z h0 a1 b kb (16 : Int32) n cs) (hp0 : 0 ≤ p2.toInt) (hp1 : p2.toInt ≤ 34) (g_a1 : n0 ≤ a1) (neab : a1 ≠ b) :
    MetFree l mN_6 (head1 (Jvm.Cond.code mN_6 jdk_68_method_9_code 3 none :: ws) ({ frames := 3, cells := 1, slots := 34, locals := 48 } : Room)) (fun a U => a = #[(.ref a1), (.int p2)] ∧ Z.Warmed39 U.vm ∧ U.heap = h0) (fun _ _ _ _ _ => True) (fun _ U o U' => ∃ v L, o = .returned v ∧ (Qec Z a1 b p2 n cs h0 n0) v U'.heap L ∧ FrameEnd U o U' L ({ frames := 3, cells := 1, slots := 34, locals := 48 } : Room).cells ({ frames := 3, cells := 1, slots := 34, locals := 48 } : Room).slots) := by
  refine MetFree.of_bodySF (plainFor_of_name pn_1) hisR ?_
  intro p e s m args below meth c s₁ Bd hml0 hP hK
  obtain ⟨rfl, hZ, hh⟩ := hP
  have hx := Bd.exec
  have hby := Bd.bytes
  have hml : c.maxLocals = 3 := hml0
  have hown : s.vm.findClass "java/lang/AbstractStringBuilder" = some m.cls := findClass_of_methodNamed Bd.named
  have hnm := (name_of_methodNamed Bd.named Bd.method).1
  have hlk := Bd.notSynchronized
  have X0 : Stand p l e ({ frames := 3, cells := 1, slots := 34, locals := 48 } : Room) s m #[(.ref a1), (.int p2)] below meth c s₁ [] 0 0 := Stand.of_body Bd
  have e0 : s₁.heap = h0 := by rw [← hh, Bd.state]; rfl
  have N0 := Fr.nil n0
  have KK := Keep.refl h0 [a1]
  show own_Ends p e below s FrameEnd (Qec Z a1 b p2 n cs h0 n0) 1 34 (s₁.setTop (entryFrame m #[(.ref a1), (.int p2)] 3))
  refine own_of (U' := (s₁.setTop (mkF m 0 #[.val (.ref a1), .val (.int p2), .unset] []))) (fun _ k => castTop (ef_ec16 m a1 p2) k) ?_
  obtain ⟨E1, Fv, Fc, Fn, Eb, Vb, hz, hn, hle⟩ := B1
  refine own_aloadN X0 hx hby d17_0 rfl rfl ?_
  obtain ⟨T33, X33, e33, st33⟩ := getF X0 hx hZ hown (host := "") (Or.inl (own_w hw 74 rfl)) Via.refl e0 Fv (g := (mkF m 1 #[.val (.ref a1), .val (.int p2), .unset] [(.ref a1)])) rfl rfl (hb hby d17_1)
  refine own_of (U' := (T33.setTop (mkF m 4 #[.val (.ref a1), .val (.int p2), .unset] [(.ref b)]))) (st33) ?_
  obtain ⟨cl34, Ar34, qa34, Sa34, Na34, -, -⟩ := id Vb
  have al34 := X33.arraylength hx (by rw [e33]; exact Ar34.1) (State.isArrayOf_alike hZ.alike Ar34.2.1) (g := (mkF m 4 #[.val (.ref a1), .val (.int p2), .unset] [(.ref b)])) rfl rfl (hb hby d17_4)
  rw [len_of Sa34 Na34] at al34
  refine own_of (U' := (T33.setTop (mkF m 5 #[.val (.ref a1), .val (.int p2), .unset] [(.int (16 : Int32))]))) (al34) ?_
  refine own_aloadN X33 hx hby d17_5 rfl rfl ?_
  obtain ⟨T35, X35, e35, st35⟩ := getF X33 hx hZ hown (host := "") (Or.inl (own_w hw 76 rfl)) Via.refl e33 Fc (g := (mkF m 6 #[.val (.ref a1), .val (.int p2), .unset] [(.ref a1), (.int (16 : Int32))])) rfl rfl (hb hby d17_6)
  refine own_of (U' := (T35.setTop (mkF m 9 #[.val (.ref a1), .val (.int p2), .unset] [(.int (0 : Int32)), (.int (16 : Int32))]))) (st35) ?_
  refine own_ishr X35 hx hby d17_9 ?_
  refine own_eq (U' := (T35.setTop (mkF m 10 #[.val (.ref a1), .val (.int p2), .unset] [(.int (16 : Int32))]))) (by rw [show ((16 : Int32) >>> ((0 : Int32) &&& 31)) = (16 : Int32) by decide]) ?_
  refine own_istoreN X35 hx hby d17_10 (l' := #[.val (.ref a1), .val (.int p2), .val (.int (16 : Int32))]) rfl ?_
  refine own_iloadN X35 hx hby d17_11 rfl ?_
  refine own_iloadN X35 hx hby d17_12 rfl ?_
  refine own_isub X35 hx hby d17_13 ?_
  by_cases hc14_36 : (0 : Int32) < (p2 - (16 : Int32))
  · skip
    refine own_ifNo X35 hx hby d17_14 ((if0 _ _).trans (tlt hc14_36).2.2.2) ?_
    refine own_aloadN X35 hx hby d17_17 rfl rfl ?_
    refine own_aloadN X35 hx hby d17_18 rfl rfl ?_
    obtain ⟨T37, X37, e37, st37⟩ := getF X35 hx hZ hown (host := "") (Or.inl (own_w hw 74 rfl)) Via.refl e35 Fv (g := (mkF m 19 #[.val (.ref a1), .val (.int p2), .val (.int (16 : Int32))] [(.ref a1), (.ref a1)])) rfl rfl (hb hby d17_19)
    refine own_of (U' := (T37.setTop (mkF m 22 #[.val (.ref a1), .val (.int p2), .val (.int (16 : Int32))] [(.ref b), (.ref a1)]))) (st37) ?_
    refine own_aloadN X37 hx hby d17_22 rfl rfl ?_
    refine own_iloadN X37 hx hby d17_23 rfl ?_
    obtain ⟨cq38, q38, q38'⟩ := E1.cell
    obtain ⟨_, _, ⟨T38, L38, k38, n38⟩, -, X38, ⟨Lc38, hQ38, l38, y38, z38⟩, st38⟩ := X37.privateBack hx (y := mN_11) hown (mvT hZ (own_w hw 233 rfl)) (mvT hZ (own_w hw 234 rfl)) (mvT hZ (own_selQ (y := mN_11) (own_w hw 236 rfl) (own_w hw 235 rfl) (own_w hw 234 rfl) (by decide))) (Cond.privateMethod_at (mvP hZ (own_w hw 235 rfl) (args := #[]))) (mvT hZ (own_w hw 237 rfl)) (by decide) (backOf (W := 2) (rmnc l Z a0 hw [] a1 p2 b kb cs h0 n0 Z0 Fv Fc Vb (own_h18 hp0 hp1)) hZ (own_w hw 237 rfl) (own_w hw 70 rfl) (by decide) (by decide)) (g := (mkF m 24 #[.val (.ref a1), .val (.int p2), .val (.int (16 : Int32))] [(.int p2), (.ref a1), (.ref b), (.ref a1)])) rfl (by rw [hml]; rfl) (Steps.refl _) (a := a1) (by rw [e37]; exact q38) q38' (argsL := [(.int p2)]) (rest := [(.ref b), (.ref a1)]) (lenOf pd_4 rfl) rfl (by show 2 * 0 + _ ≤ _; exact Nat.le_of_eq rfl) (hb hby d17_24) (fun _ _ => ⟨rfl, e37, (by decide : 0 + 0 ≤ _), (by decide : 0 + 0 ≤ _)⟩)
    dsimp only [Pt.U, Pt.locs, Pt.cells, Pt.slots] at X38 l38 y38 z38 st38 hQ38
    rw [l38, y38, z38] at X38
    obtain ⟨rfl, Nq38, e38⟩ := hQ38
    have N38 := Fr.app N0 Nq38
    refine own_of (U' := (T38.setTop (mkF m 27 #[.val (.ref a1), .val (.int p2), .val (.int (16 : Int32))] [(.int (34 : Int32)), (.ref b), (.ref a1)]))) (fun _ k => st38.trans k) ?_
    refine own_aloadN X38 hx hby d17_27 rfl rfl ?_
    obtain ⟨T39, X39, e39, st39⟩ := getF X38 hx hZ hown (host := "") (Or.inl (own_w hw 76 rfl)) Via.refl e38 Fc (g := (mkF m 28 #[.val (.ref a1), .val (.int p2), .val (.int (16 : Int32))] [(.ref a1), (.int (34 : Int32)), (.ref b), (.ref a1)])) rfl rfl (hb hby d17_28)
    refine own_of (U' := (T39.setTop (mkF m 31 #[.val (.ref a1), .val (.int p2), .val (.int (16 : Int32))] [(.int (0 : Int32)), (.int (34 : Int32)), (.ref b), (.ref a1)]))) (st39) ?_
    refine own_ishl X39 hx hby d17_31 ?_
    refine own_eq (U' := (T39.setTop (mkF m 32 #[.val (.ref a1), .val (.int p2), .val (.int (16 : Int32))] [(.int (34 : Int32)), (.ref b), (.ref a1)]))) (by rw [show ((34 : Int32) <<< ((0 : Int32) &&& 31)) = (34 : Int32) by decide]) ?_
    obtain ⟨_, _, ⟨T40, L40, k40, n40⟩, -, X40, ⟨Lc40, hQ40, l40, y40, z40⟩, st40⟩ := Jvm.LawKit.callS X39 hx (y := mN_12) hown (mvT hZ (own_w hw 247 rfl)) (mvT hZ (own_w hw 248 rfl)) (mvT hZ (own_w hw 177 rfl)) (mvT hZ (own_w hw 249 rfl)) (by decide) (backOf (W := 1) (rmco l Z a0 hw [] b kb cs h0 n0 Z0 Vb hle) hZ (own_w hw 249 rfl) (own_w hw 177 rfl) (by decide) (by decide)) (g := (mkF m 32 #[.val (.ref a1), .val (.int p2), .val (.int (16 : Int32))] [(.int (34 : Int32)), (.ref b), (.ref a1)])) rfl (by rw [hml]; rfl) (argsL := [(.ref b), (.int (34 : Int32))]) (rest := [(.ref a1)]) (lenOf pd_5 rfl) rfl (by show 2 * 0 + _ ≤ _; exact Nat.le_of_eq rfl) (hb hby d17_32) (fun _ _ => ⟨rfl, e39, (by decide : 0 + 1 ≤ _), (by decide : 0 + 34 ≤ _)⟩)
    dsimp only [Pt.U, Pt.locs, Pt.cells, Pt.slots] at X40 l40 y40 z40 st40 hQ40
    rw [l40, y40, z40] at X40
    obtain ⟨u40, ku40, rfl, Nq40, Kp40, gq40, Eq40, Vq40⟩ := hQ40
    have g_u40 : n0 ≤ u40 := Nat.le_trans Z0 gq40
    have sz_u40 : h0.size ≤ u40 := Nat.le_trans KK.1 gq40
    have ne_a1_u40 : a1 ≠ u40 := Nat.ne_of_lt (Nat.lt_of_lt_of_le E1.lt gq40)
    have ne_b_u40 : b ≠ u40 := Nat.ne_of_lt (Nat.lt_of_lt_of_le Eb.lt gq40)
    have N40 := Fr.app N38 Nq40
    replace Z0 := Nat.le_trans Z0 Kp40.1
    replace E1 := E1.keep Kp40
    replace Fv := Fv.keep Kp40 nin0
    replace Fc := Fc.keep Kp40 nin0
    replace Fn := Fn.keep Kp40 nin0
    replace Eb := Eb.keep Kp40
    replace Vb := Vb.keep Kp40 nin0
    replace KK := KK.trans Kp40 all0
    refine own_of (U' := (T40.setTop (mkF m 35 #[.val (.ref a1), .val (.int p2), .val (.int (16 : Int32))] [(.ref u40), (.ref a1)]))) (st40) ?_
    obtain ⟨T41, h41, X41, e41, W41, st41⟩ := putF X40 hx hZ hown (host := "") (Or.inl (own_w hw 74 rfl)) Via.refl rfl Fv E1 (Or.inl (own_w hw 75 rfl)) (own_w hw 61 rfl) (ty := (.array .byte)) (by decide) rfl rfl (g := (mkF m 35 #[.val (.ref a1), .val (.int p2), .val (.int (16 : Int32))] [(.ref u40), (.ref a1)])) rfl rfl (hb hby d17_35)
    replace Z0 := Nat.le_trans Z0 (Keep.of_wr W41).1
    replace E1 := E1.wr W41
    replace Fv := Fv.same W41
    replace Fc := Fc.other W41 (Or.inr (slot_ne (Or.inl (own_w hw 77 rfl)) (Or.inl (own_w hw 75 rfl)) (by decide) (t := .byte) (t' := (.array .byte)) (by decide) (by decide)))
    replace Fn := Fn.other W41 (Or.inr (slot_ne (Or.inl (own_w hw 99 rfl)) (Or.inl (own_w hw 75 rfl)) (by decide) (t := .int) (t' := (.array .byte)) (by decide) (by decide)))
    replace Eb := Eb.wr W41
    replace Vb := Vb.other W41 (Ne.symm neab)
    replace KK := KK.wr W41 (Or.inl (List.mem_of_getElem? (i := 0) rfl))
    replace Eq40 := Eq40.wr W41
    replace Vq40 := Vq40.other W41 (Ne.symm ne_a1_u40)
    have N41 := Fr.snoc X41 N40 g_a1
    refine own_of (U' := (T41.setTop (mkF m 38 #[.val (.ref a1), .val (.int p2), .val (.int (16 : Int32))] []))) (st41) ?_
    exact own_ret0 X41 hx hlk Bd.returns (hb hby d17_38) (by decide) (by decide) (by rw [e41]; exact ⟨rfl, N41, KK, u40, ku40, (34 : Int32), Or.inr sz_u40, ⟨E1, Fv, Fc, Fn, Eq40, Vq40, Or.inr rfl, hn, by have := hle; rw [own_i16] at this; rw [own_i34]; omega⟩, by rw [own_i34]; exact hp1⟩)
  · skip
    refine own_ifYes X35 hx hby 14 38 d17_14 ((if0 _ _).trans (flt hc14_36).2.2.2) (by decide) (by decide) ?_
    exact own_ret0 X35 hx hlk Bd.returns (hb hby d17_38) (by decide) (by decide) (by rw [e35]; exact ⟨rfl, N0, KK, b, kb, (16 : Int32), Or.inl rfl, ⟨E1, Fv, Fc, Fn, Eb, Vb, hz, hn, hle⟩, own_nogrow hc14_36 hp0 hp1⟩)
theorem ef_ec34 (m : MethodId) (x0 : Addr) (x1 : Int32) : entryFrame m #[(.ref x0), (.int x1)] 3 = mkF m 0 #[.val (.ref x0), .val (.int x1), .unset] [] := by first | (simp [entryFrame, mkF, argsToLocals, Value.category]; done) | rfl
set_option maxRecDepth 65536 in
set_option maxHeartbeats 40000000 in
theorem rmec34 (l : Launch) (Z : State) (a0 : Array Value) (hw : ∀ d ∈ tables_1, d.before a0 Z = true) (ws : List Jvm.Cond) (a1 : Addr) (p2 : Int32) (b : Addr) (kb : ClassId) (n : Int32) (cs : List Int32) (h0 : Heap) (n0 : Nat) (Z0 : n0 ≤ h0.size) (B1 : own_SB Z h0 a1 b kb (34 : Int32) n cs) (hp0 : 0 ≤ p2.toInt) (hp1 : p2.toInt ≤ 34) (g_a1 : n0 ≤ a1) (neab : a1 ≠ b) :
    MetFree l mN_6 (head1 (Jvm.Cond.code mN_6 jdk_68_method_9_code 3 none :: ws) ({ frames := 3, cells := 1, slots := 34, locals := 48 } : Room)) (fun a U => a = #[(.ref a1), (.int p2)] ∧ Z.Warmed39 U.vm ∧ U.heap = h0) (fun _ _ _ _ _ => True) (fun _ U o U' => ∃ v L, o = .returned v ∧ (Qec Z a1 b p2 n cs h0 n0) v U'.heap L ∧ FrameEnd U o U' L ({ frames := 3, cells := 1, slots := 34, locals := 48 } : Room).cells ({ frames := 3, cells := 1, slots := 34, locals := 48 } : Room).slots) := by
  refine MetFree.of_bodySF (plainFor_of_name pn_1) hisR ?_
  intro p e s m args below meth c s₁ Bd hml0 hP hK
  obtain ⟨rfl, hZ, hh⟩ := hP
  have hx := Bd.exec
  have hby := Bd.bytes
  have hml : c.maxLocals = 3 := hml0
  have hown : s.vm.findClass "java/lang/AbstractStringBuilder" = some m.cls := findClass_of_methodNamed Bd.named
  have hnm := (name_of_methodNamed Bd.named Bd.method).1
  have hlk := Bd.notSynchronized
  have X0 : Stand p l e ({ frames := 3, cells := 1, slots := 34, locals := 48 } : Room) s m #[(.ref a1), (.int p2)] below meth c s₁ [] 0 0 := Stand.of_body Bd
  have e0 : s₁.heap = h0 := by rw [← hh, Bd.state]; rfl
  have N0 := Fr.nil n0
  have KK := Keep.refl h0 [a1]
  show own_Ends p e below s FrameEnd (Qec Z a1 b p2 n cs h0 n0) 1 34 (s₁.setTop (entryFrame m #[(.ref a1), (.int p2)] 3))
  refine own_of (U' := (s₁.setTop (mkF m 0 #[.val (.ref a1), .val (.int p2), .unset] []))) (fun _ k => castTop (ef_ec34 m a1 p2) k) ?_
  obtain ⟨E1, Fv, Fc, Fn, Eb, Vb, hz, hn, hle⟩ := B1
  refine own_aloadN X0 hx hby d17_0 rfl rfl ?_
  obtain ⟨T42, X42, e42, st42⟩ := getF X0 hx hZ hown (host := "") (Or.inl (own_w hw 74 rfl)) Via.refl e0 Fv (g := (mkF m 1 #[.val (.ref a1), .val (.int p2), .unset] [(.ref a1)])) rfl rfl (hb hby d17_1)
  refine own_of (U' := (T42.setTop (mkF m 4 #[.val (.ref a1), .val (.int p2), .unset] [(.ref b)]))) (st42) ?_
  obtain ⟨cl43, Ar43, qa43, Sa43, Na43, -, -⟩ := id Vb
  have al43 := X42.arraylength hx (by rw [e42]; exact Ar43.1) (State.isArrayOf_alike hZ.alike Ar43.2.1) (g := (mkF m 4 #[.val (.ref a1), .val (.int p2), .unset] [(.ref b)])) rfl rfl (hb hby d17_4)
  rw [len_of Sa43 Na43] at al43
  refine own_of (U' := (T42.setTop (mkF m 5 #[.val (.ref a1), .val (.int p2), .unset] [(.int (34 : Int32))]))) (al43) ?_
  refine own_aloadN X42 hx hby d17_5 rfl rfl ?_
  obtain ⟨T44, X44, e44, st44⟩ := getF X42 hx hZ hown (host := "") (Or.inl (own_w hw 76 rfl)) Via.refl e42 Fc (g := (mkF m 6 #[.val (.ref a1), .val (.int p2), .unset] [(.ref a1), (.int (34 : Int32))])) rfl rfl (hb hby d17_6)
  refine own_of (U' := (T44.setTop (mkF m 9 #[.val (.ref a1), .val (.int p2), .unset] [(.int (0 : Int32)), (.int (34 : Int32))]))) (st44) ?_
  refine own_ishr X44 hx hby d17_9 ?_
  refine own_eq (U' := (T44.setTop (mkF m 10 #[.val (.ref a1), .val (.int p2), .unset] [(.int (34 : Int32))]))) (by rw [show ((34 : Int32) >>> ((0 : Int32) &&& 31)) = (34 : Int32) by decide]) ?_
  refine own_istoreN X44 hx hby d17_10 (l' := #[.val (.ref a1), .val (.int p2), .val (.int (34 : Int32))]) rfl ?_
  refine own_iloadN X44 hx hby d17_11 rfl ?_
  refine own_iloadN X44 hx hby d17_12 rfl ?_
  refine own_isub X44 hx hby d17_13 ?_
  have hc14_45 : ¬ ((0 : Int32) < (p2 - (34 : Int32))) := own_nogr34 hp0 hp1
  refine own_ifYes X44 hx hby 14 38 d17_14 ((if0 _ _).trans (flt hc14_45).2.2.2) (by decide) (by decide) ?_
  exact own_ret0 X44 hx hlk Bd.returns (hb hby d17_38) (by decide) (by decide) (by rw [e44]; exact ⟨rfl, N0, KK, b, kb, (34 : Int32), Or.inl rfl, ⟨E1, Fv, Fc, Fn, Eb, Vb, hz, hn, hle⟩, by rw [own_i34]; exact hp1⟩)
set_option maxRecDepth 65536 in
theorem rmec (l : Launch) (Z : State) (a0 : Array Value) (hw : ∀ d ∈ tables_1, d.before a0 Z = true) (ws : List Jvm.Cond) (a1 : Addr) (p2 : Int32) (b : Addr) (kb : ClassId) (z n : Int32) (cs : List Int32) (h0 : Heap) (n0 : Nat) (Z0 : n0 ≤ h0.size) (B1 : own_SB Z h0 a1 b kb z n cs) (hp0 : 0 ≤ p2.toInt) (hp1 : p2.toInt ≤ 34) (g_a1 : n0 ≤ a1) (neab : a1 ≠ b) :
    MetFree l mN_6 (head1 (Jvm.Cond.code mN_6 jdk_68_method_9_code 3 none :: ws) ({ frames := 3, cells := 1, slots := 34, locals := 48 } : Room)) (fun a U => a = #[(.ref a1), (.int p2)] ∧ Z.Warmed39 U.vm ∧ U.heap = h0) (fun _ _ _ _ _ => True) (fun _ U o U' => ∃ v L, o = .returned v ∧ (Qec Z a1 b p2 n cs h0 n0) v U'.heap L ∧ FrameEnd U o U' L ({ frames := 3, cells := 1, slots := 34, locals := 48 } : Room).cells ({ frames := 3, cells := 1, slots := 34, locals := 48 } : Room).slots) := by
  rcases B1.2.2.2.2.2.2.1 with rfl | rfl
  · exact rmec16 l Z a0 hw ws a1 p2 b kb n cs h0 n0 Z0 B1 hp0 hp1 g_a1 neab
  · exact rmec34 l Z a0 hw ws a1 p2 b kb n cs h0 n0 Z0 B1 hp0 hp1 g_a1 neab
abbrev mN_13 : MethodName := ⟨"java/lang/AbstractStringBuilder", "inflateIfNeededFor", "(Ljava/lang/String;)V"⟩
theorem d19_0 : decode jdk_68_method_71_code 0 = .ok (.getstatic 18, 3) := by decide +kernel
theorem d19_3 : decode jdk_68_method_71_code 3 = .ok (.ifCond .eq 18, 3) := by decide +kernel
theorem d19_6 : decode jdk_68_method_71_code 6 = .ok (.aload_n 0, 1) := by decide +kernel
theorem d19_7 : decode jdk_68_method_71_code 7 = .ok (.getfield 22, 3) := by decide +kernel
theorem d19_10 : decode jdk_68_method_71_code 10 = .ok (.aload_n 1, 1) := by decide +kernel
theorem d19_11 : decode jdk_68_method_71_code 11 = .ok (.invokevirtual 40, 3) := by decide +kernel
theorem d19_14 : decode jdk_68_method_71_code 14 = .ok (.if_icmp .eq 7, 3) := by decide +kernel
theorem d19_21 : decode jdk_68_method_71_code 21 = .ok (.return_, 1) := by decide +kernel
theorem ef_if (m : MethodId) (x0 : Addr) (x1 : Addr) : entryFrame m #[(.ref x0), (.ref x1)] 2 = mkF m 0 #[.val (.ref x0), .val (.ref x1)] [] := by first | (simp [entryFrame, mkF, argsToLocals, Value.category]; done) | rfl
set_option maxRecDepth 65536 in
set_option maxHeartbeats 40000000 in
theorem rmif (l : Launch) (Z : State) (a0 : Array Value) (hw : ∀ d ∈ tables_1, d.before a0 Z = true) (ws : List Jvm.Cond) (a1 : Addr) (a2 : Addr) (g1 : Int32) (bu : Addr) (ku : ClassId) (zu : Int32) (us : List Int32) (h0 : Heap) (n0 : Nat) (Z0 : n0 ≤ h0.size) (Fc : Fld Z h0 a1 "java/lang/AbstractStringBuilder" "coder" "B" (.int (0 : Int32))) (E2 : Exa Z h0 a2 "java/lang/String") (Gc : Fld Z h0 a2 "java/lang/String" "coder" "B" (.int (0 : Int32))) (Gv : Fld Z h0 a2 "java/lang/String" "value" "[B" (.ref bu)) (Vu : Arv Z h0 bu ku .byte zu (List.map Value.int us) (.int (0 : Int32))) (SC : Sta Z h0 "java/lang/String" "COMPACT_STRINGS" "Z" (.int g1)) (hg1 : ¬ (g1 = (0 : Int32))) :
    MetFree l mN_13 (head1 (Jvm.Cond.code mN_13 jdk_68_method_71_code 2 none :: ws) ({ frames := 1, cells := 0, slots := 0, locals := 13 } : Room)) (fun a U => a = #[(.ref a1), (.ref a2)] ∧ Z.Warmed39 U.vm ∧ U.heap = h0) (fun _ _ _ _ _ => True) (fun _ U o U' => ∃ v L, o = .returned v ∧ (Qn h0 n0) v U'.heap L ∧ FrameEnd U o U' L ({ frames := 1, cells := 0, slots := 0, locals := 13 } : Room).cells ({ frames := 1, cells := 0, slots := 0, locals := 13 } : Room).slots) := by
  refine MetFree.of_bodySF (plainFor_of_name pn_1) hisR ?_
  intro p e s m args below meth c s₁ Bd hml0 hP hK
  obtain ⟨rfl, hZ, hh⟩ := hP
  have hx := Bd.exec
  have hby := Bd.bytes
  have hml : c.maxLocals = 2 := hml0
  have hown : s.vm.findClass "java/lang/AbstractStringBuilder" = some m.cls := findClass_of_methodNamed Bd.named
  have hnm := (name_of_methodNamed Bd.named Bd.method).1
  have hlk := Bd.notSynchronized
  have X0 : Stand p l e ({ frames := 1, cells := 0, slots := 0, locals := 13 } : Room) s m #[(.ref a1), (.ref a2)] below meth c s₁ [] 0 0 := Stand.of_body Bd
  have e0 : s₁.heap = h0 := by rw [← hh, Bd.state]; rfl
  have N0 := Fr.nil n0
  show own_Ends p e below s FrameEnd (Qn h0 n0) 0 0 (s₁.setTop (entryFrame m #[(.ref a1), (.ref a2)] 2))
  refine own_of (U' := (s₁.setTop (mkF m 0 #[.val (.ref a1), .val (.ref a2)] []))) (fun _ k => castTop (ef_if m a1 a2) k) ?_
  obtain ⟨T46, X46, e46, st46⟩ := getS2 X0 hx hZ hown (host := "") (Or.inl (own_w hw 73 rfl)) Via.refl e0 SC (g := (mkF m 0 #[.val (.ref a1), .val (.ref a2)] [])) rfl (hb hby d19_0)
  refine own_of (U' := (T46.setTop (mkF m 3 #[.val (.ref a1), .val (.ref a2)] [(.int g1)]))) (st46) ?_
  have hc3_47 : ¬ (g1 = (0 : Int32)) := hg1
  refine own_ifNo X46 hx hby d19_3 ((if0 _ _).trans (feq hc3_47).1) ?_
  refine own_aloadN X46 hx hby d19_6 rfl rfl ?_
  obtain ⟨T48, X48, e48, st48⟩ := getF X46 hx hZ hown (host := "") (Or.inl (own_w hw 76 rfl)) Via.refl e46 Fc (g := (mkF m 7 #[.val (.ref a1), .val (.ref a2)] [(.ref a1)])) rfl rfl (hb hby d19_7)
  refine own_of (U' := (T48.setTop (mkF m 10 #[.val (.ref a1), .val (.ref a2)] [(.int (0 : Int32))]))) (st48) ?_
  refine own_aloadN X48 hx hby d19_10 rfl rfl ?_
  obtain ⟨cq49, kq49, q49a, q49b, q49c⟩ := isOf hZ e48 E2
  obtain ⟨_, _, ⟨T49, L49, k49, n49⟩, -, X49, ⟨Lc49, hQ49, l49, y49, z49⟩, st49⟩ := X48.virtualBack hx (y := mN_0) (z := mN_0) hown (mvT hZ (own_w hw 115 rfl)) (mvT hZ (own_w hw 94 rfl)) (notFace_of_selects (args := #[]) (mvT hZ (own_w hw 96 rfl))) (mvT hZ (own_w hw 96 rfl)) (mvT hZ (own_w hw 95 rfl)) (by decide) (backOf (W := 1) (rmcoL l Z a0 hw [] a2 g1 h0 n0 Z0 Gc SC hg1) hZ (own_w hw 97 rfl) (own_w hw 7 rfl) (by decide) (by decide)) q49a q49c (g := (mkF m 11 #[.val (.ref a1), .val (.ref a2)] [(.ref a2), (.int (0 : Int32))])) rfl (by rw [hml]; rfl) (Steps.refl _) (argsL := []) (rest := [(.int (0 : Int32))]) (lenOf pd_0 rfl) rfl (by show 2 * 0 + _ ≤ _; exact Nat.le_of_eq rfl) (hb hby d19_11) (fun _ _ => ⟨rfl, e48, (by decide : 0 + 0 ≤ _), (by decide : 0 + 0 ≤ _)⟩)
  dsimp only [Pt.U, Pt.locs, Pt.cells, Pt.slots] at X49 l49 y49 z49 st49 hQ49
  rw [l49, y49, z49] at X49
  obtain ⟨rfl, Nq49, e49⟩ := hQ49
  have N49 := Fr.app N0 Nq49
  refine own_of (U' := (T49.setTop (mkF m 14 #[.val (.ref a1), .val (.ref a2)] [(.int (0 : Int32)), (.int (0 : Int32))]))) (fun _ k => st49.trans k) ?_
  have hc14_50 : (0 : Int32) = (0 : Int32) := by decide
  refine own_icmpYes X49 hx hby 14 21 d19_14 (teq hc14_50).1 (by decide) (by decide) ?_
  exact own_ret0 X49 hx hlk Bd.returns (hb hby d19_21) (by decide) (by decide) (⟨rfl, N49, e49⟩)
abbrev mN_14 : MethodName := ⟨"java/lang/String", "getBytes", "([BIB)V"⟩
theorem d20_0 : decode jdk_42_method_147_code 0 = .ok (.aload_n 0, 1) := by decide +kernel
theorem d20_1 : decode jdk_42_method_147_code 1 = .ok (.invokevirtual 335, 3) := by decide +kernel
theorem d20_4 : decode jdk_42_method_147_code 4 = .ok (.iload_n 3, 1) := by decide +kernel
theorem d20_5 : decode jdk_42_method_147_code 5 = .ok (.if_icmp .ne 23, 3) := by decide +kernel
theorem d20_8 : decode jdk_42_method_147_code 8 = .ok (.aload_n 0, 1) := by decide +kernel
theorem d20_9 : decode jdk_42_method_147_code 9 = .ok (.getfield 9, 3) := by decide +kernel
theorem d20_12 : decode jdk_42_method_147_code 12 = .ok (.iconst 0, 1) := by decide +kernel
theorem d20_13 : decode jdk_42_method_147_code 13 = .ok (.aload_n 1, 1) := by decide +kernel
theorem d20_14 : decode jdk_42_method_147_code 14 = .ok (.iload_n 2, 1) := by decide +kernel
theorem d20_15 : decode jdk_42_method_147_code 15 = .ok (.iload_n 3, 1) := by decide +kernel
theorem d20_16 : decode jdk_42_method_147_code 16 = .ok (.ishl, 1) := by decide +kernel
theorem d20_17 : decode jdk_42_method_147_code 17 = .ok (.aload_n 0, 1) := by decide +kernel
theorem d20_18 : decode jdk_42_method_147_code 18 = .ok (.getfield 9, 3) := by decide +kernel
theorem d20_21 : decode jdk_42_method_147_code 21 = .ok (.arraylength, 1) := by decide +kernel
theorem d20_22 : decode jdk_42_method_147_code 22 = .ok (.invokestatic 212, 3) := by decide +kernel
theorem d20_25 : decode jdk_42_method_147_code 25 = .ok (.goto 18, 3) := by decide +kernel
theorem d20_43 : decode jdk_42_method_147_code 43 = .ok (.return_, 1) := by decide +kernel
theorem ef_gb (m : MethodId) (x0 : Addr) (x1 : Addr) (x2 : Int32) : entryFrame m #[(.ref x0), (.ref x1), (.int x2), (.int (0 : Int32))] 4 = mkF m 0 #[.val (.ref x0), .val (.ref x1), .val (.int x2), .val (.int (0 : Int32))] [] := by first | (simp [entryFrame, mkF, argsToLocals, Value.category]; done) | rfl
def Qgb (Z : State) (b : Addr) (kb : ClassId) (z : Int32) (cs us : List Int32) (h0 : Heap) (n0 : Nat) (v : Option Value) (h : Heap) (L : List Loc) : Prop := v = none ∧ Fr n0 L ∧ Keep h0 h [b] ∧ Arv Z h b kb .byte z (List.map Value.int (cs ++ us)) (.int (0 : Int32))
set_option maxRecDepth 65536 in
set_option maxHeartbeats 40000000 in
theorem rmgb (l : Launch) (Z : State) (a0 : Array Value) (hw : ∀ d ∈ tables_1, d.before a0 Z = true) (ws : List Jvm.Cond) (a2 : Addr) (g1 : Int32) (bu : Addr) (ku : ClassId) (zu : Int32) (us : List Int32) (b : Addr) (kb : ClassId) (z p2 : Int32) (cs : List Int32) (h0 : Heap) (n0 : Nat) (Z0 : n0 ≤ h0.size) (E2 : Exa Z h0 a2 "java/lang/String") (Gc : Fld Z h0 a2 "java/lang/String" "coder" "B" (.int (0 : Int32))) (Gv : Fld Z h0 a2 "java/lang/String" "value" "[B" (.ref bu)) (Vu : Arv Z h0 bu ku .byte zu (List.map Value.int us) (.int (0 : Int32))) (SC : Sta Z h0 "java/lang/String" "COMPACT_STRINGS" "Z" (.int g1)) (hg1 : ¬ (g1 = (0 : Int32))) (Vb : Arv Z h0 b kb .byte z (List.map Value.int cs) (.int (0 : Int32))) (hp : p2.toInt = cs.length) (hu : zu.toInt = us.length) (hf : (cs.length : Int) + us.length ≤ z.toInt) (g_b : n0 ≤ b) (ne2 : a2 ≠ b) (neu : bu ≠ b) :
    MetFree l mN_14 (head1 (Jvm.Cond.code mN_14 jdk_42_method_147_code 4 none :: ws) ({ frames := 1, cells := 0, slots := 0, locals := 18 } : Room)) (fun a U => a = #[(.ref a2), (.ref b), (.int p2), (.int (0 : Int32))] ∧ Z.Warmed39 U.vm ∧ U.heap = h0) (fun _ _ _ _ _ => True) (fun _ U o U' => ∃ v L, o = .returned v ∧ (Qgb Z b kb z cs us h0 n0) v U'.heap L ∧ FrameEnd U o U' L ({ frames := 1, cells := 0, slots := 0, locals := 18 } : Room).cells ({ frames := 1, cells := 0, slots := 0, locals := 18 } : Room).slots) := by
  refine MetFree.of_bodySF (plainFor_of_name pn_0) hisR ?_
  intro p e s m args below meth c s₁ Bd hml0 hP hK
  obtain ⟨rfl, hZ, hh⟩ := hP
  have hx := Bd.exec
  have hby := Bd.bytes
  have hml : c.maxLocals = 4 := hml0
  have hown : s.vm.findClass "java/lang/String" = some m.cls := findClass_of_methodNamed Bd.named
  have hnm := (name_of_methodNamed Bd.named Bd.method).1
  have hlk := Bd.notSynchronized
  have X0 : Stand p l e ({ frames := 1, cells := 0, slots := 0, locals := 18 } : Room) s m #[(.ref a2), (.ref b), (.int p2), (.int (0 : Int32))] below meth c s₁ [] 0 0 := Stand.of_body Bd
  have e0 : s₁.heap = h0 := by rw [← hh, Bd.state]; rfl
  have N0 := Fr.nil n0
  have KK := Keep.refl h0 [b]
  show own_Ends p e below s FrameEnd (Qgb Z b kb z cs us h0 n0) 0 0 (s₁.setTop (entryFrame m #[(.ref a2), (.ref b), (.int p2), (.int (0 : Int32))] 4))
  refine own_of (U' := (s₁.setTop (mkF m 0 #[.val (.ref a2), .val (.ref b), .val (.int p2), .val (.int (0 : Int32))] []))) (fun _ k => castTop (ef_gb m a2 b p2) k) ?_
  refine own_aloadN X0 hx hby d20_0 rfl rfl ?_
  obtain ⟨cq51, kq51, q51a, q51b, q51c⟩ := isOf hZ e0 E2
  obtain ⟨_, _, ⟨T51, L51, k51, n51⟩, -, X51, ⟨Lc51, hQ51, l51, y51, z51⟩, st51⟩ := X0.virtualBack hx (y := mN_0) (z := mN_0) hown (mvT hZ (own_w hw 93 rfl)) (mvT hZ (own_w hw 94 rfl)) (notFace_of_selects (args := #[]) (mvT hZ (own_w hw 96 rfl))) (mvT hZ (own_w hw 96 rfl)) (mvT hZ (own_w hw 95 rfl)) (by decide) (backOf (W := 0) (rmcoL l Z a0 hw [] a2 g1 h0 n0 Z0 Gc SC hg1) hZ (own_w hw 97 rfl) (own_w hw 7 rfl) (by decide) (by decide)) q51a q51c (g := (mkF m 1 #[.val (.ref a2), .val (.ref b), .val (.int p2), .val (.int (0 : Int32))] [(.ref a2)])) rfl (by rw [hml]; rfl) (Steps.refl _) (argsL := []) (rest := []) (lenOf pd_0 rfl) rfl (by show 2 * 0 + _ ≤ _; exact Nat.le_of_eq rfl) (hb hby d20_1) (fun _ _ => ⟨rfl, e0, (by decide : 0 + 0 ≤ _), (by decide : 0 + 0 ≤ _)⟩)
  dsimp only [Pt.U, Pt.locs, Pt.cells, Pt.slots] at X51 l51 y51 z51 st51 hQ51
  rw [l51, y51, z51] at X51
  obtain ⟨rfl, Nq51, e51⟩ := hQ51
  have N51 := Fr.app N0 Nq51
  refine own_of (U' := (T51.setTop (mkF m 4 #[.val (.ref a2), .val (.ref b), .val (.int p2), .val (.int (0 : Int32))] [(.int (0 : Int32))]))) (fun _ k => st51.trans k) ?_
  refine own_iloadN X51 hx hby d20_4 rfl ?_
  have hc5_52 : (0 : Int32) = (0 : Int32) := by decide
  refine own_icmpNo X51 hx hby d20_5 (teq hc5_52).2 ?_
  refine own_aloadN X51 hx hby d20_8 rfl rfl ?_
  obtain ⟨T53, X53, e53, st53⟩ := getF X51 hx hZ hown (host := "") (Or.inl (own_w hw 32 rfl)) Via.refl e51 Gv (g := (mkF m 9 #[.val (.ref a2), .val (.ref b), .val (.int p2), .val (.int (0 : Int32))] [(.ref a2)])) rfl rfl (hb hby d20_9)
  refine own_of (U' := (T53.setTop (mkF m 12 #[.val (.ref a2), .val (.ref b), .val (.int p2), .val (.int (0 : Int32))] [(.ref bu)]))) (st53) ?_
  refine own_iconst X53 hx hby 0 d20_12 rfl ?_
  refine own_aloadN X53 hx hby d20_13 rfl rfl ?_
  refine own_iloadN X53 hx hby d20_14 rfl ?_
  refine own_iloadN X53 hx hby d20_15 rfl ?_
  refine own_ishl X53 hx hby d20_16 ?_
  refine own_eq (U' := (T53.setTop (mkF m 17 #[.val (.ref a2), .val (.ref b), .val (.int p2), .val (.int (0 : Int32))] [(.int p2), (.ref b), (.int (0 : Int32)), (.ref bu)]))) (by rw [show (p2 <<< ((0 : Int32) &&& 31)) = p2 from own_shl0 p2]) ?_
  refine own_aloadN X53 hx hby d20_17 rfl rfl ?_
  obtain ⟨T54, X54, e54, st54⟩ := getF X53 hx hZ hown (host := "") (Or.inl (own_w hw 32 rfl)) Via.refl e53 Gv (g := (mkF m 18 #[.val (.ref a2), .val (.ref b), .val (.int p2), .val (.int (0 : Int32))] [(.ref a2), (.int p2), (.ref b), (.int (0 : Int32)), (.ref bu)])) rfl rfl (hb hby d20_18)
  refine own_of (U' := (T54.setTop (mkF m 21 #[.val (.ref a2), .val (.ref b), .val (.int p2), .val (.int (0 : Int32))] [(.ref bu), (.int p2), (.ref b), (.int (0 : Int32)), (.ref bu)]))) (st54) ?_
  obtain ⟨cl55, Ar55, qa55, Sa55, Na55, -, -⟩ := id Vu
  have al55 := X54.arraylength hx (by rw [e54]; exact Ar55.1) (State.isArrayOf_alike hZ.alike Ar55.2.1) (g := (mkF m 21 #[.val (.ref a2), .val (.ref b), .val (.int p2), .val (.int (0 : Int32))] [(.ref bu), (.int p2), (.ref b), (.int (0 : Int32)), (.ref bu)])) rfl rfl (hb hby d20_21)
  rw [len_of Sa55 Na55] at al55
  refine own_of (U' := (T54.setTop (mkF m 22 #[.val (.ref a2), .val (.ref b), .val (.int p2), .val (.int (0 : Int32))] [(.int zu), (.int p2), (.ref b), (.int (0 : Int32)), (.ref bu)]))) (al55) ?_
  have Vp56 := Arv.pad Vb (own_padk cs (zu).toNatClampNeg)
  obtain ⟨T56, h56, L56, X56, e56, N56, Kp56, Vr56, st56⟩ := cpA X54 hx hZ hown (own_w hw 121 rfl) (own_w hw 124 rfl) (own_w hw 122 rfl) (own_w hw 123 rfl) e54 Vu Vp56 (Or.inl ⟨rfl, rfl⟩) (sp := (0 : Int32)) (dp := p2) (nn := zu) (by decide) (own_ge0 (by omega)) (own_ge0 (by omega)) (by rw [own_z0, Nat.zero_add]; exact Nat.le_refl _) (by rw [own_clamp hp, own_clamp hu]; exact own_leN (by omega)) (us := _) rfl (own_cpl cs (own_clamp hp)) N51 g_b (g := (mkF m 22 #[.val (.ref a2), .val (.ref b), .val (.int p2), .val (.int (0 : Int32))] [(.int zu), (.int p2), (.ref b), (.int (0 : Int32)), (.ref bu)])) rfl (by rw [hml]; rfl) rfl (hb hby d20_22) (by decide) (W := 0) (by show 2 * 0 + _ ≤ _; exact Nat.le_of_eq rfl) (by decide)
  have nst_b := Vb.nostat
  replace Z0 := Nat.le_trans Z0 Kp56.1
  replace E2 := E2.keep Kp56
  replace Gc := Gc.keep Kp56 (ninS ne2 nin0)
  replace Gv := Gv.keep Kp56 (ninS ne2 nin0)
  replace Vu := Vu.keep Kp56 (ninS neu nin0)
  replace SC := own_staKeep SC Kp56 (nsS nst_b ns0)
  replace KK := KK.trans Kp56 (allS (Or.inl (List.mem_of_getElem? (i := 0) rfl)) all0)
  have Vn56 : Arv Z h56 b kb .byte z (List.map Value.int (cs ++ us)) (.int (0 : Int32)) := (Arv.pad Vr56 (own_cpI cs us rfl (own_clamp hp) (by rw [own_clamp hu]; exact Nat.le_refl _)))
  refine own_of (U' := (T56.setTop (mkF m 25 #[.val (.ref a2), .val (.ref b), .val (.int p2), .val (.int (0 : Int32))] []))) (st56) ?_
  refine own_goto X56 hx hby 25 43 d20_25 (by decide) (by decide) ?_
  exact own_ret0 X56 hx hlk Bd.returns (hb hby d20_43) (by decide) (by decide) (by rw [e56]; exact ⟨rfl, N56, KK, Vn56⟩)
abbrev mN_15 : MethodName := ⟨"java/lang/AbstractStringBuilder", "putStringAt", "(ILjava/lang/String;)V"⟩
theorem pd_6 : parseMethodDescriptor "(Ljava/lang/String;)V" = some ⟨[(.object "java/lang/String")], none⟩ := by decide +kernel
theorem pd_7 : parseMethodDescriptor "([BIB)V" = some ⟨[(.array .byte), .int, .byte], none⟩ := by decide +kernel
theorem d18_0 : decode jdk_68_method_73_code 0 = .ok (.aload_n 0, 1) := by decide +kernel
theorem d18_1 : decode jdk_68_method_73_code 1 = .ok (.aload_n 2, 1) := by decide +kernel
theorem d18_2 : decode jdk_68_method_73_code 2 = .ok (.invokevirtual 397, 3) := by decide +kernel
theorem d18_5 : decode jdk_68_method_73_code 5 = .ok (.aload_n 2, 1) := by decide +kernel
theorem d18_6 : decode jdk_68_method_73_code 6 = .ok (.aload_n 0, 1) := by decide +kernel
theorem d18_7 : decode jdk_68_method_73_code 7 = .ok (.getfield 15, 3) := by decide +kernel
theorem d18_10 : decode jdk_68_method_73_code 10 = .ok (.iload_n 1, 1) := by decide +kernel
theorem d18_11 : decode jdk_68_method_73_code 11 = .ok (.aload_n 0, 1) := by decide +kernel
theorem d18_12 : decode jdk_68_method_73_code 12 = .ok (.getfield 22, 3) := by decide +kernel
theorem d18_15 : decode jdk_68_method_73_code 15 = .ok (.invokevirtual 399, 3) := by decide +kernel
theorem d18_18 : decode jdk_68_method_73_code 18 = .ok (.return_, 1) := by decide +kernel
theorem ef_ps (m : MethodId) (x0 : Addr) (x1 : Int32) (x2 : Addr) : entryFrame m #[(.ref x0), (.int x1), (.ref x2)] 3 = mkF m 0 #[.val (.ref x0), .val (.int x1), .val (.ref x2)] [] := by first | (simp [entryFrame, mkF, argsToLocals, Value.category]; done) | rfl
set_option maxRecDepth 65536 in
set_option maxHeartbeats 40000000 in
theorem rmps (l : Launch) (Z : State) (a0 : Array Value) (hw : ∀ d ∈ tables_1, d.before a0 Z = true) (ws : List Jvm.Cond) (a1 : Addr) (a2 : Addr) (g1 : Int32) (bu : Addr) (ku : ClassId) (zu : Int32) (us : List Int32) (b : Addr) (kb : ClassId) (z p2 : Int32) (cs : List Int32) (h0 : Heap) (n0 : Nat) (Z0 : n0 ≤ h0.size) (E1 : Exa Z h0 a1 "java/lang/StringBuilder") (Fv : Fld Z h0 a1 "java/lang/AbstractStringBuilder" "value" "[B" (.ref b)) (Fc : Fld Z h0 a1 "java/lang/AbstractStringBuilder" "coder" "B" (.int (0 : Int32))) (E2 : Exa Z h0 a2 "java/lang/String") (Gc : Fld Z h0 a2 "java/lang/String" "coder" "B" (.int (0 : Int32))) (Gv : Fld Z h0 a2 "java/lang/String" "value" "[B" (.ref bu)) (Vu : Arv Z h0 bu ku .byte zu (List.map Value.int us) (.int (0 : Int32))) (SC : Sta Z h0 "java/lang/String" "COMPACT_STRINGS" "Z" (.int g1)) (hg1 : ¬ (g1 = (0 : Int32))) (Vb : Arv Z h0 b kb .byte z (List.map Value.int cs) (.int (0 : Int32))) (hp : p2.toInt = cs.length) (hu : zu.toInt = us.length) (hf : (cs.length : Int) + us.length ≤ z.toInt) (g_b : n0 ≤ b) (ne2 : a2 ≠ b) (neu : bu ≠ b) (neab : a1 ≠ b) :
    MetFree l mN_15 (head1 (Jvm.Cond.code mN_15 jdk_68_method_73_code 3 none :: ws) ({ frames := 2, cells := 0, slots := 0, locals := 33 } : Room)) (fun a U => a = #[(.ref a1), (.int p2), (.ref a2)] ∧ Z.Warmed39 U.vm ∧ U.heap = h0) (fun _ _ _ _ _ => True) (fun _ U o U' => ∃ v L, o = .returned v ∧ (Qgb Z b kb z cs us h0 n0) v U'.heap L ∧ FrameEnd U o U' L ({ frames := 2, cells := 0, slots := 0, locals := 33 } : Room).cells ({ frames := 2, cells := 0, slots := 0, locals := 33 } : Room).slots) := by
  refine MetFree.of_bodySF (plainFor_of_name pn_1) hisR ?_
  intro p e s m args below meth c s₁ Bd hml0 hP hK
  obtain ⟨rfl, hZ, hh⟩ := hP
  have hx := Bd.exec
  have hby := Bd.bytes
  have hml : c.maxLocals = 3 := hml0
  have hown : s.vm.findClass "java/lang/AbstractStringBuilder" = some m.cls := findClass_of_methodNamed Bd.named
  have hnm := (name_of_methodNamed Bd.named Bd.method).1
  have hlk := Bd.notSynchronized
  have X0 : Stand p l e ({ frames := 2, cells := 0, slots := 0, locals := 33 } : Room) s m #[(.ref a1), (.int p2), (.ref a2)] below meth c s₁ [] 0 0 := Stand.of_body Bd
  have e0 : s₁.heap = h0 := by rw [← hh, Bd.state]; rfl
  have N0 := Fr.nil n0
  have KK := Keep.refl h0 [b]
  show own_Ends p e below s FrameEnd (Qgb Z b kb z cs us h0 n0) 0 0 (s₁.setTop (entryFrame m #[(.ref a1), (.int p2), (.ref a2)] 3))
  refine own_of (U' := (s₁.setTop (mkF m 0 #[.val (.ref a1), .val (.int p2), .val (.ref a2)] []))) (fun _ k => castTop (ef_ps m a1 p2 a2) k) ?_
  refine own_aloadN X0 hx hby d18_0 rfl rfl ?_
  refine own_aloadN X0 hx hby d18_1 rfl rfl ?_
  obtain ⟨cq57, q57, q57'⟩ := E1.cell
  obtain ⟨_, _, ⟨T57, L57, k57, n57⟩, -, X57, ⟨Lc57, hQ57, l57, y57, z57⟩, st57⟩ := X0.privateBack hx (y := mN_13) hown (mvT hZ (own_w hw 110 rfl)) (mvT hZ (own_w hw 111 rfl)) (mvT hZ (own_selQ (y := mN_13) (own_w hw 113 rfl) (own_w hw 112 rfl) (own_w hw 111 rfl) (by decide))) (Cond.privateMethod_at (mvP hZ (own_w hw 112 rfl) (args := #[]))) (mvT hZ (own_w hw 114 rfl)) (by decide) (backOf (W := 0) (rmif l Z a0 hw [] a1 a2 g1 bu ku zu us h0 n0 Z0 Fc E2 Gc Gv Vu SC hg1) hZ (own_w hw 114 rfl) (own_w hw 70 rfl) (by decide) (by decide)) (g := (mkF m 2 #[.val (.ref a1), .val (.int p2), .val (.ref a2)] [(.ref a2), (.ref a1)])) rfl (by rw [hml]; rfl) (Steps.refl _) (a := a1) (by rw [e0]; exact q57) q57' (argsL := [(.ref a2)]) (rest := []) (lenOf pd_6 rfl) rfl (by show 2 * 0 + _ ≤ _; exact Nat.le_of_eq rfl) (hb hby d18_2) (fun _ _ => ⟨rfl, e0, (by decide : 0 + 0 ≤ _), (by decide : 0 + 0 ≤ _)⟩)
  dsimp only [Pt.U, Pt.locs, Pt.cells, Pt.slots] at X57 l57 y57 z57 st57 hQ57
  rw [l57, y57, z57] at X57
  obtain ⟨rfl, Nq57, e57⟩ := hQ57
  have N57 := Fr.app N0 Nq57
  refine own_of (U' := (T57.setTop (mkF m 5 #[.val (.ref a1), .val (.int p2), .val (.ref a2)] []))) (fun _ k => st57.trans k) ?_
  refine own_aloadN X57 hx hby d18_5 rfl rfl ?_
  refine own_aloadN X57 hx hby d18_6 rfl rfl ?_
  obtain ⟨T58, X58, e58, st58⟩ := getF X57 hx hZ hown (host := "") (Or.inl (own_w hw 74 rfl)) Via.refl e57 Fv (g := (mkF m 7 #[.val (.ref a1), .val (.int p2), .val (.ref a2)] [(.ref a1), (.ref a2)])) rfl rfl (hb hby d18_7)
  refine own_of (U' := (T58.setTop (mkF m 10 #[.val (.ref a1), .val (.int p2), .val (.ref a2)] [(.ref b), (.ref a2)]))) (st58) ?_
  refine own_iloadN X58 hx hby d18_10 rfl ?_
  refine own_aloadN X58 hx hby d18_11 rfl rfl ?_
  obtain ⟨T59, X59, e59, st59⟩ := getF X58 hx hZ hown (host := "") (Or.inl (own_w hw 76 rfl)) Via.refl e58 Fc (g := (mkF m 12 #[.val (.ref a1), .val (.int p2), .val (.ref a2)] [(.ref a1), (.int p2), (.ref b), (.ref a2)])) rfl rfl (hb hby d18_12)
  refine own_of (U' := (T59.setTop (mkF m 15 #[.val (.ref a1), .val (.int p2), .val (.ref a2)] [(.int (0 : Int32)), (.int p2), (.ref b), (.ref a2)]))) (st59) ?_
  obtain ⟨cq60, kq60, q60a, q60b, q60c⟩ := isOf hZ e59 E2
  obtain ⟨_, _, ⟨T60, L60, k60, n60⟩, -, X60, ⟨Lc60, hQ60, l60, y60, z60⟩, st60⟩ := X59.virtualBack hx (y := mN_14) (z := mN_14) hown (mvT hZ (own_w hw 116 rfl)) (mvT hZ (own_w hw 117 rfl)) (notFace_of_selects (args := #[]) (mvT hZ (own_w hw 119 rfl))) (mvT hZ (own_w hw 119 rfl)) (mvT hZ (own_w hw 118 rfl)) (by decide) (backOf (W := 0) (rmgb l Z a0 hw [] a2 g1 bu ku zu us b kb z p2 cs h0 n0 Z0 E2 Gc Gv Vu SC hg1 Vb hp hu hf g_b ne2 neu) hZ (own_w hw 120 rfl) (own_w hw 7 rfl) (by decide) (by decide)) q60a q60c (g := (mkF m 15 #[.val (.ref a1), .val (.int p2), .val (.ref a2)] [(.int (0 : Int32)), (.int p2), (.ref b), (.ref a2)])) rfl (by rw [hml]; rfl) (Steps.refl _) (argsL := [(.ref b), (.int p2), (.int (0 : Int32))]) (rest := []) (lenOf pd_7 rfl) rfl (by show 2 * 0 + _ ≤ _; exact Nat.le_of_eq rfl) (hb hby d18_15) (fun _ _ => ⟨rfl, e59, (by decide : 0 + 0 ≤ _), (by decide : 0 + 0 ≤ _)⟩)
  dsimp only [Pt.U, Pt.locs, Pt.cells, Pt.slots] at X60 l60 y60 z60 st60 hQ60
  rw [l60, y60, z60] at X60
  obtain ⟨rfl, Nq60, Kp60, Vq60⟩ := hQ60
  have N60 := Fr.app N57 Nq60
  have nst_b := Vb.nostat
  replace Z0 := Nat.le_trans Z0 Kp60.1
  replace E1 := E1.keep Kp60
  replace Fv := Fv.keep Kp60 (ninS neab nin0)
  replace Fc := Fc.keep Kp60 (ninS neab nin0)
  replace E2 := E2.keep Kp60
  replace Gc := Gc.keep Kp60 (ninS ne2 nin0)
  replace Gv := Gv.keep Kp60 (ninS ne2 nin0)
  replace Vu := Vu.keep Kp60 (ninS neu nin0)
  replace SC := own_staKeep SC Kp60 (nsS nst_b ns0)
  replace KK := KK.trans Kp60 (allS (Or.inl (List.mem_of_getElem? (i := 0) rfl)) all0)
  refine own_of (U' := (T60.setTop (mkF m 18 #[.val (.ref a1), .val (.int p2), .val (.ref a2)] []))) (fun _ k => st60.trans k) ?_
  exact own_ret0 X60 hx hlk Bd.returns (hb hby d18_18) (by decide) (by decide) (⟨rfl, N60, KK, Vq60⟩)
abbrev mN_16 : MethodName := ⟨"java/lang/AbstractStringBuilder", "append", "(Ljava/lang/String;)Ljava/lang/AbstractStringBuilder;"⟩
theorem pd_8 : parseMethodDescriptor "(I)V" = some ⟨[.int], none⟩ := by decide +kernel
theorem pd_9 : parseMethodDescriptor "(ILjava/lang/String;)V" = some ⟨[.int, (.object "java/lang/String")], none⟩ := by decide +kernel
theorem d14_0 : decode jdk_68_method_22_code 0 = .ok (.aload_n 1, 1) := by decide +kernel
theorem d14_1 : decode jdk_68_method_22_code 1 = .ok (.ifnonnull 8, 3) := by decide +kernel
theorem d14_9 : decode jdk_68_method_22_code 9 = .ok (.aload_n 1, 1) := by decide +kernel
theorem d14_10 : decode jdk_68_method_22_code 10 = .ok (.invokevirtual 32, 3) := by decide +kernel
theorem d14_13 : decode jdk_68_method_22_code 13 = .ok (.istore_n 2, 1) := by decide +kernel
theorem d14_14 : decode jdk_68_method_22_code 14 = .ok (.aload_n 0, 1) := by decide +kernel
theorem d14_15 : decode jdk_68_method_22_code 15 = .ok (.aload_n 0, 1) := by decide +kernel
theorem d14_16 : decode jdk_68_method_22_code 16 = .ok (.getfield 79, 3) := by decide +kernel
theorem d14_19 : decode jdk_68_method_22_code 19 = .ok (.iload_n 2, 1) := by decide +kernel
theorem d14_20 : decode jdk_68_method_22_code 20 = .ok (.iadd, 1) := by decide +kernel
theorem d14_21 : decode jdk_68_method_22_code 21 = .ok (.invokevirtual 100, 3) := by decide +kernel
theorem d14_24 : decode jdk_68_method_22_code 24 = .ok (.aload_n 0, 1) := by decide +kernel
theorem d14_25 : decode jdk_68_method_22_code 25 = .ok (.aload_n 0, 1) := by decide +kernel
theorem d14_26 : decode jdk_68_method_22_code 26 = .ok (.getfield 79, 3) := by decide +kernel
theorem d14_29 : decode jdk_68_method_22_code 29 = .ok (.aload_n 1, 1) := by decide +kernel
theorem d14_30 : decode jdk_68_method_22_code 30 = .ok (.invokevirtual 208, 3) := by decide +kernel
theorem d14_33 : decode jdk_68_method_22_code 33 = .ok (.aload_n 0, 1) := by decide +kernel
theorem d14_34 : decode jdk_68_method_22_code 34 = .ok (.dup, 1) := by decide +kernel
theorem d14_35 : decode jdk_68_method_22_code 35 = .ok (.getfield 79, 3) := by decide +kernel
theorem d14_38 : decode jdk_68_method_22_code 38 = .ok (.iload_n 2, 1) := by decide +kernel
theorem d14_39 : decode jdk_68_method_22_code 39 = .ok (.iadd, 1) := by decide +kernel
theorem d14_40 : decode jdk_68_method_22_code 40 = .ok (.putfield 79, 3) := by decide +kernel
theorem d14_43 : decode jdk_68_method_22_code 43 = .ok (.aload_n 0, 1) := by decide +kernel
theorem d14_44 : decode jdk_68_method_22_code 44 = .ok (.areturn, 1) := by decide +kernel
theorem ef_as (m : MethodId) (x0 : Addr) (x1 : Addr) : entryFrame m #[(.ref x0), (.ref x1)] 3 = mkF m 0 #[.val (.ref x0), .val (.ref x1), .unset] [] := by first | (simp [entryFrame, mkF, argsToLocals, Value.category]; done) | rfl
def Qap (Z : State) (a1 b : Addr) (n : Int32) (cs : List Int32) (h0 : Heap) (n0 : Nat) (v : Option Value) (h : Heap) (L : List Loc) : Prop := v = some (.ref a1) ∧ Fr n0 L ∧ Keep h0 h [a1, b] ∧ ∃ (b' : Addr) (kb' : ClassId) (z' : Int32), (b = b' ∨ h0.size ≤ b') ∧ own_SB Z h a1 b' kb' z' n cs
set_option maxRecDepth 65536 in
set_option maxHeartbeats 40000000 in
theorem rmas (l : Launch) (Z : State) (a0 : Array Value) (hw : ∀ d ∈ tables_1, d.before a0 Z = true) (ws : List Jvm.Cond) (a1 b : Addr) (kb : ClassId) (z n : Int32) (cs : List Int32) (a2 : Addr) (g1 : Int32) (bu : Addr) (ku : ClassId) (zu : Int32) (us : List Int32) (h0 : Heap) (n0 : Nat) (Z0 : n0 ≤ h0.size) (B1 : own_SB Z h0 a1 b kb z n cs) (E2 : Exa Z h0 a2 "java/lang/String") (Gc : Fld Z h0 a2 "java/lang/String" "coder" "B" (.int (0 : Int32))) (Gv : Fld Z h0 a2 "java/lang/String" "value" "[B" (.ref bu)) (Vu : Arv Z h0 bu ku .byte zu (List.map Value.int us) (.int (0 : Int32))) (SC : Sta Z h0 "java/lang/String" "COMPACT_STRINGS" "Z" (.int g1)) (hg1 : ¬ (g1 = (0 : Int32))) (hu : zu.toInt = us.length) (hmax : cs.length + us.length ≤ 34) (g_a1 : n0 ≤ a1) (g_b : n0 ≤ b) (neab : a1 ≠ b) (n12 : a1 ≠ a2) (n1u : a1 ≠ bu) (ne2 : a2 ≠ b) (neu : bu ≠ b) :
    MetFree l mN_16 (head1 (Jvm.Cond.code mN_16 jdk_68_method_22_code 3 (some (.object "java/lang/AbstractStringBuilder")) :: ws) ({ frames := 4, cells := 1, slots := 34, locals := 62 } : Room)) (fun a U => a = #[(.ref a1), (.ref a2)] ∧ Z.Warmed39 U.vm ∧ U.heap = h0) (fun _ _ _ _ _ => True) (fun _ U o U' => ∃ v L, o = .returned v ∧ (Qap Z a1 b (n + zu) (cs ++ us) h0 n0) v U'.heap L ∧ FrameEnd U o U' L ({ frames := 4, cells := 1, slots := 34, locals := 62 } : Room).cells ({ frames := 4, cells := 1, slots := 34, locals := 62 } : Room).slots) := by
  refine MetFree.of_bodySF (plainFor_of_name pn_1) hisR ?_
  intro p e s m args below meth c s₁ Bd hml0 hP hK
  obtain ⟨rfl, hZ, hh⟩ := hP
  have hx := Bd.exec
  have hby := Bd.bytes
  have hml : c.maxLocals = 3 := hml0
  have hown : s.vm.findClass "java/lang/AbstractStringBuilder" = some m.cls := findClass_of_methodNamed Bd.named
  have hnm := (name_of_methodNamed Bd.named Bd.method).1
  have hlk := Bd.notSynchronized
  have X0 : Stand p l e ({ frames := 4, cells := 1, slots := 34, locals := 62 } : Room) s m #[(.ref a1), (.ref a2)] below meth c s₁ [] 0 0 := Stand.of_body Bd
  have e0 : s₁.heap = h0 := by rw [← hh, Bd.state]; rfl
  have N0 := Fr.nil n0
  have KK := Keep.refl h0 [a1, b]
  show own_Ends p e below s FrameEnd (Qap Z a1 b (n + zu) (cs ++ us) h0 n0) 1 34 (s₁.setTop (entryFrame m #[(.ref a1), (.ref a2)] 3))
  refine own_of (U' := (s₁.setTop (mkF m 0 #[.val (.ref a1), .val (.ref a2), .unset] []))) (fun _ k => castTop (ef_as m a1 a2) k) ?_
  obtain ⟨E1, Fv, Fc, Fn, Eb, Vb, hz, hn, hle⟩ := B1
  have hng := rng32 n
  refine own_aloadN X0 hx hby d14_0 rfl rfl ?_
  refine own_ifnonnullYes X0 hx hby 1 9 d14_1 (by decide) (by decide) ?_
  refine own_aloadN X0 hx hby d14_9 rfl rfl ?_
  obtain ⟨cq61, kq61, q61a, q61b, q61c⟩ := isOf hZ e0 E2
  obtain ⟨_, _, ⟨T61, L61, k61, n61⟩, -, X61, ⟨Lc61, hQ61, l61, y61, z61⟩, st61⟩ := X0.virtualBack hx (y := mN_1) (z := mN_1) hown (mvT hZ (own_w hw 88 rfl)) (mvT hZ (own_w hw 89 rfl)) (notFace_of_selects (args := #[]) (mvT hZ (own_w hw 91 rfl))) (mvT hZ (own_w hw 91 rfl)) (mvT hZ (own_w hw 90 rfl)) (by decide) (backOf (W := 0) (rmlnS l Z a0 hw [] a2 g1 bu ku zu us h0 n0 Z0 E2 Gc Gv Vu SC hg1) hZ (own_w hw 92 rfl) (own_w hw 7 rfl) (by decide) (by decide)) q61a q61c (g := (mkF m 10 #[.val (.ref a1), .val (.ref a2), .unset] [(.ref a2)])) rfl (by rw [hml]; rfl) (Steps.refl _) (argsL := []) (rest := []) (lenOf pd_1 rfl) rfl (by show 2 * 0 + _ ≤ _; exact Nat.le_of_eq rfl) (hb hby d14_10) (fun _ _ => ⟨rfl, e0, (by decide : 0 + 0 ≤ _), (by decide : 0 + 0 ≤ _)⟩)
  dsimp only [Pt.U, Pt.locs, Pt.cells, Pt.slots] at X61 l61 y61 z61 st61 hQ61
  rw [l61, y61, z61] at X61
  obtain ⟨rfl, Nq61, e61⟩ := hQ61
  have N61 := Fr.app N0 Nq61
  refine own_of (U' := (T61.setTop (mkF m 13 #[.val (.ref a1), .val (.ref a2), .unset] [(.int zu)]))) (fun _ k => st61.trans k) ?_
  refine own_istoreN X61 hx hby d14_13 (l' := #[.val (.ref a1), .val (.ref a2), .val (.int zu)]) rfl ?_
  refine own_aloadN X61 hx hby d14_14 rfl rfl ?_
  refine own_aloadN X61 hx hby d14_15 rfl rfl ?_
  obtain ⟨T62, X62, e62, st62⟩ := getF X61 hx hZ hown (host := "") (Or.inl (own_w hw 98 rfl)) Via.refl e61 Fn (g := (mkF m 16 #[.val (.ref a1), .val (.ref a2), .val (.int zu)] [(.ref a1), (.ref a1)])) rfl rfl (hb hby d14_16)
  refine own_of (U' := (T62.setTop (mkF m 19 #[.val (.ref a1), .val (.ref a2), .val (.int zu)] [(.int n), (.ref a1)]))) (st62) ?_
  refine own_iloadN X62 hx hby d14_19 rfl ?_
  refine own_iadd X62 hx hby d14_20 ?_
  obtain ⟨cq63, q63, q63'⟩ := E1.cell
  obtain ⟨_, _, ⟨T63, L63, k63, n63⟩, -, X63, ⟨Lc63, hQ63, l63, y63, z63⟩, st63⟩ := X62.privateBack hx (y := mN_6) hown (mvT hZ (own_w hw 100 rfl)) (mvT hZ (own_w hw 101 rfl)) (mvT hZ (own_selQ (y := mN_6) (own_w hw 103 rfl) (own_w hw 102 rfl) (own_w hw 101 rfl) (by decide))) (Cond.privateMethod_at (mvP hZ (own_w hw 102 rfl) (args := #[]))) (mvT hZ (own_w hw 104 rfl)) (by decide) (backOf (W := 0) (rmec l Z a0 hw [] a1 (n + zu) b kb z n cs h0 n0 Z0 ⟨E1, Fv, Fc, Fn, Eb, Vb, hz, hn, hle⟩ (by rw [own_addI (by omega) (by omega)]; omega) (by rw [own_addI (by omega) (by omega)]; omega) g_a1 neab) hZ (own_w hw 104 rfl) (own_w hw 70 rfl) (by decide) (by decide)) (g := (mkF m 21 #[.val (.ref a1), .val (.ref a2), .val (.int zu)] [(.int (n + zu)), (.ref a1)])) rfl (by rw [hml]; rfl) (Steps.refl _) (a := a1) (by rw [e62]; exact q63) q63' (argsL := [(.int (n + zu))]) (rest := []) (lenOf pd_8 rfl) rfl (by show 2 * 0 + _ ≤ _; exact Nat.le_of_eq rfl) (hb hby d14_21) (fun _ _ => ⟨rfl, e62, (by decide : 0 + 1 ≤ _), (by decide : 0 + 34 ≤ _)⟩)
  dsimp only [Pt.U, Pt.locs, Pt.cells, Pt.slots] at X63 l63 y63 z63 st63 hQ63
  rw [l63, y63, z63] at X63
  obtain ⟨rfl, Nq63, Kp63, u63, ku63, zu63, ho63, Bq63, hp63⟩ := hQ63
  have ne_a1_u63 : a1 ≠ u63 := own_neor ho63 neab E1.lt
  have ne_a2_u63 : a2 ≠ u63 := own_neor ho63 ne2 E2.lt
  have ne_bu_u63 : bu ≠ u63 := own_neor ho63 neu Vu.lt
  have g_u63 : n0 ≤ u63 := ho63.elim (fun q => by rw [← q]; exact g_b) (fun q => Nat.le_trans Z0 q)
  have mk_u63 : u63 ∈ ([a1, b] : List Addr) ∨ h0.size ≤ u63 := ho63.elim (fun q => by rw [← q]; exact (Or.inl (List.mem_of_getElem? (i := 1) rfl))) (fun q => Or.inr (Nat.le_trans KK.1 q))
  have N63 := Fr.app N61 Nq63
  have nst_a1 := E1.nostat
  replace Z0 := Nat.le_trans Z0 Kp63.1
  replace E1 := E1.keep Kp63
  replace Eb := Eb.keep Kp63
  replace Vb := Vb.keep Kp63 (ninS (Ne.symm neab) nin0)
  replace E2 := E2.keep Kp63
  replace Gc := Gc.keep Kp63 (ninS (Ne.symm n12) nin0)
  replace Gv := Gv.keep Kp63 (ninS (Ne.symm n12) nin0)
  replace Vu := Vu.keep Kp63 (ninS (Ne.symm n1u) nin0)
  replace SC := own_staKeep SC Kp63 (nsS nst_a1 ns0)
  replace KK := KK.trans Kp63 (allS (Or.inl (List.mem_of_getElem? (i := 0) rfl)) all0)
  obtain ⟨Es63, Fv63, Fc63, Fn63, Eb63, Vb63, hz63, hn63, hle63⟩ := Bq63
  refine own_of (U' := (T63.setTop (mkF m 24 #[.val (.ref a1), .val (.ref a2), .val (.int zu)] []))) (fun _ k => st63.trans k) ?_
  refine own_aloadN X63 hx hby d14_24 rfl rfl ?_
  refine own_aloadN X63 hx hby d14_25 rfl rfl ?_
  obtain ⟨T64, X64, e64, st64⟩ := getF X63 hx hZ hown (host := "") (Or.inl (own_w hw 98 rfl)) Via.refl rfl Fn63 (g := (mkF m 26 #[.val (.ref a1), .val (.ref a2), .val (.int zu)] [(.ref a1), (.ref a1)])) rfl rfl (hb hby d14_26)
  refine own_of (U' := (T64.setTop (mkF m 29 #[.val (.ref a1), .val (.ref a2), .val (.int zu)] [(.int n), (.ref a1)]))) (st64) ?_
  refine own_aloadN X64 hx hby d14_29 rfl rfl ?_
  obtain ⟨cq65, q65, q65'⟩ := Es63.cell
  obtain ⟨_, _, ⟨T65, L65, k65, n65⟩, -, X65, ⟨Lc65, hQ65, l65, y65, z65⟩, st65⟩ := X64.privateBack hx (y := mN_15) hown (mvT hZ (own_w hw 105 rfl)) (mvT hZ (own_w hw 106 rfl)) (mvT hZ (own_selQ (y := mN_15) (own_w hw 108 rfl) (own_w hw 107 rfl) (own_w hw 106 rfl) (by decide))) (Cond.privateMethod_at (mvP hZ (own_w hw 107 rfl) (args := #[]))) (mvT hZ (own_w hw 109 rfl)) (by decide) (backOf (W := 0) (rmps l Z a0 hw [] a1 a2 g1 bu ku zu us u63 ku63 zu63 n cs T63.heap n0 Z0 Es63 Fv63 Fc63 E2 Gc Gv Vu SC hg1 Vb63 hn hu (by have q := hp63; rw [own_addI (by omega) (by omega)] at q; omega) g_u63 ne_a2_u63 ne_bu_u63 ne_a1_u63) hZ (own_w hw 109 rfl) (own_w hw 70 rfl) (by decide) (by decide)) (g := (mkF m 30 #[.val (.ref a1), .val (.ref a2), .val (.int zu)] [(.ref a2), (.int n), (.ref a1)])) rfl (by rw [hml]; rfl) (Steps.refl _) (a := a1) (by rw [e64]; exact q65) q65' (argsL := [(.int n), (.ref a2)]) (rest := []) (lenOf pd_9 rfl) rfl (by show 2 * 0 + _ ≤ _; exact Nat.le_of_eq rfl) (hb hby d14_30) (fun _ _ => ⟨rfl, e64, (by decide : 1 + 0 ≤ _), (by decide : 34 + 0 ≤ _)⟩)
  dsimp only [Pt.U, Pt.locs, Pt.cells, Pt.slots] at X65 l65 y65 z65 st65 hQ65
  rw [l65, y65, z65] at X65
  obtain ⟨rfl, Nq65, Kp65, Vq65⟩ := hQ65
  have N65 := Fr.app N63 Nq65
  have nst_u63 := Eb63.nostat
  replace Z0 := Nat.le_trans Z0 Kp65.1
  replace E2 := E2.keep Kp65
  replace Gc := Gc.keep Kp65 (ninS ne_a2_u63 nin0)
  replace Gv := Gv.keep Kp65 (ninS ne_a2_u63 nin0)
  replace Vu := Vu.keep Kp65 (ninS ne_bu_u63 nin0)
  replace SC := own_staKeep SC Kp65 (nsS nst_u63 ns0)
  replace KK := KK.trans Kp65 (allS mk_u63 all0)
  replace Es63 := Es63.keep Kp65
  replace Fv63 := Fv63.keep Kp65 (ninS ne_a1_u63 nin0)
  replace Fc63 := Fc63.keep Kp65 (ninS ne_a1_u63 nin0)
  replace Fn63 := Fn63.keep Kp65 (ninS ne_a1_u63 nin0)
  replace Eb63 := Eb63.keep Kp65
  refine own_of (U' := (T65.setTop (mkF m 33 #[.val (.ref a1), .val (.ref a2), .val (.int zu)] []))) (fun _ k => st65.trans k) ?_
  refine own_aloadN X65 hx hby d14_33 rfl rfl ?_
  refine own_dup X65 hx hby d14_34 rfl ?_
  obtain ⟨T66, X66, e66, st66⟩ := getF X65 hx hZ hown (host := "") (Or.inl (own_w hw 98 rfl)) Via.refl rfl Fn63 (g := (mkF m 35 #[.val (.ref a1), .val (.ref a2), .val (.int zu)] [(.ref a1), (.ref a1)])) rfl rfl (hb hby d14_35)
  refine own_of (U' := (T66.setTop (mkF m 38 #[.val (.ref a1), .val (.ref a2), .val (.int zu)] [(.int n), (.ref a1)]))) (st66) ?_
  refine own_iloadN X66 hx hby d14_38 rfl ?_
  refine own_iadd X66 hx hby d14_39 ?_
  obtain ⟨T67, h67, X67, e67, W67, st67⟩ := putF X66 hx hZ hown (host := "") (Or.inl (own_w hw 98 rfl)) Via.refl e66 Fn63 Es63 (Or.inl (own_w hw 99 rfl)) (own_w hw 61 rfl) (ty := .int) (by decide) rfl rfl (g := (mkF m 40 #[.val (.ref a1), .val (.ref a2), .val (.int zu)] [(.int (n + zu)), (.ref a1)])) rfl rfl (hb hby d14_40)
  replace Z0 := Nat.le_trans Z0 (Keep.of_wr W67).1
  replace E2 := E2.wr W67
  replace Gc := Gc.other W67 (Or.inl (Ne.symm n12))
  replace Gv := Gv.other W67 (Or.inl (Ne.symm n12))
  replace Vu := Vu.other W67 (Ne.symm n1u)
  replace SC := SC.wr W67
  replace KK := KK.wr W67 (Or.inl (List.mem_of_getElem? (i := 0) rfl))
  replace Es63 := Es63.wr W67
  replace Fv63 := Fv63.other W67 (Or.inr (slot_ne (Or.inl (own_w hw 75 rfl)) (Or.inl (own_w hw 99 rfl)) (by decide) (t := (.array .byte)) (t' := .int) (by decide) (by decide)))
  replace Fc63 := Fc63.other W67 (Or.inr (slot_ne (Or.inl (own_w hw 77 rfl)) (Or.inl (own_w hw 99 rfl)) (by decide) (t := .byte) (t' := .int) (by decide) (by decide)))
  replace Fn63 := Fn63.same W67
  replace Eb63 := Eb63.wr W67
  replace Vq65 := Vq65.other W67 (Ne.symm ne_a1_u63)
  have N67 := Fr.snoc X67 N65 g_a1
  refine own_of (U' := (T67.setTop (mkF m 43 #[.val (.ref a1), .val (.ref a2), .val (.int zu)] []))) (st67) ?_
  refine own_aloadN X67 hx hby d14_43 rfl rfl ?_
  exact own_retA X67 hx hlk Bd.returns rfl rfl (hb hby d14_44) (by decide) (by decide) (by rw [e67]; exact ⟨rfl, N67, KK, u63, ku63, zu63, ho63, ⟨Es63, Fv63, Fc63, Fn63, Eb63, Vq65, hz63, (by rw [own_addI (by omega) (by omega), List.length_append]; omega), (by rw [List.length_append]; have q := hp63; rw [own_addI (by omega) (by omega)] at q; omega)⟩⟩)
theorem own_i4 : (4 : Int32).toInt = 4 := by decide
theorem own_i1 : (1 : Int32).toInt = 1 := by decide
theorem own_n0 {n : Int32} {c : Nat} (h : n.toInt = c) (hc : c ≤ 1000) : n.toInt = (c : Int) + 0 := by omega
theorem own_n1 {n : Int32} {c : Nat} (h : n.toInt = c) (hc : c ≤ 1000) : (n + (1 : Int32)).toInt = (c : Int) + 1 := by rw [own_addI (by rw [own_i1]; omega) (by rw [own_i1]; omega), own_i1, h]
theorem own_n2 {n : Int32} {c : Nat} (h : n.toInt = c) (hc : c ≤ 1000) : ((n + (1 : Int32)) + (1 : Int32)).toInt = (c : Int) + 2 := by have e := own_n1 h hc; rw [own_addI (by rw [own_i1]; omega) (by rw [own_i1]; omega), own_i1, e]; omega
theorem own_n3 {n : Int32} {c : Nat} (h : n.toInt = c) (hc : c ≤ 1000) : (((n + (1 : Int32)) + (1 : Int32)) + (1 : Int32)).toInt = (c : Int) + 3 := by have e := own_n2 h hc; rw [own_addI (by rw [own_i1]; omega) (by rw [own_i1]; omega), own_i1, e]; omega
theorem own_n4 {n : Int32} {c : Nat} (h : n.toInt = c) (hc : c ≤ 1000) : ((((n + (1 : Int32)) + (1 : Int32)) + (1 : Int32)) + (1 : Int32)).toInt = (c : Int) + 4 := by have e := own_n3 h hc; rw [own_addI (by rw [own_i1]; omega) (by rw [own_i1]; omega), own_i1, e]; omega
theorem own_n4e (n : Int32) : n + (4 : Int32) = ((((n + (1 : Int32)) + (1 : Int32)) + (1 : Int32)) + (1 : Int32)) := by rw [Int32.add_assoc, Int32.add_assoc, Int32.add_assoc, show (1 : Int32) + (1 + (1 + 1)) = 4 by decide]
abbrev mN_17 : MethodName := ⟨"java/lang/AbstractStringBuilder", "appendNull", "()Ljava/lang/AbstractStringBuilder;"⟩
theorem pd_10 : parseMethodDescriptor "()Z" = some ⟨[], some .boolean⟩ := by decide +kernel
theorem d41_0 : decode jdk_68_method_26_code 0 = .ok (.aload_n 0, 1) := by decide +kernel
theorem d41_1 : decode jdk_68_method_26_code 1 = .ok (.aload_n 0, 1) := by decide +kernel
theorem d41_2 : decode jdk_68_method_26_code 2 = .ok (.getfield 79, 3) := by decide +kernel
theorem d41_5 : decode jdk_68_method_26_code 5 = .ok (.iconst 4, 1) := by decide +kernel
theorem d41_6 : decode jdk_68_method_26_code 6 = .ok (.iadd, 1) := by decide +kernel
theorem d41_7 : decode jdk_68_method_26_code 7 = .ok (.invokevirtual 100, 3) := by decide +kernel
theorem d41_10 : decode jdk_68_method_26_code 10 = .ok (.aload_n 0, 1) := by decide +kernel
theorem d41_11 : decode jdk_68_method_26_code 11 = .ok (.getfield 79, 3) := by decide +kernel
theorem d41_14 : decode jdk_68_method_26_code 14 = .ok (.istore_n 1, 1) := by decide +kernel
theorem d41_15 : decode jdk_68_method_26_code 15 = .ok (.aload_n 0, 1) := by decide +kernel
theorem d41_16 : decode jdk_68_method_26_code 16 = .ok (.getfield 15, 3) := by decide +kernel
theorem d41_19 : decode jdk_68_method_26_code 19 = .ok (.astore_n 2, 1) := by decide +kernel
theorem d41_20 : decode jdk_68_method_26_code 20 = .ok (.aload_n 0, 1) := by decide +kernel
theorem d41_21 : decode jdk_68_method_26_code 21 = .ok (.invokevirtual 83, 3) := by decide +kernel
theorem d41_24 : decode jdk_68_method_26_code 24 = .ok (.ifCond .eq 38, 3) := by decide +kernel
theorem d41_27 : decode jdk_68_method_26_code 27 = .ok (.aload_n 2, 1) := by decide +kernel
theorem d41_28 : decode jdk_68_method_26_code 28 = .ok (.iload_n 1, 1) := by decide +kernel
theorem d41_29 : decode jdk_68_method_26_code 29 = .ok (.iinc 1 1, 3) := by decide +kernel
theorem d41_32 : decode jdk_68_method_26_code 32 = .ok (.bipush 110, 2) := by decide +kernel
theorem d41_34 : decode jdk_68_method_26_code 34 = .ok (.bastore, 1) := by decide +kernel
theorem d41_35 : decode jdk_68_method_26_code 35 = .ok (.aload_n 2, 1) := by decide +kernel
theorem d41_36 : decode jdk_68_method_26_code 36 = .ok (.iload_n 1, 1) := by decide +kernel
theorem d41_37 : decode jdk_68_method_26_code 37 = .ok (.iinc 1 1, 3) := by decide +kernel
theorem d41_40 : decode jdk_68_method_26_code 40 = .ok (.bipush 117, 2) := by decide +kernel
theorem d41_42 : decode jdk_68_method_26_code 42 = .ok (.bastore, 1) := by decide +kernel
theorem d41_43 : decode jdk_68_method_26_code 43 = .ok (.aload_n 2, 1) := by decide +kernel
theorem d41_44 : decode jdk_68_method_26_code 44 = .ok (.iload_n 1, 1) := by decide +kernel
theorem d41_45 : decode jdk_68_method_26_code 45 = .ok (.iinc 1 1, 3) := by decide +kernel
theorem d41_48 : decode jdk_68_method_26_code 48 = .ok (.bipush 108, 2) := by decide +kernel
theorem d41_50 : decode jdk_68_method_26_code 50 = .ok (.bastore, 1) := by decide +kernel
theorem d41_51 : decode jdk_68_method_26_code 51 = .ok (.aload_n 2, 1) := by decide +kernel
theorem d41_52 : decode jdk_68_method_26_code 52 = .ok (.iload_n 1, 1) := by decide +kernel
theorem d41_53 : decode jdk_68_method_26_code 53 = .ok (.iinc 1 1, 3) := by decide +kernel
theorem d41_56 : decode jdk_68_method_26_code 56 = .ok (.bipush 108, 2) := by decide +kernel
theorem d41_58 : decode jdk_68_method_26_code 58 = .ok (.bastore, 1) := by decide +kernel
theorem d41_59 : decode jdk_68_method_26_code 59 = .ok (.goto 17, 3) := by decide +kernel
theorem d41_76 : decode jdk_68_method_26_code 76 = .ok (.aload_n 0, 1) := by decide +kernel
theorem d41_77 : decode jdk_68_method_26_code 77 = .ok (.iload_n 1, 1) := by decide +kernel
theorem d41_78 : decode jdk_68_method_26_code 78 = .ok (.putfield 79, 3) := by decide +kernel
theorem d41_81 : decode jdk_68_method_26_code 81 = .ok (.aload_n 0, 1) := by decide +kernel
theorem d41_82 : decode jdk_68_method_26_code 82 = .ok (.areturn, 1) := by decide +kernel
theorem ef_an (m : MethodId) (x0 : Addr) : entryFrame m #[(.ref x0)] 3 = mkF m 0 #[.val (.ref x0), .unset, .unset] [] := by first | (simp [entryFrame, mkF, argsToLocals, Value.category]; done) | rfl
set_option maxRecDepth 65536 in
set_option maxHeartbeats 40000000 in
theorem rman (l : Launch) (Z : State) (a0 : Array Value) (hw : ∀ d ∈ tables_1, d.before a0 Z = true) (ws : List Jvm.Cond) (a1 b : Addr) (kb : ClassId) (z n : Int32) (cs : List Int32) (g1 : Int32) (h0 : Heap) (n0 : Nat) (Z0 : n0 ≤ h0.size) (B1 : own_SB Z h0 a1 b kb z n cs) (hmax : cs.length + 4 ≤ 34) (g_a1 : n0 ≤ a1) (g_b : n0 ≤ b) (neab : a1 ≠ b) (SC : Sta Z h0 "java/lang/String" "COMPACT_STRINGS" "Z" (.int g1)) (hg1 : ¬ (g1 = (0 : Int32))) :
    MetFree l mN_17 (head1 (Jvm.Cond.code mN_17 jdk_68_method_26_code 3 (some (.object "java/lang/AbstractStringBuilder")) :: ws) ({ frames := 4, cells := 1, slots := 34, locals := 62 } : Room)) (fun a U => a = #[(.ref a1)] ∧ Z.Warmed39 U.vm ∧ U.heap = h0) (fun _ _ _ _ _ => True) (fun _ U o U' => ∃ v L, o = .returned v ∧ (Qap Z a1 b (n + (4 : Int32)) (cs ++ [(110 : Int32), (117 : Int32), (108 : Int32), (108 : Int32)]) h0 n0) v U'.heap L ∧ FrameEnd U o U' L ({ frames := 4, cells := 1, slots := 34, locals := 62 } : Room).cells ({ frames := 4, cells := 1, slots := 34, locals := 62 } : Room).slots) := by
  refine MetFree.of_bodySF (plainFor_of_name pn_1) hisR ?_
  intro p e s m args below meth c s₁ Bd hml0 hP hK
  obtain ⟨rfl, hZ, hh⟩ := hP
  have hx := Bd.exec
  have hby := Bd.bytes
  have hml : c.maxLocals = 3 := hml0
  have hown : s.vm.findClass "java/lang/AbstractStringBuilder" = some m.cls := findClass_of_methodNamed Bd.named
  have hnm := (name_of_methodNamed Bd.named Bd.method).1
  have hlk := Bd.notSynchronized
  have X0 : Stand p l e ({ frames := 4, cells := 1, slots := 34, locals := 62 } : Room) s m #[(.ref a1)] below meth c s₁ [] 0 0 := Stand.of_body Bd
  have e0 : s₁.heap = h0 := by rw [← hh, Bd.state]; rfl
  have N0 := Fr.nil n0
  have KK := Keep.refl h0 [a1, b]
  show own_Ends p e below s FrameEnd (Qap Z a1 b (n + (4 : Int32)) (cs ++ [(110 : Int32), (117 : Int32), (108 : Int32), (108 : Int32)]) h0 n0) 1 34 (s₁.setTop (entryFrame m #[(.ref a1)] 3))
  refine own_of (U' := (s₁.setTop (mkF m 0 #[.val (.ref a1), .unset, .unset] []))) (fun _ k => castTop (ef_an m a1) k) ?_
  obtain ⟨E1, Fv, Fc, Fn, Eb, Vb, hz, hn, hle⟩ := B1
  have hng := rng32 n
  have hn4 := hn
  refine own_aloadN X0 hx hby d41_0 rfl rfl ?_
  refine own_aloadN X0 hx hby d41_1 rfl rfl ?_
  obtain ⟨T68, X68, e68, st68⟩ := getF X0 hx hZ hown (host := "") (Or.inl (own_w hw 98 rfl)) Via.refl e0 Fn (g := (mkF m 2 #[.val (.ref a1), .unset, .unset] [(.ref a1), (.ref a1)])) rfl rfl (hb hby d41_2)
  refine own_of (U' := (T68.setTop (mkF m 5 #[.val (.ref a1), .unset, .unset] [(.int n), (.ref a1)]))) (st68) ?_
  refine own_iconst X68 hx hby 4 d41_5 rfl ?_
  refine own_iadd X68 hx hby d41_6 ?_
  obtain ⟨cq69, q69, q69'⟩ := E1.cell
  obtain ⟨_, _, ⟨T69, L69, k69, n69⟩, -, X69, ⟨Lc69, hQ69, l69, y69, z69⟩, st69⟩ := X68.privateBack hx (y := mN_6) hown (mvT hZ (own_w hw 100 rfl)) (mvT hZ (own_w hw 101 rfl)) (mvT hZ (own_selQ (y := mN_6) (own_w hw 103 rfl) (own_w hw 102 rfl) (own_w hw 101 rfl) (by decide))) (Cond.privateMethod_at (mvP hZ (own_w hw 102 rfl) (args := #[]))) (mvT hZ (own_w hw 104 rfl)) (by decide) (backOf (W := 0) (rmec l Z a0 hw [] a1 (n + (4 : Int32)) b kb z n cs h0 n0 Z0 ⟨E1, Fv, Fc, Fn, Eb, Vb, hz, hn, hle⟩ (by rw [own_addI (by rw [own_i4]; omega) (by rw [own_i4]; omega), own_i4]; omega) (by rw [own_addI (by rw [own_i4]; omega) (by rw [own_i4]; omega), own_i4]; omega) g_a1 neab) hZ (own_w hw 104 rfl) (own_w hw 70 rfl) (by decide) (by decide)) (g := (mkF m 7 #[.val (.ref a1), .unset, .unset] [(.int (n + (4 : Int32))), (.ref a1)])) rfl (by rw [hml]; rfl) (Steps.refl _) (a := a1) (by rw [e68]; exact q69) q69' (argsL := [(.int (n + (4 : Int32)))]) (rest := []) (lenOf pd_8 rfl) rfl (by show 2 * 0 + _ ≤ _; exact Nat.le_of_eq rfl) (hb hby d41_7) (fun _ _ => ⟨rfl, e68, (by decide : 0 + 1 ≤ _), (by decide : 0 + 34 ≤ _)⟩)
  dsimp only [Pt.U, Pt.locs, Pt.cells, Pt.slots] at X69 l69 y69 z69 st69 hQ69
  rw [l69, y69, z69] at X69
  obtain ⟨rfl, Nq69, Kp69, u69, ku69, zu69, ho69, Bq69, hp69⟩ := hQ69
  have ne_a1_u69 : a1 ≠ u69 := own_neor ho69 neab E1.lt
  have g_u69 : n0 ≤ u69 := ho69.elim (fun q => by rw [← q]; exact g_b) (fun q => Nat.le_trans Z0 q)
  have mk_u69 : u69 ∈ ([a1, b] : List Addr) ∨ h0.size ≤ u69 := ho69.elim (fun q => by rw [← q]; exact (Or.inl (List.mem_of_getElem? (i := 1) rfl))) (fun q => Or.inr (Nat.le_trans KK.1 q))
  have N69 := Fr.app N0 Nq69
  have nst_a1 := E1.nostat
  replace Z0 := Nat.le_trans Z0 Kp69.1
  replace E1 := E1.keep Kp69
  replace Eb := Eb.keep Kp69
  replace Vb := Vb.keep Kp69 (ninS (Ne.symm neab) nin0)
  replace SC := own_staKeep SC Kp69 (nsS nst_a1 ns0)
  replace KK := KK.trans Kp69 (allS (Or.inl (List.mem_of_getElem? (i := 0) rfl)) all0)
  obtain ⟨Es69, Fv69, Fc69, Fn69, Eb69, Vb69, hz69, hn69, hle69⟩ := Bq69
  refine own_of (U' := (T69.setTop (mkF m 10 #[.val (.ref a1), .unset, .unset] []))) (fun _ k => st69.trans k) ?_
  refine own_aloadN X69 hx hby d41_10 rfl rfl ?_
  obtain ⟨T70, X70, e70, st70⟩ := getF X69 hx hZ hown (host := "") (Or.inl (own_w hw 98 rfl)) Via.refl rfl Fn69 (g := (mkF m 11 #[.val (.ref a1), .unset, .unset] [(.ref a1)])) rfl rfl (hb hby d41_11)
  refine own_of (U' := (T70.setTop (mkF m 14 #[.val (.ref a1), .unset, .unset] [(.int n)]))) (st70) ?_
  refine own_istoreN X70 hx hby d41_14 (l' := #[.val (.ref a1), .val (.int n), .unset]) rfl ?_
  refine own_aloadN X70 hx hby d41_15 rfl rfl ?_
  obtain ⟨T71, X71, e71, st71⟩ := getF X70 hx hZ hown (host := "") (Or.inl (own_w hw 74 rfl)) Via.refl e70 Fv69 (g := (mkF m 16 #[.val (.ref a1), .val (.int n), .unset] [(.ref a1)])) rfl rfl (hb hby d41_16)
  refine own_of (U' := (T71.setTop (mkF m 19 #[.val (.ref a1), .val (.int n), .unset] [(.ref u69)]))) (st71) ?_
  replace Vb69 := Arv.pad Vb69 (own_padk cs 4)
  replace Vb69 : Arv Z T69.heap u69 ku69 .byte zu69 (List.map Value.int (cs ++ [(0 : Int32), (0 : Int32), (0 : Int32), (0 : Int32)])) (.int (0 : Int32)) := Vb69
  have hp4 := hp69; rw [own_addI (by rw [own_i4]; omega) (by rw [own_i4]; omega)] at hp4
  refine own_astoreN X71 hx hby d41_19 rfl (l' := #[.val (.ref a1), .val (.int n), .val (.ref u69)]) rfl ?_
  refine own_aloadN X71 hx hby d41_20 rfl rfl ?_
  obtain ⟨cq72, kq72, q72a, q72b, q72c⟩ := isOf hZ e71 Es69
  obtain ⟨_, _, ⟨T72, L72, k72, n72⟩, -, X72, ⟨Lc72, hQ72, l72, y72, z72⟩, st72⟩ := X71.virtualBack hx (y := mN_2) (z := mN_2) hown (mvT hZ (own_w hw 139 rfl)) (mvT hZ (own_w hw 140 rfl)) (notFace_of_selects (args := #[]) (mvT hZ (own_w hw 142 rfl))) (mvT hZ (own_w hw 142 rfl)) (mvT hZ (own_w hw 141 rfl)) (by decide) (backOf (W := 0) (rmab l Z a0 hw [] a1 g1 T69.heap n0 Z0 Fc69 SC hg1) hZ (own_w hw 143 rfl) (own_w hw 70 rfl) (by decide) (by decide)) q72a q72c (g := (mkF m 21 #[.val (.ref a1), .val (.int n), .val (.ref u69)] [(.ref a1)])) rfl (by rw [hml]; rfl) (Steps.refl _) (argsL := []) (rest := []) (lenOf pd_10 rfl) rfl (by show 2 * 0 + _ ≤ _; exact Nat.le_of_eq rfl) (hb hby d41_21) (fun _ _ => ⟨rfl, e71, (by decide : 1 + 0 ≤ _), (by decide : 34 + 0 ≤ _)⟩)
  dsimp only [Pt.U, Pt.locs, Pt.cells, Pt.slots] at X72 l72 y72 z72 st72 hQ72
  rw [l72, y72, z72] at X72
  obtain ⟨rfl, Nq72, e72⟩ := hQ72
  have N72 := Fr.app N69 Nq72
  refine own_of (U' := (T72.setTop (mkF m 24 #[.val (.ref a1), .val (.int n), .val (.ref u69)] [(.int (1 : Int32))]))) (fun _ k => st72.trans k) ?_
  have hc24_73 : ¬ ((1 : Int32) = (0 : Int32)) := by decide
  refine own_ifNo X72 hx hby d41_24 ((if0 _ _).trans (feq hc24_73).1) ?_
  refine own_aloadN X72 hx hby d41_27 rfl rfl ?_
  refine own_iloadN X72 hx hby d41_28 rfl ?_
  refine own_iinc X72 hx hby d41_29 rfl (l' := #[.val (.ref a1), .val (.int (n + (1 : Int32))), .val (.ref u69)]) rfl ?_
  refine own_bipush X72 hx hby 110 d41_32 rfl ?_
  obtain ⟨cl74, Ar74, qa74, Sa74, Na74, Ha74, Ga74⟩ := Vb69
  have hin74 : ¬ (n < 0 ∨ cl74.slots.size ≤ (n).toNatClampNeg) := inb_of Sa74 ⟨own_ge0 (by rw [own_n0 hn4 (by omega)]; omega), by rw [own_ltI, own_n0 hn4 (by omega)]; rw [own_i4] at hp4; omega⟩
  obtain ⟨T74, h74, X74, e74, W74, st74⟩ := stB X72 hx hZ e72 Ar74 (j := n) hin74 (g := (mkF m 34 #[.val (.ref a1), .val (.int (n + (1 : Int32))), .val (.ref u69)] [(.int (110 : Int32)), (.int n), (.ref u69)])) rfl rfl (hb hby d41_34)
  replace Vb69 : Arv Z h74 u69 ku69 .byte zu69 (List.map Value.int (cs ++ [(110 : Int32), (0 : Int32), (0 : Int32), (0 : Int32)])) (.int (0 : Int32)) := by have q := Arv.set Ar74 qa74 Sa74 Na74 Ha74 Ga74 (fits_nar_byte _) W74 (cs.length + 0) (own_clamp (by rw [own_n0 hn4 (by omega)]; omega)) (by rw [List.length_map, List.length_append]; exact Nat.add_lt_add_left (by decide) _); rw [own_nb (110 : Int32) (by decide), ← List.map_set, List.set_append_right _ _ (Nat.le_add_right _ _), Nat.add_sub_cancel_left] at q; exact q
  replace Z0 := Nat.le_trans Z0 (Keep.of_wr W74).1
  replace SC := SC.wr W74
  replace KK := KK.wr W74 mk_u69
  replace Es69 := Es69.wr W74
  replace Fv69 := Fv69.other W74 (Or.inl ne_a1_u69)
  replace Fc69 := Fc69.other W74 (Or.inl ne_a1_u69)
  replace Fn69 := Fn69.other W74 (Or.inl ne_a1_u69)
  replace Eb69 := Eb69.wr W74
  have N74 := Fr.snoc X74 N72 g_u69
  refine own_of (U' := (T74.setTop (mkF m 35 #[.val (.ref a1), .val (.int (n + (1 : Int32))), .val (.ref u69)] []))) (st74) ?_
  refine own_aloadN X74 hx hby d41_35 rfl rfl ?_
  refine own_iloadN X74 hx hby d41_36 rfl ?_
  refine own_iinc X74 hx hby d41_37 rfl (l' := #[.val (.ref a1), .val (.int ((n + (1 : Int32)) + (1 : Int32))), .val (.ref u69)]) rfl ?_
  refine own_bipush X74 hx hby 117 d41_40 rfl ?_
  obtain ⟨cl75, Ar75, qa75, Sa75, Na75, Ha75, Ga75⟩ := Vb69
  have hin75 : ¬ ((n + (1 : Int32)) < 0 ∨ cl75.slots.size ≤ ((n + (1 : Int32))).toNatClampNeg) := inb_of Sa75 ⟨own_ge0 (by rw [own_n1 hn4 (by omega)]; omega), by rw [own_ltI, own_n1 hn4 (by omega)]; rw [own_i4] at hp4; omega⟩
  obtain ⟨T75, h75, X75, e75, W75, st75⟩ := stB X74 hx hZ e74 Ar75 (j := (n + (1 : Int32))) hin75 (g := (mkF m 42 #[.val (.ref a1), .val (.int ((n + (1 : Int32)) + (1 : Int32))), .val (.ref u69)] [(.int (117 : Int32)), (.int (n + (1 : Int32))), (.ref u69)])) rfl rfl (hb hby d41_42)
  replace Vb69 : Arv Z h75 u69 ku69 .byte zu69 (List.map Value.int (cs ++ [(110 : Int32), (117 : Int32), (0 : Int32), (0 : Int32)])) (.int (0 : Int32)) := by have q := Arv.set Ar75 qa75 Sa75 Na75 Ha75 Ga75 (fits_nar_byte _) W75 (cs.length + 1) (own_clamp (by rw [own_n1 hn4 (by omega)]; omega)) (by rw [List.length_map, List.length_append]; exact Nat.add_lt_add_left (by decide) _); rw [own_nb (117 : Int32) (by decide), ← List.map_set, List.set_append_right _ _ (Nat.le_add_right _ _), Nat.add_sub_cancel_left] at q; exact q
  replace Z0 := Nat.le_trans Z0 (Keep.of_wr W75).1
  replace SC := SC.wr W75
  replace KK := KK.wr W75 mk_u69
  replace Es69 := Es69.wr W75
  replace Fv69 := Fv69.other W75 (Or.inl ne_a1_u69)
  replace Fc69 := Fc69.other W75 (Or.inl ne_a1_u69)
  replace Fn69 := Fn69.other W75 (Or.inl ne_a1_u69)
  replace Eb69 := Eb69.wr W75
  have N75 := Fr.snoc X75 N74 g_u69
  refine own_of (U' := (T75.setTop (mkF m 43 #[.val (.ref a1), .val (.int ((n + (1 : Int32)) + (1 : Int32))), .val (.ref u69)] []))) (st75) ?_
  refine own_aloadN X75 hx hby d41_43 rfl rfl ?_
  refine own_iloadN X75 hx hby d41_44 rfl ?_
  refine own_iinc X75 hx hby d41_45 rfl (l' := #[.val (.ref a1), .val (.int (((n + (1 : Int32)) + (1 : Int32)) + (1 : Int32))), .val (.ref u69)]) rfl ?_
  refine own_bipush X75 hx hby 108 d41_48 rfl ?_
  obtain ⟨cl76, Ar76, qa76, Sa76, Na76, Ha76, Ga76⟩ := Vb69
  have hin76 : ¬ (((n + (1 : Int32)) + (1 : Int32)) < 0 ∨ cl76.slots.size ≤ (((n + (1 : Int32)) + (1 : Int32))).toNatClampNeg) := inb_of Sa76 ⟨own_ge0 (by rw [own_n2 hn4 (by omega)]; omega), by rw [own_ltI, own_n2 hn4 (by omega)]; rw [own_i4] at hp4; omega⟩
  obtain ⟨T76, h76, X76, e76, W76, st76⟩ := stB X75 hx hZ e75 Ar76 (j := ((n + (1 : Int32)) + (1 : Int32))) hin76 (g := (mkF m 50 #[.val (.ref a1), .val (.int (((n + (1 : Int32)) + (1 : Int32)) + (1 : Int32))), .val (.ref u69)] [(.int (108 : Int32)), (.int ((n + (1 : Int32)) + (1 : Int32))), (.ref u69)])) rfl rfl (hb hby d41_50)
  replace Vb69 : Arv Z h76 u69 ku69 .byte zu69 (List.map Value.int (cs ++ [(110 : Int32), (117 : Int32), (108 : Int32), (0 : Int32)])) (.int (0 : Int32)) := by have q := Arv.set Ar76 qa76 Sa76 Na76 Ha76 Ga76 (fits_nar_byte _) W76 (cs.length + 2) (own_clamp (by rw [own_n2 hn4 (by omega)]; omega)) (by rw [List.length_map, List.length_append]; exact Nat.add_lt_add_left (by decide) _); rw [own_nb (108 : Int32) (by decide), ← List.map_set, List.set_append_right _ _ (Nat.le_add_right _ _), Nat.add_sub_cancel_left] at q; exact q
  replace Z0 := Nat.le_trans Z0 (Keep.of_wr W76).1
  replace SC := SC.wr W76
  replace KK := KK.wr W76 mk_u69
  replace Es69 := Es69.wr W76
  replace Fv69 := Fv69.other W76 (Or.inl ne_a1_u69)
  replace Fc69 := Fc69.other W76 (Or.inl ne_a1_u69)
  replace Fn69 := Fn69.other W76 (Or.inl ne_a1_u69)
  replace Eb69 := Eb69.wr W76
  have N76 := Fr.snoc X76 N75 g_u69
  refine own_of (U' := (T76.setTop (mkF m 51 #[.val (.ref a1), .val (.int (((n + (1 : Int32)) + (1 : Int32)) + (1 : Int32))), .val (.ref u69)] []))) (st76) ?_
  refine own_aloadN X76 hx hby d41_51 rfl rfl ?_
  refine own_iloadN X76 hx hby d41_52 rfl ?_
  refine own_iinc X76 hx hby d41_53 rfl (l' := #[.val (.ref a1), .val (.int ((((n + (1 : Int32)) + (1 : Int32)) + (1 : Int32)) + (1 : Int32))), .val (.ref u69)]) rfl ?_
  refine own_bipush X76 hx hby 108 d41_56 rfl ?_
  obtain ⟨cl77, Ar77, qa77, Sa77, Na77, Ha77, Ga77⟩ := Vb69
  have hin77 : ¬ ((((n + (1 : Int32)) + (1 : Int32)) + (1 : Int32)) < 0 ∨ cl77.slots.size ≤ ((((n + (1 : Int32)) + (1 : Int32)) + (1 : Int32))).toNatClampNeg) := inb_of Sa77 ⟨own_ge0 (by rw [own_n3 hn4 (by omega)]; omega), by rw [own_ltI, own_n3 hn4 (by omega)]; rw [own_i4] at hp4; omega⟩
  obtain ⟨T77, h77, X77, e77, W77, st77⟩ := stB X76 hx hZ e76 Ar77 (j := (((n + (1 : Int32)) + (1 : Int32)) + (1 : Int32))) hin77 (g := (mkF m 58 #[.val (.ref a1), .val (.int ((((n + (1 : Int32)) + (1 : Int32)) + (1 : Int32)) + (1 : Int32))), .val (.ref u69)] [(.int (108 : Int32)), (.int (((n + (1 : Int32)) + (1 : Int32)) + (1 : Int32))), (.ref u69)])) rfl rfl (hb hby d41_58)
  replace Vb69 : Arv Z h77 u69 ku69 .byte zu69 (List.map Value.int (cs ++ [(110 : Int32), (117 : Int32), (108 : Int32), (108 : Int32)])) (.int (0 : Int32)) := by have q := Arv.set Ar77 qa77 Sa77 Na77 Ha77 Ga77 (fits_nar_byte _) W77 (cs.length + 3) (own_clamp (by rw [own_n3 hn4 (by omega)]; omega)) (by rw [List.length_map, List.length_append]; exact Nat.add_lt_add_left (by decide) _); rw [own_nb (108 : Int32) (by decide), ← List.map_set, List.set_append_right _ _ (Nat.le_add_right _ _), Nat.add_sub_cancel_left] at q; exact q
  replace Z0 := Nat.le_trans Z0 (Keep.of_wr W77).1
  replace SC := SC.wr W77
  replace KK := KK.wr W77 mk_u69
  replace Es69 := Es69.wr W77
  replace Fv69 := Fv69.other W77 (Or.inl ne_a1_u69)
  replace Fc69 := Fc69.other W77 (Or.inl ne_a1_u69)
  replace Fn69 := Fn69.other W77 (Or.inl ne_a1_u69)
  replace Eb69 := Eb69.wr W77
  have N77 := Fr.snoc X77 N76 g_u69
  refine own_of (U' := (T77.setTop (mkF m 59 #[.val (.ref a1), .val (.int ((((n + (1 : Int32)) + (1 : Int32)) + (1 : Int32)) + (1 : Int32))), .val (.ref u69)] []))) (st77) ?_
  refine own_goto X77 hx hby 59 76 d41_59 (by decide) (by decide) ?_
  refine own_aloadN X77 hx hby d41_76 rfl rfl ?_
  refine own_iloadN X77 hx hby d41_77 rfl ?_
  obtain ⟨T78, h78, X78, e78, W78, st78⟩ := putF X77 hx hZ hown (host := "") (Or.inl (own_w hw 98 rfl)) Via.refl e77 Fn69 Es69 (Or.inl (own_w hw 99 rfl)) (own_w hw 61 rfl) (ty := .int) (by decide) rfl rfl (g := (mkF m 78 #[.val (.ref a1), .val (.int ((((n + (1 : Int32)) + (1 : Int32)) + (1 : Int32)) + (1 : Int32))), .val (.ref u69)] [(.int ((((n + (1 : Int32)) + (1 : Int32)) + (1 : Int32)) + (1 : Int32))), (.ref a1)])) rfl rfl (hb hby d41_78)
  replace Z0 := Nat.le_trans Z0 (Keep.of_wr W78).1
  replace SC := SC.wr W78
  replace KK := KK.wr W78 (Or.inl (List.mem_of_getElem? (i := 0) rfl))
  replace Es69 := Es69.wr W78
  replace Fv69 := Fv69.other W78 (Or.inr (slot_ne (Or.inl (own_w hw 75 rfl)) (Or.inl (own_w hw 99 rfl)) (by decide) (t := (.array .byte)) (t' := .int) (by decide) (by decide)))
  replace Fc69 := Fc69.other W78 (Or.inr (slot_ne (Or.inl (own_w hw 77 rfl)) (Or.inl (own_w hw 99 rfl)) (by decide) (t := .byte) (t' := .int) (by decide) (by decide)))
  replace Fn69 := Fn69.same W78
  replace Eb69 := Eb69.wr W78
  replace Vb69 := Vb69.other W78 (Ne.symm ne_a1_u69)
  have N78 := Fr.snoc X78 N77 g_a1
  refine own_of (U' := (T78.setTop (mkF m 81 #[.val (.ref a1), .val (.int ((((n + (1 : Int32)) + (1 : Int32)) + (1 : Int32)) + (1 : Int32))), .val (.ref u69)] []))) (st78) ?_
  refine own_aloadN X78 hx hby d41_81 rfl rfl ?_
  exact own_retA X78 hx hlk Bd.returns rfl rfl (hb hby d41_82) (by decide) (by decide) (by rw [e78]; exact ⟨rfl, N78, KK, u69, ku69, zu69, ho69, (by rw [own_n4e n]; exact ⟨Es69, Fv69, Fc69, Fn69, Eb69, Vb69, hz69, (by rw [own_n4 hn4 (by omega), List.length_append]; exact (by show (cs.length : Int) + 4 = ((cs.length + 4 : Nat) : Int); omega)), (by rw [List.length_append]; rw [own_i4] at hp4; exact (by show ((cs.length + 4 : Nat) : Int) ≤ _; omega))⟩)⟩)
theorem pd_11 : parseMethodDescriptor "()Ljava/lang/AbstractStringBuilder;" = some ⟨[], some (.object "java/lang/AbstractStringBuilder")⟩ := by decide +kernel
theorem d14_4 : decode jdk_68_method_22_code 4 = .ok (.aload_n 0, 1) := by decide +kernel
theorem d14_5 : decode jdk_68_method_22_code 5 = .ok (.invokevirtual 204, 3) := by decide +kernel
theorem d14_8 : decode jdk_68_method_22_code 8 = .ok (.areturn, 1) := by decide +kernel
theorem ef_nu (m : MethodId) (x0 : Addr) : entryFrame m #[(.ref x0), .null] 3 = mkF m 0 #[.val (.ref x0), .val .null, .unset] [] := by first | (simp [entryFrame, mkF, argsToLocals, Value.category]; done) | rfl
set_option maxRecDepth 65536 in
set_option maxHeartbeats 40000000 in
theorem rmnu (l : Launch) (Z : State) (a0 : Array Value) (hw : ∀ d ∈ tables_1, d.before a0 Z = true) (ws : List Jvm.Cond) (a1 b : Addr) (kb : ClassId) (z n : Int32) (cs : List Int32) (g1 : Int32) (h0 : Heap) (n0 : Nat) (Z0 : n0 ≤ h0.size) (B1 : own_SB Z h0 a1 b kb z n cs) (hmax : cs.length + 4 ≤ 34) (g_a1 : n0 ≤ a1) (g_b : n0 ≤ b) (neab : a1 ≠ b) (SC : Sta Z h0 "java/lang/String" "COMPACT_STRINGS" "Z" (.int g1)) (hg1 : ¬ (g1 = (0 : Int32))) :
    MetFree l mN_16 (head1 (Jvm.Cond.code mN_16 jdk_68_method_22_code 3 (some (.object "java/lang/AbstractStringBuilder")) :: ws) ({ frames := 5, cells := 1, slots := 34, locals := 76 } : Room)) (fun a U => a = #[(.ref a1), .null] ∧ Z.Warmed39 U.vm ∧ U.heap = h0) (fun _ _ _ _ _ => True) (fun _ U o U' => ∃ v L, o = .returned v ∧ (Qap Z a1 b (n + (4 : Int32)) (cs ++ [(110 : Int32), (117 : Int32), (108 : Int32), (108 : Int32)]) h0 n0) v U'.heap L ∧ FrameEnd U o U' L ({ frames := 5, cells := 1, slots := 34, locals := 76 } : Room).cells ({ frames := 5, cells := 1, slots := 34, locals := 76 } : Room).slots) := by
  refine MetFree.of_bodySF (plainFor_of_name pn_1) hisR ?_
  intro p e s m args below meth c s₁ Bd hml0 hP hK
  obtain ⟨rfl, hZ, hh⟩ := hP
  have hx := Bd.exec
  have hby := Bd.bytes
  have hml : c.maxLocals = 3 := hml0
  have hown : s.vm.findClass "java/lang/AbstractStringBuilder" = some m.cls := findClass_of_methodNamed Bd.named
  have hnm := (name_of_methodNamed Bd.named Bd.method).1
  have hlk := Bd.notSynchronized
  have X0 : Stand p l e ({ frames := 5, cells := 1, slots := 34, locals := 76 } : Room) s m #[(.ref a1), .null] below meth c s₁ [] 0 0 := Stand.of_body Bd
  have e0 : s₁.heap = h0 := by rw [← hh, Bd.state]; rfl
  have N0 := Fr.nil n0
  have KK := Keep.refl h0 [a1, b]
  show own_Ends p e below s FrameEnd (Qap Z a1 b (n + (4 : Int32)) (cs ++ [(110 : Int32), (117 : Int32), (108 : Int32), (108 : Int32)]) h0 n0) 1 34 (s₁.setTop (entryFrame m #[(.ref a1), .null] 3))
  refine own_of (U' := (s₁.setTop (mkF m 0 #[.val (.ref a1), .val .null, .unset] []))) (fun _ k => castTop (ef_nu m a1) k) ?_
  obtain ⟨E1, Fv, Fc, Fn, Eb, Vb, hz, hn, hle⟩ := B1
  refine own_aloadN X0 hx hby d14_0 rfl rfl ?_
  refine own_ifnonnullNo X0 hx hby d14_1 ?_
  refine own_aloadN X0 hx hby d14_4 rfl rfl ?_
  obtain ⟨cq79, q79, q79'⟩ := E1.cell
  obtain ⟨_, _, ⟨T79, L79, k79, n79⟩, -, X79, ⟨Lc79, hQ79, l79, y79, z79⟩, st79⟩ := X0.privateBack hx (y := mN_17) hown (mvT hZ (own_w hw 219 rfl)) (mvT hZ (own_w hw 220 rfl)) (mvT hZ (own_selQ (y := mN_17) (own_w hw 222 rfl) (own_w hw 221 rfl) (own_w hw 220 rfl) (by decide))) (Cond.privateMethod_at (mvP hZ (own_w hw 221 rfl) (args := #[]))) (mvT hZ (own_w hw 223 rfl)) (by decide) (backOf (W := 0) (rman l Z a0 hw [] a1 b kb z n cs g1 h0 n0 Z0 ⟨E1, Fv, Fc, Fn, Eb, Vb, hz, hn, hle⟩ hmax g_a1 g_b neab SC hg1) hZ (own_w hw 223 rfl) (own_w hw 70 rfl) (by decide) (by decide)) (g := (mkF m 5 #[.val (.ref a1), .val .null, .unset] [(.ref a1)])) rfl (by rw [hml]; rfl) (Steps.refl _) (a := a1) (by rw [e0]; exact q79) q79' (argsL := []) (rest := []) (lenOf pd_11 rfl) rfl (by show 2 * 0 + _ ≤ _; exact Nat.le_of_eq rfl) (hb hby d14_5) (fun _ _ => ⟨rfl, e0, (by decide : 0 + 1 ≤ _), (by decide : 0 + 34 ≤ _)⟩)
  dsimp only [Pt.U, Pt.locs, Pt.cells, Pt.slots] at X79 l79 y79 z79 st79 hQ79
  rw [l79, y79, z79] at X79
  obtain ⟨rfl, Nq79, Kp79, u79, ku79, zu79, ho79, Bq79⟩ := hQ79
  have ne_a1_u79 : a1 ≠ u79 := own_neor ho79 neab E1.lt
  have g_u79 : n0 ≤ u79 := ho79.elim (fun q => by rw [← q]; exact g_b) (fun q => Nat.le_trans Z0 q)
  have mk_u79 : u79 ∈ ([a1, b] : List Addr) ∨ h0.size ≤ u79 := ho79.elim (fun q => by rw [← q]; exact (Or.inl (List.mem_of_getElem? (i := 1) rfl))) (fun q => Or.inr (Nat.le_trans KK.1 q))
  have N79 := Fr.app N0 Nq79
  have nst_a1 := E1.nostat
  have nst_b := Eb.nostat
  replace Z0 := Nat.le_trans Z0 Kp79.1
  replace E1 := E1.keep Kp79
  replace Eb := Eb.keep Kp79
  replace SC := own_staKeep SC Kp79 (nsS nst_a1 (nsS nst_b ns0))
  replace KK := KK.trans Kp79 (allS (Or.inl (List.mem_of_getElem? (i := 0) rfl)) (allS (Or.inl (List.mem_of_getElem? (i := 1) rfl)) all0))
  obtain ⟨Es79, Fv79, Fc79, Fn79, Eb79, Vb79, hz79, hn79, hle79⟩ := Bq79
  refine own_of (U' := (T79.setTop (mkF m 8 #[.val (.ref a1), .val .null, .unset] [(.ref a1)]))) (fun _ k => st79.trans k) ?_
  exact own_retA X79 hx hlk Bd.returns rfl rfl (hb hby d14_8) (by decide) (by decide) (⟨rfl, N79, KK, u79, ku79, zu79, ho79, ⟨Es79, Fv79, Fc79, Fn79, Eb79, Vb79, hz79, hn79, hle79⟩⟩)
abbrev mN_18 : MethodName := ⟨"java/lang/StringBuilder", "append", "(Ljava/lang/String;)Ljava/lang/StringBuilder;"⟩
theorem pd_12 : parseMethodDescriptor "(Ljava/lang/String;)Ljava/lang/AbstractStringBuilder;" = some ⟨[(.object "java/lang/String")], some (.object "java/lang/AbstractStringBuilder")⟩ := by decide +kernel
theorem d13_0 : decode jdk_67_method_7_code 0 = .ok (.aload_n 0, 1) := by decide +kernel
theorem d13_1 : decode jdk_67_method_7_code 1 = .ok (.aload_n 1, 1) := by decide +kernel
theorem d13_2 : decode jdk_67_method_7_code 2 = .ok (.invokespecial 29, 3) := by decide +kernel
theorem d13_5 : decode jdk_67_method_7_code 5 = .ok (.pop, 1) := by decide +kernel
theorem d13_6 : decode jdk_67_method_7_code 6 = .ok (.aload_n 0, 1) := by decide +kernel
theorem d13_7 : decode jdk_67_method_7_code 7 = .ok (.areturn, 1) := by decide +kernel
theorem ef_nv (m : MethodId) (x0 : Addr) : entryFrame m #[(.ref x0), .null] 2 = mkF m 0 #[.val (.ref x0), .val .null] [] := by first | (simp [entryFrame, mkF, argsToLocals, Value.category]; done) | rfl
set_option maxRecDepth 65536 in
set_option maxHeartbeats 40000000 in
theorem rmnv (l : Launch) (Z : State) (a0 : Array Value) (hw : ∀ d ∈ tables_1, d.before a0 Z = true) (ws : List Jvm.Cond) (a1 b : Addr) (kb : ClassId) (z n : Int32) (cs : List Int32) (g1 : Int32) (h0 : Heap) (n0 : Nat) (Z0 : n0 ≤ h0.size) (B1 : own_SB Z h0 a1 b kb z n cs) (hmax : cs.length + 4 ≤ 34) (g_a1 : n0 ≤ a1) (g_b : n0 ≤ b) (neab : a1 ≠ b) (SC : Sta Z h0 "java/lang/String" "COMPACT_STRINGS" "Z" (.int g1)) (hg1 : ¬ (g1 = (0 : Int32))) :
    MetFree l mN_18 (head1 (Jvm.Cond.code mN_18 jdk_67_method_7_code 2 (some (.object "java/lang/StringBuilder")) :: ws) ({ frames := 6, cells := 1, slots := 34, locals := 90 } : Room)) (fun a U => a = #[(.ref a1), .null] ∧ Z.Warmed39 U.vm ∧ U.heap = h0) (fun _ _ _ _ _ => True) (fun _ U o U' => ∃ v L, o = .returned v ∧ (Qap Z a1 b (n + (4 : Int32)) (cs ++ [(110 : Int32), (117 : Int32), (108 : Int32), (108 : Int32)]) h0 n0) v U'.heap L ∧ FrameEnd U o U' L ({ frames := 6, cells := 1, slots := 34, locals := 90 } : Room).cells ({ frames := 6, cells := 1, slots := 34, locals := 90 } : Room).slots) := by
  refine MetFree.of_bodySF (plainFor_of_name pn_2) hisR ?_
  intro p e s m args below meth c s₁ Bd hml0 hP hK
  obtain ⟨rfl, hZ, hh⟩ := hP
  have hx := Bd.exec
  have hby := Bd.bytes
  have hml : c.maxLocals = 2 := hml0
  have hown : s.vm.findClass "java/lang/StringBuilder" = some m.cls := findClass_of_methodNamed Bd.named
  have hnm := (name_of_methodNamed Bd.named Bd.method).1
  have hlk := Bd.notSynchronized
  have X0 : Stand p l e ({ frames := 6, cells := 1, slots := 34, locals := 90 } : Room) s m #[(.ref a1), .null] below meth c s₁ [] 0 0 := Stand.of_body Bd
  have e0 : s₁.heap = h0 := by rw [← hh, Bd.state]; rfl
  have N0 := Fr.nil n0
  have KK := Keep.refl h0 [a1, b]
  show own_Ends p e below s FrameEnd (Qap Z a1 b (n + (4 : Int32)) (cs ++ [(110 : Int32), (117 : Int32), (108 : Int32), (108 : Int32)]) h0 n0) 1 34 (s₁.setTop (entryFrame m #[(.ref a1), .null] 2))
  refine own_of (U' := (s₁.setTop (mkF m 0 #[.val (.ref a1), .val .null] []))) (fun _ k => castTop (ef_nv m a1) k) ?_
  obtain ⟨E1, Fv, Fc, Fn, Eb, Vb, hz, hn, hle⟩ := B1
  refine own_aloadN X0 hx hby d13_0 rfl rfl ?_
  refine own_aloadN X0 hx hby d13_1 rfl rfl ?_
  obtain ⟨_, _, ⟨T80, L80, k80, n80⟩, -, X80, ⟨Lc80, hQ80, l80, y80, z80⟩, st80⟩ := superBack X0 hx hZ (y := mN_16) hown (own_w hw 83 rfl) (own_sameM (y := mN_16) (w := mN_6) (own_w hw 86 rfl) (own_w hw 103 rfl) rfl (by decide)) (own_w hw 84 rfl) (own_w hw 85 rfl) (by decide) (backOf (W := 0) (rmnu l Z a0 hw [] a1 b kb z n cs g1 h0 n0 Z0 ⟨E1, Fv, Fc, Fn, Eb, Vb, hz, hn, hle⟩ hmax g_a1 g_b neab SC hg1) hZ (own_w hw 87 rfl) (own_w hw 70 rfl) (by decide) (by decide)) e0 (Ins.self E1) (g := (mkF m 2 #[.val (.ref a1), .val .null] [.null, (.ref a1)])) rfl (by rw [hml]; rfl) (own_w hw 87 rfl) (argsL := [.null]) (rest := []) (lenOf pd_12 rfl) rfl (by show 2 * 0 + _ ≤ _; exact Nat.le_of_eq rfl) (hb hby d13_2) (fun _ _ => ⟨rfl, e0, (by decide : 0 + 1 ≤ _), (by decide : 0 + 34 ≤ _)⟩)
  dsimp only [Pt.U, Pt.locs, Pt.cells, Pt.slots] at X80 l80 y80 z80 st80 hQ80
  rw [l80, y80, z80] at X80
  obtain ⟨rfl, Nq80, Kp80, u80, ku80, zu80, ho80, Bq80⟩ := hQ80
  have ne_a1_u80 : a1 ≠ u80 := own_neor ho80 neab E1.lt
  have g_u80 : n0 ≤ u80 := ho80.elim (fun q => by rw [← q]; exact g_b) (fun q => Nat.le_trans Z0 q)
  have mk_u80 : u80 ∈ ([a1, b] : List Addr) ∨ h0.size ≤ u80 := ho80.elim (fun q => by rw [← q]; exact (Or.inl (List.mem_of_getElem? (i := 1) rfl))) (fun q => Or.inr (Nat.le_trans KK.1 q))
  have N80 := Fr.app N0 Nq80
  have nst_a1 := E1.nostat
  have nst_b := Eb.nostat
  replace Z0 := Nat.le_trans Z0 Kp80.1
  replace E1 := E1.keep Kp80
  replace Eb := Eb.keep Kp80
  replace SC := own_staKeep SC Kp80 (nsS nst_a1 (nsS nst_b ns0))
  replace KK := KK.trans Kp80 (allS (Or.inl (List.mem_of_getElem? (i := 0) rfl)) (allS (Or.inl (List.mem_of_getElem? (i := 1) rfl)) all0))
  obtain ⟨Es80, Fv80, Fc80, Fn80, Eb80, Vb80, hz80, hn80, hle80⟩ := Bq80
  refine own_of (U' := (T80.setTop (mkF m 5 #[.val (.ref a1), .val .null] [(.ref a1)]))) (fun _ k => st80.trans k) ?_
  refine own_pop X80 hx hby d13_5 rfl ?_
  refine own_aloadN X80 hx hby d13_6 rfl rfl ?_
  exact own_retA X80 hx hlk Bd.returns rfl rfl (hb hby d13_7) (by decide) (by decide) (⟨rfl, N80, KK, u80, ku80, zu80, ho80, ⟨Es80, Fv80, Fc80, Fn80, Eb80, Vb80, hz80, hn80, hle80⟩⟩)
theorem ef_sa (m : MethodId) (x0 : Addr) (x1 : Addr) : entryFrame m #[(.ref x0), (.ref x1)] 2 = mkF m 0 #[.val (.ref x0), .val (.ref x1)] [] := by first | (simp [entryFrame, mkF, argsToLocals, Value.category]; done) | rfl
set_option maxRecDepth 65536 in
set_option maxHeartbeats 40000000 in
theorem rmsa (l : Launch) (Z : State) (a0 : Array Value) (hw : ∀ d ∈ tables_1, d.before a0 Z = true) (ws : List Jvm.Cond) (a1 b : Addr) (kb : ClassId) (z n : Int32) (cs : List Int32) (a2 : Addr) (g1 : Int32) (bu : Addr) (ku : ClassId) (zu : Int32) (us : List Int32) (h0 : Heap) (n0 : Nat) (Z0 : n0 ≤ h0.size) (B1 : own_SB Z h0 a1 b kb z n cs) (E2 : Exa Z h0 a2 "java/lang/String") (Gc : Fld Z h0 a2 "java/lang/String" "coder" "B" (.int (0 : Int32))) (Gv : Fld Z h0 a2 "java/lang/String" "value" "[B" (.ref bu)) (Vu : Arv Z h0 bu ku .byte zu (List.map Value.int us) (.int (0 : Int32))) (SC : Sta Z h0 "java/lang/String" "COMPACT_STRINGS" "Z" (.int g1)) (hg1 : ¬ (g1 = (0 : Int32))) (hu : zu.toInt = us.length) (hmax : cs.length + us.length ≤ 34) (g_a1 : n0 ≤ a1) (g_b : n0 ≤ b) (neab : a1 ≠ b) (n12 : a1 ≠ a2) (n1u : a1 ≠ bu) (ne2 : a2 ≠ b) (neu : bu ≠ b) :
    MetFree l mN_18 (head1 (Jvm.Cond.code mN_18 jdk_67_method_7_code 2 (some (.object "java/lang/StringBuilder")) :: ws) ({ frames := 6, cells := 1, slots := 34, locals := 90 } : Room)) (fun a U => a = #[(.ref a1), (.ref a2)] ∧ Z.Warmed39 U.vm ∧ U.heap = h0) (fun _ _ _ _ _ => True) (fun _ U o U' => ∃ v L, o = .returned v ∧ (Qap Z a1 b (n + zu) (cs ++ us) h0 n0) v U'.heap L ∧ FrameEnd U o U' L ({ frames := 6, cells := 1, slots := 34, locals := 90 } : Room).cells ({ frames := 6, cells := 1, slots := 34, locals := 90 } : Room).slots) := by
  refine MetFree.of_bodySF (plainFor_of_name pn_2) hisR ?_
  intro p e s m args below meth c s₁ Bd hml0 hP hK
  obtain ⟨rfl, hZ, hh⟩ := hP
  have hx := Bd.exec
  have hby := Bd.bytes
  have hml : c.maxLocals = 2 := hml0
  have hown : s.vm.findClass "java/lang/StringBuilder" = some m.cls := findClass_of_methodNamed Bd.named
  have hnm := (name_of_methodNamed Bd.named Bd.method).1
  have hlk := Bd.notSynchronized
  have X0 : Stand p l e ({ frames := 6, cells := 1, slots := 34, locals := 90 } : Room) s m #[(.ref a1), (.ref a2)] below meth c s₁ [] 0 0 := Stand.of_body Bd
  have e0 : s₁.heap = h0 := by rw [← hh, Bd.state]; rfl
  have N0 := Fr.nil n0
  have KK := Keep.refl h0 [a1, b]
  show own_Ends p e below s FrameEnd (Qap Z a1 b (n + zu) (cs ++ us) h0 n0) 1 34 (s₁.setTop (entryFrame m #[(.ref a1), (.ref a2)] 2))
  refine own_of (U' := (s₁.setTop (mkF m 0 #[.val (.ref a1), .val (.ref a2)] []))) (fun _ k => castTop (ef_sa m a1 a2) k) ?_
  obtain ⟨E1, Fv, Fc, Fn, Eb, Vb, hz, hn, hle⟩ := B1
  refine own_aloadN X0 hx hby d13_0 rfl rfl ?_
  refine own_aloadN X0 hx hby d13_1 rfl rfl ?_
  obtain ⟨_, _, ⟨T81, L81, k81, n81⟩, -, X81, ⟨Lc81, hQ81, l81, y81, z81⟩, st81⟩ := superBack X0 hx hZ (y := mN_16) hown (own_w hw 83 rfl) (own_sameM (y := mN_16) (w := mN_6) (own_w hw 86 rfl) (own_w hw 103 rfl) rfl (by decide)) (own_w hw 84 rfl) (own_w hw 85 rfl) (by decide) (backOf (W := 0) (rmas l Z a0 hw [] a1 b kb z n cs a2 g1 bu ku zu us h0 n0 Z0 ⟨E1, Fv, Fc, Fn, Eb, Vb, hz, hn, hle⟩ E2 Gc Gv Vu SC hg1 hu hmax g_a1 g_b neab n12 n1u ne2 neu) hZ (own_w hw 87 rfl) (own_w hw 70 rfl) (by decide) (by decide)) e0 (Ins.self E1) (g := (mkF m 2 #[.val (.ref a1), .val (.ref a2)] [(.ref a2), (.ref a1)])) rfl (by rw [hml]; rfl) (own_w hw 87 rfl) (argsL := [(.ref a2)]) (rest := []) (lenOf pd_12 rfl) rfl (by show 2 * 0 + _ ≤ _; exact Nat.le_of_eq rfl) (hb hby d13_2) (fun _ _ => ⟨rfl, e0, (by decide : 0 + 1 ≤ _), (by decide : 0 + 34 ≤ _)⟩)
  dsimp only [Pt.U, Pt.locs, Pt.cells, Pt.slots] at X81 l81 y81 z81 st81 hQ81
  rw [l81, y81, z81] at X81
  obtain ⟨rfl, Nq81, Kp81, u81, ku81, zu81, ho81, Bq81⟩ := hQ81
  have ne_a1_u81 : a1 ≠ u81 := own_neor ho81 neab E1.lt
  have ne_a2_u81 : a2 ≠ u81 := own_neor ho81 ne2 E2.lt
  have ne_bu_u81 : bu ≠ u81 := own_neor ho81 neu Vu.lt
  have g_u81 : n0 ≤ u81 := ho81.elim (fun q => by rw [← q]; exact g_b) (fun q => Nat.le_trans Z0 q)
  have mk_u81 : u81 ∈ ([a1, b] : List Addr) ∨ h0.size ≤ u81 := ho81.elim (fun q => by rw [← q]; exact (Or.inl (List.mem_of_getElem? (i := 1) rfl))) (fun q => Or.inr (Nat.le_trans KK.1 q))
  have N81 := Fr.app N0 Nq81
  have nst_a1 := E1.nostat
  have nst_b := Eb.nostat
  replace Z0 := Nat.le_trans Z0 Kp81.1
  replace E1 := E1.keep Kp81
  replace Eb := Eb.keep Kp81
  replace E2 := E2.keep Kp81
  replace Gc := Gc.keep Kp81 (ninS (Ne.symm n12) (ninS ne2 nin0))
  replace Gv := Gv.keep Kp81 (ninS (Ne.symm n12) (ninS ne2 nin0))
  replace Vu := Vu.keep Kp81 (ninS (Ne.symm n1u) (ninS neu nin0))
  replace SC := own_staKeep SC Kp81 (nsS nst_a1 (nsS nst_b ns0))
  replace KK := KK.trans Kp81 (allS (Or.inl (List.mem_of_getElem? (i := 0) rfl)) (allS (Or.inl (List.mem_of_getElem? (i := 1) rfl)) all0))
  obtain ⟨Es81, Fv81, Fc81, Fn81, Eb81, Vb81, hz81, hn81, hle81⟩ := Bq81
  refine own_of (U' := (T81.setTop (mkF m 5 #[.val (.ref a1), .val (.ref a2)] [(.ref a1)]))) (fun _ k => st81.trans k) ?_
  refine own_pop X81 hx hby d13_5 rfl ?_
  refine own_aloadN X81 hx hby d13_6 rfl rfl ?_
  exact own_retA X81 hx hlk Bd.returns rfl rfl (hb hby d13_7) (by decide) (by decide) (⟨rfl, N81, KK, u81, ku81, zu81, ho81, ⟨Es81, Fv81, Fc81, Fn81, Eb81, Vb81, hz81, hn81, hle81⟩⟩)
set_option maxRecDepth 65536 in
theorem rmsx (l : Launch) (Z : State) (a0 : Array Value) (hw : ∀ d ∈ tables_1, d.before a0 Z = true) (ws : List Jvm.Cond) (a1 b : Addr) (kb : ClassId) (z n : Int32) (cs : List Int32) (w : Value) (us : List Int32) (n1 : Nat) (g1 : Int32) (h0 : Heap) (n0 : Nat) (Z0 : n0 ≤ h0.size) (B1 : own_SB Z h0 a1 b kb z n cs) (O2 : own_OS Z h0 n1 w us) (hmax : cs.length + us.length ≤ 34) (g_a1 : n0 ≤ a1) (g_b : n0 ≤ b) (neab : a1 ≠ b) (y1 : n1 ≤ a1) (y2 : n1 ≤ b) (SC : Sta Z h0 "java/lang/String" "COMPACT_STRINGS" "Z" (.int g1)) (hg1 : ¬ (g1 = (0 : Int32))) :
    MetFree l mN_18 (head1 (Jvm.Cond.code mN_18 jdk_67_method_7_code 2 (some (.object "java/lang/StringBuilder")) :: ws) ({ frames := 6, cells := 1, slots := 34, locals := 90 } : Room)) (fun a U => a = #[(.ref a1), w] ∧ Z.Warmed39 U.vm ∧ U.heap = h0) (fun _ _ _ _ _ => True) (fun _ U o U' => ∃ v L, o = .returned v ∧ (Qai Z a1 b (cs ++ us) h0 n0) v U'.heap L ∧ FrameEnd U o U' L ({ frames := 6, cells := 1, slots := 34, locals := 90 } : Room).cells ({ frames := 6, cells := 1, slots := 34, locals := 90 } : Room).slots) := by
  rcases O2 with ⟨rfl, rfl⟩ | ⟨a2, bu, ku, zu, rfl, la, lb, E2, Gc, Gv, Vu, hu⟩
  · exact own_mono (rmnv l Z a0 hw ws a1 b kb z n cs g1 h0 n0 Z0 B1 hmax g_a1 g_b neab SC hg1) (fun _ _ _ _ ⟨v, L, h1, ⟨q1, q2, q3, b', kb', z', q4, q5⟩, h3⟩ => ⟨v, L, h1, ⟨q1, q2, q3, b', kb', z', _, q4, q5⟩, h3⟩)
  · exact own_mono (rmsa l Z a0 hw ws a1 b kb z n cs a2 g1 bu ku zu us h0 n0 Z0 B1 E2 Gc Gv Vu SC hg1 hu hmax g_a1 g_b neab (Nat.ne_of_gt (Nat.lt_of_lt_of_le la y1)) (Nat.ne_of_gt (Nat.lt_of_lt_of_le lb y1)) (Nat.ne_of_lt (Nat.lt_of_lt_of_le la y2)) (Nat.ne_of_lt (Nat.lt_of_lt_of_le lb y2))) (fun _ _ _ _ ⟨v, L, h1, ⟨q1, q2, q3, b', kb', z', q4, q5⟩, h3⟩ => ⟨v, L, h1, ⟨q1, q2, q3, b', kb', z', _, q4, q5⟩, h3⟩)
abbrev mN_19 : MethodName := ⟨"java/lang/AbstractStringBuilder", "<init>", "(I)V"⟩
theorem d12_0 : decode jdk_68_method_2_code 0 = .ok (.aload_n 0, 1) := by decide +kernel
theorem d12_1 : decode jdk_68_method_2_code 1 = .ok (.invokespecial 3, 3) := by decide +kernel
theorem d12_4 : decode jdk_68_method_2_code 4 = .ok (.getstatic 18, 3) := by decide +kernel
theorem d12_7 : decode jdk_68_method_2_code 7 = .ok (.ifCond .eq 18, 3) := by decide +kernel
theorem d12_10 : decode jdk_68_method_2_code 10 = .ok (.aload_n 0, 1) := by decide +kernel
theorem d12_11 : decode jdk_68_method_2_code 11 = .ok (.iload_n 1, 1) := by decide +kernel
theorem d12_12 : decode jdk_68_method_2_code 12 = .ok (.newarray .byte, 2) := by decide +kernel
theorem d12_14 : decode jdk_68_method_2_code 14 = .ok (.putfield 15, 3) := by decide +kernel
theorem d12_17 : decode jdk_68_method_2_code 17 = .ok (.aload_n 0, 1) := by decide +kernel
theorem d12_18 : decode jdk_68_method_2_code 18 = .ok (.iconst 0, 1) := by decide +kernel
theorem d12_19 : decode jdk_68_method_2_code 19 = .ok (.putfield 22, 3) := by decide +kernel
theorem d12_22 : decode jdk_68_method_2_code 22 = .ok (.goto 16, 3) := by decide +kernel
theorem d12_38 : decode jdk_68_method_2_code 38 = .ok (.return_, 1) := by decide +kernel
theorem ef_ai (m : MethodId) (x0 : Addr) : entryFrame m #[(.ref x0), (.int (16 : Int32))] 2 = mkF m 0 #[.val (.ref x0), .val (.int (16 : Int32))] [] := by first | (simp [entryFrame, mkF, argsToLocals, Value.category]; done) | rfl
def Qsb (Z : State) (a1 : Addr) (h0 : Heap) (n0 : Nat) (v : Option Value) (h : Heap) (L : List Loc) : Prop := v = none ∧ Fr n0 L ∧ Keep h0 h [a1] ∧ ∃ (b : Addr) (kb : ClassId), h0.size ≤ b ∧ own_SB Z h a1 b kb (16 : Int32) (0 : Int32) ([] : List Int32)
set_option maxRecDepth 65536 in
set_option maxHeartbeats 40000000 in
theorem rmai (l : Launch) (Z : State) (a0 : Array Value) (hw : ∀ d ∈ tables_1, d.before a0 Z = true) (ws : List Jvm.Cond) (a1 : Addr) (g1 : Int32) (h0 : Heap) (n0 : Nat) (Z0 : n0 ≤ h0.size) (E1 : Exa Z h0 a1 "java/lang/StringBuilder") (Fv : Fld Z h0 a1 "java/lang/AbstractStringBuilder" "value" "[B" .null) (Fc : Fld Z h0 a1 "java/lang/AbstractStringBuilder" "coder" "B" (.int (0 : Int32))) (Fn : Fld Z h0 a1 "java/lang/AbstractStringBuilder" "count" "I" (.int (0 : Int32))) (SC : Sta Z h0 "java/lang/String" "COMPACT_STRINGS" "Z" (.int g1)) (hg1 : ¬ (g1 = (0 : Int32))) (g_a1 : n0 ≤ a1) :
    MetFree l mN_19 (head1 (Jvm.Cond.code mN_19 jdk_68_method_2_code 2 none :: ws) ({ frames := 1, cells := 1, slots := 16, locals := 12 } : Room)) (fun a U => a = #[(.ref a1), (.int (16 : Int32))] ∧ Z.Warmed39 U.vm ∧ U.heap = h0) (fun _ _ _ _ _ => True) (fun _ U o U' => ∃ v L, o = .returned v ∧ (Qsb Z a1 h0 n0) v U'.heap L ∧ FrameEnd U o U' L ({ frames := 1, cells := 1, slots := 16, locals := 12 } : Room).cells ({ frames := 1, cells := 1, slots := 16, locals := 12 } : Room).slots) := by
  refine MetFree.of_bodySF (plainFor_of_name pn_1) hisR ?_
  intro p e s m args below meth c s₁ Bd hml0 hP hK
  obtain ⟨rfl, hZ, hh⟩ := hP
  have hx := Bd.exec
  have hby := Bd.bytes
  have hml : c.maxLocals = 2 := hml0
  have hown : s.vm.findClass "java/lang/AbstractStringBuilder" = some m.cls := findClass_of_methodNamed Bd.named
  have hnm := (name_of_methodNamed Bd.named Bd.method).1
  have hlk := Bd.notSynchronized
  have X0 : Stand p l e ({ frames := 1, cells := 1, slots := 16, locals := 12 } : Room) s m #[(.ref a1), (.int (16 : Int32))] below meth c s₁ [] 0 0 := Stand.of_body Bd
  have e0 : s₁.heap = h0 := by rw [← hh, Bd.state]; rfl
  have N0 := Fr.nil n0
  have KK := Keep.refl h0 [a1]
  show own_Ends p e below s FrameEnd (Qsb Z a1 h0 n0) 1 16 (s₁.setTop (entryFrame m #[(.ref a1), (.int (16 : Int32))] 2))
  refine own_of (U' := (s₁.setTop (mkF m 0 #[.val (.ref a1), .val (.int (16 : Int32))] []))) (fun _ k => castTop (ef_ai m a1) k) ?_
  refine own_aloadN X0 hx hby d12_0 rfl rfl ?_
  obtain ⟨T82, X82, e82, st82⟩ := initO X0 hx hZ hown (own_w hw 72 rfl) (own_w hw 16 rfl) (own_w hw 17 rfl) e0 (g := (mkF m 1 #[.val (.ref a1), .val (.int (16 : Int32))] [(.ref a1)])) rfl (by rw [hml]; rfl) rfl (hb hby d12_1) (by decide) (W := 0) (by show 2 * 0 + _ ≤ _; exact Nat.le_of_eq rfl) (by decide)
  refine own_of (U' := (T82.setTop (mkF m 4 #[.val (.ref a1), .val (.int (16 : Int32))] []))) (st82) ?_
  obtain ⟨T83, X83, e83, st83⟩ := getS2 X82 hx hZ hown (host := "") (Or.inl (own_w hw 73 rfl)) Via.refl e82 SC (g := (mkF m 4 #[.val (.ref a1), .val (.int (16 : Int32))] [])) rfl (hb hby d12_4)
  refine own_of (U' := (T83.setTop (mkF m 7 #[.val (.ref a1), .val (.int (16 : Int32))] [(.int g1)]))) (st83) ?_
  have hc7_84 : ¬ (g1 = (0 : Int32)) := hg1
  refine own_ifNo X83 hx hby d12_7 ((if0 _ _).trans (feq hc7_84).1) ?_
  refine own_aloadN X83 hx hby d12_10 rfl rfl ?_
  refine own_iloadN X83 hx hby d12_11 rfl ?_
  obtain ⟨T85, h85, k85, X85, e85, E85, A85, B85, st85⟩ := newPE X83 hx hZ (own_w hw 23 rfl) e83 (g := (mkF m 12 #[.val (.ref a1), .val (.int (16 : Int32))] [(.int (16 : Int32)), (.ref a1)])) rfl (hb hby d12_12) rfl (by decide) (cap := 16) (by decide) (by decide) (by decide) (by decide) (ad := "[B") (by decide)
  obtain ⟨b85, gz85⟩ : ∃ z, z = h0.size := ⟨_, rfl⟩
  rw [← gz85] at A85 B85 st85
  have g_b85 : n0 ≤ b85 := Nat.le_trans Z0 (Nat.le_of_eq gz85.symm)
  have sz_b85 : h0.size ≤ b85 := Nat.le_trans KK.1 (Nat.le_of_eq gz85.symm)
  have ne_a1_b85 : a1 ≠ b85 := Nat.ne_of_lt (Nat.lt_of_lt_of_le E1.lt (Nat.le_of_eq gz85.symm))
  replace Z0 := Nat.le_trans Z0 E85.1
  replace E1 := E1.ext E85
  replace Fv := Fv.ext E85
  replace Fc := Fc.ext E85
  replace Fn := Fn.ext E85
  replace SC := SC.ext E85
  replace KK := KK.ext E85
  have V85 : Arv Z h85 b85 k85 .byte (16 : Int32) (List.map Value.int ([] : List Int32)) (.int (0 : Int32)) := Arv.new A85 (by decide)
  refine own_of (U' := (T85.setTop (mkF m 14 #[.val (.ref a1), .val (.int (16 : Int32))] [(.ref b85), (.ref a1)]))) (st85) ?_
  obtain ⟨T86, h86, X86, e86, W86, st86⟩ := putF X85 hx hZ hown (host := "") (Or.inl (own_w hw 74 rfl)) Via.refl e85 Fv E1 (Or.inl (own_w hw 75 rfl)) (own_w hw 61 rfl) (ty := (.array .byte)) (by decide) rfl rfl (g := (mkF m 14 #[.val (.ref a1), .val (.int (16 : Int32))] [(.ref b85), (.ref a1)])) rfl rfl (hb hby d12_14)
  replace Z0 := Nat.le_trans Z0 (Keep.of_wr W86).1
  replace E1 := E1.wr W86
  replace Fv := Fv.same W86
  replace Fc := Fc.other W86 (Or.inr (slot_ne (Or.inl (own_w hw 77 rfl)) (Or.inl (own_w hw 75 rfl)) (by decide) (t := .byte) (t' := (.array .byte)) (by decide) (by decide)))
  replace Fn := Fn.other W86 (Or.inr (slot_ne (Or.inl (own_w hw 99 rfl)) (Or.inl (own_w hw 75 rfl)) (by decide) (t := .int) (t' := (.array .byte)) (by decide) (by decide)))
  replace SC := SC.wr W86
  replace KK := KK.wr W86 (Or.inl (List.mem_of_getElem? (i := 0) rfl))
  replace B85 := B85.wr W86
  replace V85 := V85.other W86 (Ne.symm ne_a1_b85)
  have N86 := Fr.snoc X86 N0 g_a1
  refine own_of (U' := (T86.setTop (mkF m 17 #[.val (.ref a1), .val (.int (16 : Int32))] []))) (st86) ?_
  refine own_aloadN X86 hx hby d12_17 rfl rfl ?_
  refine own_iconst X86 hx hby 0 d12_18 rfl ?_
  obtain ⟨T87, h87, X87, e87, W87, st87⟩ := putFN X86 hx hZ hown (own_w hw 76 rfl) Via.refl e86 Fc E1 (Or.inl (own_w hw 77 rfl)) (own_w hw 61 rfl) (ty := .byte) (v' := (.int (0 : Int32))) (by decide) rfl (by decide) (g := (mkF m 19 #[.val (.ref a1), .val (.int (16 : Int32))] [(.int (0 : Int32)), (.ref a1)])) rfl rfl (hb hby d12_19)
  replace Z0 := Nat.le_trans Z0 (Keep.of_wr W87).1
  replace E1 := E1.wr W87
  replace Fv := Fv.other W87 (Or.inr (slot_ne (Or.inl (own_w hw 75 rfl)) (Or.inl (own_w hw 77 rfl)) (by decide) (t := (.array .byte)) (t' := .byte) (by decide) (by decide)))
  replace Fc := Fc.same W87
  replace Fn := Fn.other W87 (Or.inr (slot_ne (Or.inl (own_w hw 99 rfl)) (Or.inl (own_w hw 77 rfl)) (by decide) (t := .int) (t' := .byte) (by decide) (by decide)))
  replace SC := SC.wr W87
  replace KK := KK.wr W87 (Or.inl (List.mem_of_getElem? (i := 0) rfl))
  replace B85 := B85.wr W87
  replace V85 := V85.other W87 (Ne.symm ne_a1_b85)
  have N87 := Fr.snoc X87 N86 g_a1
  refine own_of (U' := (T87.setTop (mkF m 22 #[.val (.ref a1), .val (.int (16 : Int32))] []))) (st87) ?_
  refine own_goto X87 hx hby 22 38 d12_22 (by decide) (by decide) ?_
  exact own_ret0 X87 hx hlk Bd.returns (hb hby d12_38) (by decide) (by decide) (by rw [e87]; exact ⟨rfl, N87, KK, b85, k85, sz_b85, ⟨E1, Fv, Fc, Fn, B85, V85, Or.inl rfl, rfl, by decide⟩⟩)
abbrev mN_20 : MethodName := ⟨"java/lang/StringBuilder", "<init>", "()V"⟩
theorem d11_0 : decode jdk_67_method_1_code 0 = .ok (.aload_n 0, 1) := by decide +kernel
theorem d11_1 : decode jdk_67_method_1_code 1 = .ok (.bipush 16, 2) := by decide +kernel
theorem d11_3 : decode jdk_67_method_1_code 3 = .ok (.invokespecial 1, 3) := by decide +kernel
theorem d11_6 : decode jdk_67_method_1_code 6 = .ok (.return_, 1) := by decide +kernel
theorem ef_bi (m : MethodId) (x0 : Addr) : entryFrame m #[(.ref x0)] 1 = mkF m 0 #[.val (.ref x0)] [] := by first | (simp [entryFrame, mkF, argsToLocals, Value.category]; done) | rfl
set_option maxRecDepth 65536 in
set_option maxHeartbeats 40000000 in
theorem rmbi (l : Launch) (Z : State) (a0 : Array Value) (hw : ∀ d ∈ tables_1, d.before a0 Z = true) (ws : List Jvm.Cond) (a1 : Addr) (g1 : Int32) (h0 : Heap) (n0 : Nat) (Z0 : n0 ≤ h0.size) (E1 : Exa Z h0 a1 "java/lang/StringBuilder") (Fv : Fld Z h0 a1 "java/lang/AbstractStringBuilder" "value" "[B" .null) (Fc : Fld Z h0 a1 "java/lang/AbstractStringBuilder" "coder" "B" (.int (0 : Int32))) (Fn : Fld Z h0 a1 "java/lang/AbstractStringBuilder" "count" "I" (.int (0 : Int32))) (SC : Sta Z h0 "java/lang/String" "COMPACT_STRINGS" "Z" (.int g1)) (hg1 : ¬ (g1 = (0 : Int32))) (g_a1 : n0 ≤ a1) :
    MetFree l mN_20 (head1 (Jvm.Cond.code mN_20 jdk_67_method_1_code 1 none :: ws) ({ frames := 2, cells := 1, slots := 16, locals := 25 } : Room)) (fun a U => a = #[(.ref a1)] ∧ Z.Warmed39 U.vm ∧ U.heap = h0) (fun _ _ _ _ _ => True) (fun _ U o U' => ∃ v L, o = .returned v ∧ (Qsb Z a1 h0 n0) v U'.heap L ∧ FrameEnd U o U' L ({ frames := 2, cells := 1, slots := 16, locals := 25 } : Room).cells ({ frames := 2, cells := 1, slots := 16, locals := 25 } : Room).slots) := by
  refine MetFree.of_bodySF (plainFor_of_name pn_2) hisR ?_
  intro p e s m args below meth c s₁ Bd hml0 hP hK
  obtain ⟨rfl, hZ, hh⟩ := hP
  have hx := Bd.exec
  have hby := Bd.bytes
  have hml : c.maxLocals = 1 := hml0
  have hown : s.vm.findClass "java/lang/StringBuilder" = some m.cls := findClass_of_methodNamed Bd.named
  have hnm := (name_of_methodNamed Bd.named Bd.method).1
  have hlk := Bd.notSynchronized
  have X0 : Stand p l e ({ frames := 2, cells := 1, slots := 16, locals := 25 } : Room) s m #[(.ref a1)] below meth c s₁ [] 0 0 := Stand.of_body Bd
  have e0 : s₁.heap = h0 := by rw [← hh, Bd.state]; rfl
  have N0 := Fr.nil n0
  have KK := Keep.refl h0 [a1]
  show own_Ends p e below s FrameEnd (Qsb Z a1 h0 n0) 1 16 (s₁.setTop (entryFrame m #[(.ref a1)] 1))
  refine own_of (U' := (s₁.setTop (mkF m 0 #[.val (.ref a1)] []))) (fun _ k => castTop (ef_bi m a1) k) ?_
  refine own_aloadN X0 hx hby d11_0 rfl rfl ?_
  refine own_bipush X0 hx hby 16 d11_1 rfl ?_
  obtain ⟨_, _, ⟨T88, L88, k88, n88⟩, -, X88, ⟨Lc88, hQ88, l88, y88, z88⟩, st88⟩ := X0.specialBack hx (y := mN_19) rfl hown (mvT hZ (own_w hw 66 rfl)) (mvT hZ (own_w hw 67 rfl)) (mvT hZ (own_w hw 71 rfl)) (by decide) (backOf (W := 0) (rmai l Z a0 hw [] a1 g1 h0 n0 Z0 E1 Fv Fc Fn SC hg1 g_a1) hZ (own_w hw 71 rfl) (own_w hw 70 rfl) (by decide) (by decide)) (g := (mkF m 3 #[.val (.ref a1)] [(.int (16 : Int32)), (.ref a1)])) rfl (by rw [hml]; rfl) (Steps.refl _) (a := a1) (argsL := [(.int (16 : Int32))]) (rest := []) (lenOf pd_8 rfl) rfl (by show 2 * 0 + _ ≤ _; exact Nat.le_of_eq rfl) (hb hby d11_3) (fun _ _ => ⟨rfl, e0, (by decide : 0 + 1 ≤ _), (by decide : 0 + 16 ≤ _)⟩)
  dsimp only [Pt.U, Pt.locs, Pt.cells, Pt.slots] at X88 l88 y88 z88 st88 hQ88
  rw [l88, y88, z88] at X88
  obtain ⟨rfl, Nq88, Kp88, u88, ku88, gq88, Bq88⟩ := hQ88
  have g_u88 : n0 ≤ u88 := Nat.le_trans Z0 gq88
  have sz_u88 : h0.size ≤ u88 := Nat.le_trans KK.1 gq88
  have ne_a1_u88 : a1 ≠ u88 := Nat.ne_of_lt (Nat.lt_of_lt_of_le E1.lt gq88)
  have N88 := Fr.app N0 Nq88
  have nst_a1 := E1.nostat
  replace Z0 := Nat.le_trans Z0 Kp88.1
  replace E1 := E1.keep Kp88
  replace SC := own_staKeep SC Kp88 (nsS nst_a1 ns0)
  replace KK := KK.trans Kp88 (allS (Or.inl (List.mem_of_getElem? (i := 0) rfl)) all0)
  obtain ⟨Es88, Fv88, Fc88, Fn88, Eb88, Vb88, hz88, hn88, hle88⟩ := Bq88
  refine own_of (U' := (T88.setTop (mkF m 6 #[.val (.ref a1)] []))) (fun _ k => st88.trans k) ?_
  exact own_ret0 X88 hx hlk Bd.returns (hb hby d11_6) (by decide) (by decide) (⟨rfl, N88, KK, u88, ku88, sz_u88, ⟨Es88, Fv88, Fc88, Fn88, Eb88, Vb88, hz88, hn88, hle88⟩⟩)
theorem own_cap34 {z n : Int32} {cs : List Int32} (hz : z = 16 ∨ z = 34) (hn : n.toInt = cs.length) (hle : (cs.length : Int) ≤ z.toInt) : n.toNatClampNeg ≤ 34 := by
  rw [own_clamp hn]
  rcases hz with rfl | rfl
  · rw [own_i16] at hle; omega
  · rw [own_i34] at hle; omega
abbrev mN_21 : MethodName := ⟨"java/util/Arrays", "copyOfRangeByte", "([BII)[B"⟩
theorem pd_13 : parseMethodDescriptor "(II)V" = some ⟨[.int, .int], none⟩ := by decide +kernel
theorem d33_0 : decode jdk_65_method_133_code 0 = .ok (.iload_n 1, 1) := by decide +kernel
theorem d33_1 : decode jdk_65_method_133_code 1 = .ok (.iload_n 2, 1) := by decide +kernel
theorem d33_2 : decode jdk_65_method_133_code 2 = .ok (.invokestatic 343, 3) := by decide +kernel
theorem d33_5 : decode jdk_65_method_133_code 5 = .ok (.iload_n 2, 1) := by decide +kernel
theorem d33_6 : decode jdk_65_method_133_code 6 = .ok (.iload_n 1, 1) := by decide +kernel
theorem d33_7 : decode jdk_65_method_133_code 7 = .ok (.isub, 1) := by decide +kernel
theorem d33_8 : decode jdk_65_method_133_code 8 = .ok (.istore_n 3, 1) := by decide +kernel
theorem d33_9 : decode jdk_65_method_133_code 9 = .ok (.iload_n 3, 1) := by decide +kernel
theorem d33_10 : decode jdk_65_method_133_code 10 = .ok (.newarray .byte, 2) := by decide +kernel
theorem d33_12 : decode jdk_65_method_133_code 12 = .ok (.astore 4, 2) := by decide +kernel
theorem d33_14 : decode jdk_65_method_133_code 14 = .ok (.aload_n 0, 1) := by decide +kernel
theorem d33_15 : decode jdk_65_method_133_code 15 = .ok (.iload_n 1, 1) := by decide +kernel
theorem d33_16 : decode jdk_65_method_133_code 16 = .ok (.aload 4, 2) := by decide +kernel
theorem d33_18 : decode jdk_65_method_133_code 18 = .ok (.iconst 0, 1) := by decide +kernel
theorem d33_19 : decode jdk_65_method_133_code 19 = .ok (.aload_n 0, 1) := by decide +kernel
theorem d33_20 : decode jdk_65_method_133_code 20 = .ok (.arraylength, 1) := by decide +kernel
theorem d33_21 : decode jdk_65_method_133_code 21 = .ok (.iload_n 1, 1) := by decide +kernel
theorem d33_22 : decode jdk_65_method_133_code 22 = .ok (.isub, 1) := by decide +kernel
theorem d33_23 : decode jdk_65_method_133_code 23 = .ok (.iload_n 3, 1) := by decide +kernel
theorem d33_24 : decode jdk_65_method_133_code 24 = .ok (.invokestatic 304, 3) := by decide +kernel
theorem d33_27 : decode jdk_65_method_133_code 27 = .ok (.invokestatic 150, 3) := by decide +kernel
theorem d33_30 : decode jdk_65_method_133_code 30 = .ok (.aload 4, 2) := by decide +kernel
theorem d33_32 : decode jdk_65_method_133_code 32 = .ok (.areturn, 1) := by decide +kernel
theorem ef_cr (m : MethodId) (x0 : Addr) (x2 : Int32) : entryFrame m #[(.ref x0), (.int (0 : Int32)), (.int x2)] 5 = mkF m 0 #[.val (.ref x0), .val (.int (0 : Int32)), .val (.int x2), .unset, .unset] [] := by first | (simp [entryFrame, mkF, argsToLocals, Value.category]; done) | rfl
def Qcr (Z : State) (n : Int32) (cs : List Int32) (h0 : Heap) (n0 : Nat) (v : Option Value) (h : Heap) (L : List Loc) : Prop := ∃ (u : Addr) (ku : ClassId), v = some (.ref u) ∧ Fr n0 L ∧ Keep h0 h [] ∧ h0.size ≤ u ∧ Arv Z h u ku .byte n (List.map Value.int cs) (.int (0 : Int32))
set_option maxRecDepth 65536 in
set_option maxHeartbeats 40000000 in
theorem rmcr (l : Launch) (Z : State) (a0 : Array Value) (hw : ∀ d ∈ tables_1, d.before a0 Z = true) (ws : List Jvm.Cond) (b : Addr) (kb : ClassId) (z n : Int32) (cs : List Int32) (h0 : Heap) (n0 : Nat) (Z0 : n0 ≤ h0.size) (Vb : Arv Z h0 b kb .byte z (List.map Value.int cs) (.int (0 : Int32))) (hz : z = 16 ∨ z = 34) (hn : n.toInt = cs.length) (hle : (cs.length : Int) ≤ z.toInt) :
    MetFree l mN_21 (head1 (Jvm.Cond.code mN_21 jdk_65_method_133_code 5 (some (.array .byte)) :: ws) ({ frames := 1, cells := 1, slots := 34, locals := 18 } : Room)) (fun a U => a = #[(.ref b), (.int (0 : Int32)), (.int n)] ∧ Z.Warmed39 U.vm ∧ U.heap = h0) (fun _ _ _ _ _ => True) (fun _ U o U' => ∃ v L, o = .returned v ∧ (Qcr Z n cs h0 n0) v U'.heap L ∧ FrameEnd U o U' L ({ frames := 1, cells := 1, slots := 34, locals := 18 } : Room).cells ({ frames := 1, cells := 1, slots := 34, locals := 18 } : Room).slots) := by
  refine MetFree.of_bodySF (plainFor_of_name pn_3) hisR ?_
  intro p e s m args below meth c s₁ Bd hml0 hP hK
  obtain ⟨rfl, hZ, hh⟩ := hP
  have hx := Bd.exec
  have hby := Bd.bytes
  have hml : c.maxLocals = 5 := hml0
  have hown : s.vm.findClass "java/util/Arrays" = some m.cls := findClass_of_methodNamed Bd.named
  have hnm := (name_of_methodNamed Bd.named Bd.method).1
  have hlk := Bd.notSynchronized
  have X0 : Stand p l e ({ frames := 1, cells := 1, slots := 34, locals := 18 } : Room) s m #[(.ref b), (.int (0 : Int32)), (.int n)] below meth c s₁ [] 0 0 := Stand.of_body Bd
  have e0 : s₁.heap = h0 := by rw [← hh, Bd.state]; rfl
  have N0 := Fr.nil n0
  have KK := Keep.refl h0 []
  show own_Ends p e below s FrameEnd (Qcr Z n cs h0 n0) 1 34 (s₁.setTop (entryFrame m #[(.ref b), (.int (0 : Int32)), (.int n)] 5))
  refine own_of (U' := (s₁.setTop (mkF m 0 #[.val (.ref b), .val (.int (0 : Int32)), .val (.int n), .unset, .unset] []))) (fun _ k => castTop (ef_cr m b n) k) ?_
  refine own_iloadN X0 hx hby d33_0 rfl ?_
  refine own_iloadN X0 hx hby d33_1 rfl ?_
  obtain ⟨_, _, ⟨T89, L89, k89, n89⟩, -, X89, ⟨Lc89, hQ89, l89, y89, z89⟩, st89⟩ := Jvm.LawKit.callS X0 hx (y := mN_9) hown (mvT hZ (own_w hw 182 rfl)) (mvT hZ (own_w hw 183 rfl)) (mvT hZ (own_w hw 177 rfl)) (mvT hZ (own_w hw 184 rfl)) (by decide) (backOf (W := 0) (rmck l Z a0 hw [] (0 : Int32) n h0 n0 Z0 (own_ge0 (by omega))) hZ (own_w hw 184 rfl) (own_w hw 177 rfl) (by decide) (by decide)) (g := (mkF m 2 #[.val (.ref b), .val (.int (0 : Int32)), .val (.int n), .unset, .unset] [(.int n), (.int (0 : Int32))])) rfl (by rw [hml]; rfl) (argsL := [(.int (0 : Int32)), (.int n)]) (rest := []) (lenOf pd_13 rfl) rfl (by show 2 * 0 + _ ≤ _; exact Nat.le_of_eq rfl) (hb hby d33_2) (fun _ _ => ⟨rfl, e0, (by decide : 0 + 0 ≤ _), (by decide : 0 + 0 ≤ _)⟩)
  dsimp only [Pt.U, Pt.locs, Pt.cells, Pt.slots] at X89 l89 y89 z89 st89 hQ89
  rw [l89, y89, z89] at X89
  obtain ⟨rfl, Nq89, e89⟩ := hQ89
  have N89 := Fr.app N0 Nq89
  refine own_of (U' := (T89.setTop (mkF m 5 #[.val (.ref b), .val (.int (0 : Int32)), .val (.int n), .unset, .unset] []))) (st89) ?_
  refine own_iloadN X89 hx hby d33_5 rfl ?_
  refine own_iloadN X89 hx hby d33_6 rfl ?_
  refine own_isub X89 hx hby d33_7 ?_
  refine own_eq (U' := (T89.setTop (mkF m 8 #[.val (.ref b), .val (.int (0 : Int32)), .val (.int n), .unset, .unset] [(.int n)]))) (by rw [show (n - (0 : Int32)) = n from own_sub0 n]) ?_
  refine own_istoreN X89 hx hby d33_8 (l' := #[.val (.ref b), .val (.int (0 : Int32)), .val (.int n), .val (.int n), .unset]) rfl ?_
  refine own_iloadN X89 hx hby d33_9 rfl ?_
  obtain ⟨T90, h90, k90, X90, e90, E90, A90, st90⟩ := newP X89 hx hZ (own_w hw 23 rfl) e89 (g := (mkF m 10 #[.val (.ref b), .val (.int (0 : Int32)), .val (.int n), .val (.int n), .unset] [(.int n)])) rfl (hb hby d33_10) rfl (own_ge0 (by omega)) (cap := 34) (own_cap34 hz hn hle) (by decide) (by decide) (by decide)
  obtain ⟨b90, gz90⟩ : ∃ z, z = h0.size := ⟨_, rfl⟩
  rw [← gz90] at A90 st90
  have g_b90 : n0 ≤ b90 := Nat.le_trans Z0 (Nat.le_of_eq gz90.symm)
  have sz_b90 : h0.size ≤ b90 := Nat.le_trans KK.1 (Nat.le_of_eq gz90.symm)
  have ne_b_b90 : b ≠ b90 := Nat.ne_of_lt (Nat.lt_of_lt_of_le Vb.lt (Nat.le_of_eq gz90.symm))
  replace Z0 := Nat.le_trans Z0 E90.1
  replace Vb := Vb.ext E90
  replace KK := KK.ext E90
  have V90 : Arv Z h90 b90 k90 .byte n (List.map Value.int ([] : List Int32)) (.int (0 : Int32)) := Arv.new A90 (own_ge0 (by omega))
  refine own_of (U' := (T90.setTop (mkF m 12 #[.val (.ref b), .val (.int (0 : Int32)), .val (.int n), .val (.int n), .unset] [(.ref b90)]))) (st90) ?_
  refine own_astore X90 hx hby d33_12 rfl (l' := #[.val (.ref b), .val (.int (0 : Int32)), .val (.int n), .val (.int n), .val (.ref b90)]) rfl ?_
  refine own_aloadN X90 hx hby d33_14 rfl rfl ?_
  refine own_iloadN X90 hx hby d33_15 rfl ?_
  refine own_aload X90 hx hby d33_16 rfl rfl ?_
  refine own_iconst X90 hx hby 0 d33_18 rfl ?_
  refine own_aloadN X90 hx hby d33_19 rfl rfl ?_
  obtain ⟨cl91, Ar91, qa91, Sa91, Na91, -, -⟩ := id Vb
  have al91 := X90.arraylength hx (by rw [e90]; exact Ar91.1) (State.isArrayOf_alike hZ.alike Ar91.2.1) (g := (mkF m 20 #[.val (.ref b), .val (.int (0 : Int32)), .val (.int n), .val (.int n), .val (.ref b90)] [(.ref b), (.int (0 : Int32)), (.ref b90), (.int (0 : Int32)), (.ref b)])) rfl rfl (hb hby d33_20)
  rw [len_of Sa91 Na91] at al91
  refine own_of (U' := (T90.setTop (mkF m 21 #[.val (.ref b), .val (.int (0 : Int32)), .val (.int n), .val (.int n), .val (.ref b90)] [(.int z), (.int (0 : Int32)), (.ref b90), (.int (0 : Int32)), (.ref b)]))) (al91) ?_
  refine own_iloadN X90 hx hby d33_21 rfl ?_
  refine own_isub X90 hx hby d33_22 ?_
  refine own_iloadN X90 hx hby d33_23 rfl ?_
  obtain ⟨_, _, ⟨T92, L92, k92, n92⟩, -, X92, ⟨Lc92, hQ92, l92, y92, z92⟩, st92⟩ := Jvm.LawKit.callS X90 hx (y := mN_7) hown (mvT hZ (own_w hw 185 rfl)) (mvT hZ (own_w hw 186 rfl)) (mvT hZ (own_w hw 187 rfl)) (mvT hZ (own_w hw 188 rfl)) (by decide) (backOf (W := 4) (rmmin l Z a0 hw [] (z - (0 : Int32)) n h90 n0 Z0 ) hZ (own_w hw 188 rfl) (own_w hw 187 rfl) (by decide) (by decide)) (g := (mkF m 24 #[.val (.ref b), .val (.int (0 : Int32)), .val (.int n), .val (.int n), .val (.ref b90)] [(.int n), (.int (z - (0 : Int32))), (.int (0 : Int32)), (.ref b90), (.int (0 : Int32)), (.ref b)])) rfl (by rw [hml]; rfl) (argsL := [(.int (z - (0 : Int32))), (.int n)]) (rest := [(.int (0 : Int32)), (.ref b90), (.int (0 : Int32)), (.ref b)]) (lenOf pd_2 rfl) rfl (by show 2 * 0 + _ ≤ _; exact Nat.le_of_eq rfl) (hb hby d33_24) (fun _ _ => ⟨rfl, e90, (by decide : 1 + 0 ≤ _), (by decide : 34 + 0 ≤ _)⟩)
  dsimp only [Pt.U, Pt.locs, Pt.cells, Pt.slots] at X92 l92 y92 z92 st92 hQ92
  rw [l92, y92, z92] at X92
  obtain ⟨rfl, Nq92, e92⟩ := hQ92
  have N92 := Fr.app N89 Nq92
  refine own_of (U' := (T92.setTop (mkF m 27 #[.val (.ref b), .val (.int (0 : Int32)), .val (.int n), .val (.int n), .val (.ref b90)] [(.int (own_min (z - (0 : Int32)) n)), (.int (0 : Int32)), (.ref b90), (.int (0 : Int32)), (.ref b)]))) (st92) ?_
  refine own_eq (U' := (T92.setTop (mkF m 27 #[.val (.ref b), .val (.int (0 : Int32)), .val (.int n), .val (.int n), .val (.ref b90)] [(.int n), (.int (0 : Int32)), (.ref b90), (.int (0 : Int32)), (.ref b)]))) (by rw [show (own_min (z - (0 : Int32)) n) = n from own_minle (by omega)]) ?_
  have Vp93 := Arv.pad V90 (own_padk ([] : List Int32) (n).toNatClampNeg)
  obtain ⟨T93, h93, L93, X93, e93, N93, Kp93, Vr93, st93⟩ := cpA X92 hx hZ hown (own_w hw 189 rfl) (own_w hw 124 rfl) (own_w hw 122 rfl) (own_w hw 123 rfl) e92 Vb Vp93 (Or.inl ⟨rfl, rfl⟩) (sp := (0 : Int32)) (dp := (0 : Int32)) (nn := n) (by decide) (by decide) (own_ge0 (by omega)) (by rw [own_z0, own_clamp hn, Nat.zero_add]; exact own_leN hle) (by rw [own_z0, Nat.zero_add]; exact Nat.le_refl _) (us := _) rfl (own_cpl ([] : List Int32) rfl) N92 g_b90 (g := (mkF m 27 #[.val (.ref b), .val (.int (0 : Int32)), .val (.int n), .val (.int n), .val (.ref b90)] [(.int n), (.int (0 : Int32)), (.ref b90), (.int (0 : Int32)), (.ref b)])) rfl (by rw [hml]; rfl) rfl (hb hby d33_27) (by decide) (W := 0) (by show 2 * 0 + _ ≤ _; exact Nat.le_of_eq rfl) (by decide)
  replace Z0 := Nat.le_trans Z0 Kp93.1
  replace Vb := Vb.keep Kp93 (ninS ne_b_b90 nin0)
  replace KK := KK.trans Kp93 (allS (Or.inr sz_b90) all0)
  have Vn93 : Arv Z h93 b90 k90 .byte n (List.map Value.int (cs)) (.int (0 : Int32)) := (Arv.pad Vr93 (own_cpI ([] : List Int32) cs rfl rfl (by rw [own_clamp hn]; exact Nat.le_refl _)))
  refine own_of (U' := (T93.setTop (mkF m 30 #[.val (.ref b), .val (.int (0 : Int32)), .val (.int n), .val (.int n), .val (.ref b90)] []))) (st93) ?_
  refine own_aload X93 hx hby d33_30 rfl rfl ?_
  exact own_retA X93 hx hlk Bd.returns rfl rfl (hb hby d33_32) (by decide) (by decide) (by rw [e93]; exact ⟨b90, k90, rfl, N93, KK, sz_b90, Vn93⟩)
abbrev mN_22 : MethodName := ⟨"java/util/Arrays", "copyOfRange", "([BII)[B"⟩
theorem pd_14 : parseMethodDescriptor "([BII)[B" = some ⟨[(.array .byte), .int, .int], some (.array .byte)⟩ := by decide +kernel
theorem d32_0 : decode jdk_65_method_132_code 0 = .ok (.iload_n 1, 1) := by decide +kernel
theorem d32_1 : decode jdk_65_method_132_code 1 = .ok (.ifCond .ne 9, 3) := by decide +kernel
theorem d32_4 : decode jdk_65_method_132_code 4 = .ok (.iload_n 2, 1) := by decide +kernel
theorem d32_5 : decode jdk_65_method_132_code 5 = .ok (.aload_n 0, 1) := by decide +kernel
theorem d32_6 : decode jdk_65_method_132_code 6 = .ok (.arraylength, 1) := by decide +kernel
theorem d32_7 : decode jdk_65_method_132_code 7 = .ok (.if_icmp .eq 10, 3) := by decide +kernel
theorem d32_10 : decode jdk_65_method_132_code 10 = .ok (.aload_n 0, 1) := by decide +kernel
theorem d32_11 : decode jdk_65_method_132_code 11 = .ok (.iload_n 1, 1) := by decide +kernel
theorem d32_12 : decode jdk_65_method_132_code 12 = .ok (.iload_n 2, 1) := by decide +kernel
theorem d32_13 : decode jdk_65_method_132_code 13 = .ok (.invokestatic 339, 3) := by decide +kernel
theorem d32_16 : decode jdk_65_method_132_code 16 = .ok (.areturn, 1) := by decide +kernel
theorem d32_17 : decode jdk_65_method_132_code 17 = .ok (.aload_n 0, 1) := by decide +kernel
theorem d32_18 : decode jdk_65_method_132_code 18 = .ok (.invokevirtual 310, 3) := by decide +kernel
theorem d32_21 : decode jdk_65_method_132_code 21 = .ok (.checkcast 311, 3) := by decide +kernel
theorem d32_24 : decode jdk_65_method_132_code 24 = .ok (.areturn, 1) := by decide +kernel
theorem ef_cg (m : MethodId) (x0 : Addr) (x2 : Int32) : entryFrame m #[(.ref x0), (.int (0 : Int32)), (.int x2)] 3 = mkF m 0 #[.val (.ref x0), .val (.int (0 : Int32)), .val (.int x2)] [] := by first | (simp [entryFrame, mkF, argsToLocals, Value.category]; done) | rfl
set_option maxRecDepth 65536 in
set_option maxHeartbeats 40000000 in
theorem rmcg (l : Launch) (Z : State) (a0 : Array Value) (hw : ∀ d ∈ tables_1, d.before a0 Z = true) (ws : List Jvm.Cond) (b : Addr) (kb : ClassId) (z n : Int32) (cs : List Int32) (h0 : Heap) (n0 : Nat) (Z0 : n0 ≤ h0.size) (Eb : Exa Z h0 b "[B") (Vb : Arv Z h0 b kb .byte z (List.map Value.int cs) (.int (0 : Int32))) (hz : z = 16 ∨ z = 34) (hn : n.toInt = cs.length) (hle : (cs.length : Int) ≤ z.toInt) :
    MetFree l mN_22 (head1 (Jvm.Cond.code mN_22 jdk_65_method_132_code 3 (some (.array .byte)) :: ws) ({ frames := 2, cells := 1, slots := 34, locals := 34 } : Room)) (fun a U => a = #[(.ref b), (.int (0 : Int32)), (.int n)] ∧ Z.Warmed39 U.vm ∧ U.heap = h0) (fun _ _ _ _ _ => True) (fun _ U o U' => ∃ v L, o = .returned v ∧ (Qcr Z n cs h0 n0) v U'.heap L ∧ FrameEnd U o U' L ({ frames := 2, cells := 1, slots := 34, locals := 34 } : Room).cells ({ frames := 2, cells := 1, slots := 34, locals := 34 } : Room).slots) := by
  refine MetFree.of_bodySF (plainFor_of_name pn_3) hisR ?_
  intro p e s m args below meth c s₁ Bd hml0 hP hK
  obtain ⟨rfl, hZ, hh⟩ := hP
  have hx := Bd.exec
  have hby := Bd.bytes
  have hml : c.maxLocals = 3 := hml0
  have hown : s.vm.findClass "java/util/Arrays" = some m.cls := findClass_of_methodNamed Bd.named
  have hnm := (name_of_methodNamed Bd.named Bd.method).1
  have hlk := Bd.notSynchronized
  have X0 : Stand p l e ({ frames := 2, cells := 1, slots := 34, locals := 34 } : Room) s m #[(.ref b), (.int (0 : Int32)), (.int n)] below meth c s₁ [] 0 0 := Stand.of_body Bd
  have e0 : s₁.heap = h0 := by rw [← hh, Bd.state]; rfl
  have N0 := Fr.nil n0
  have KK := Keep.refl h0 []
  show own_Ends p e below s FrameEnd (Qcr Z n cs h0 n0) 1 34 (s₁.setTop (entryFrame m #[(.ref b), (.int (0 : Int32)), (.int n)] 3))
  refine own_of (U' := (s₁.setTop (mkF m 0 #[.val (.ref b), .val (.int (0 : Int32)), .val (.int n)] []))) (fun _ k => castTop (ef_cg m b n) k) ?_
  refine own_iloadN X0 hx hby d32_0 rfl ?_
  have hc1_94 : (0 : Int32) = (0 : Int32) := by decide
  refine own_ifNo X0 hx hby d32_1 ((if0 _ _).trans (teq hc1_94).2) ?_
  refine own_iloadN X0 hx hby d32_4 rfl ?_
  refine own_aloadN X0 hx hby d32_5 rfl rfl ?_
  obtain ⟨cl95, Ar95, qa95, Sa95, Na95, -, -⟩ := id Vb
  have al95 := X0.arraylength hx (by rw [e0]; exact Ar95.1) (State.isArrayOf_alike hZ.alike Ar95.2.1) (g := (mkF m 6 #[.val (.ref b), .val (.int (0 : Int32)), .val (.int n)] [(.ref b), (.int n)])) rfl rfl (hb hby d32_6)
  rw [len_of Sa95 Na95] at al95
  refine own_of (U' := (s₁.setTop (mkF m 7 #[.val (.ref b), .val (.int (0 : Int32)), .val (.int n)] [(.int z), (.int n)]))) (al95) ?_
  by_cases hc7_96 : n = z
  · skip
    refine own_icmpYes X0 hx hby 7 17 d32_7 (teq hc7_96).1 (by decide) (by decide) ?_
    refine own_aloadN X0 hx hby d32_17 rfl rfl ?_
    obtain ⟨T97, h97, X97, e97, E97, A97, B97, st97⟩ := own_cloneV X0 hx hZ (ad := "[B") hown (own_w hw 224 rfl) (own_w hw 225 rfl) (own_w hw 229 rfl) (own_w hw 227 rfl) (own_w hw 228 rfl) (own_w hw 230 rfl) e0 Vb Eb (g := (mkF m 18 #[.val (.ref b), .val (.int (0 : Int32)), .val (.int n)] [(.ref b)])) rfl (by rw [hml]; rfl) rfl (hb hby d32_18) (by decide) (W := 0) (cap := 34) (by show 2 * 0 + _ ≤ _; exact Nat.le_of_eq rfl) (by decide) (by rcases hz with q | q <;> rw [q] <;> decide) (by decide) (by decide)
    obtain ⟨b97, gz97⟩ : ∃ z, z = h0.size := ⟨_, rfl⟩
    rw [← gz97] at A97 B97 st97
    have g_b97 : n0 ≤ b97 := Nat.le_trans Z0 (Nat.le_of_eq gz97.symm)
    have sz_b97 : h0.size ≤ b97 := Nat.le_trans KK.1 (Nat.le_of_eq gz97.symm)
    have ne_b_b97 : b ≠ b97 := Nat.ne_of_lt (Nat.lt_of_lt_of_le Eb.lt (Nat.le_of_eq gz97.symm))
    replace Z0 := Nat.le_trans Z0 E97.1
    replace Eb := Eb.ext E97
    replace Vb := Vb.ext E97
    replace KK := KK.ext E97
    refine own_of (U' := (T97.setTop (mkF m 21 #[.val (.ref b), .val (.int (0 : Int32)), .val (.int n)] [(.ref b97)]))) (st97) ?_
    obtain ⟨T98, X98, e98, st98⟩ := castY X97 hx hZ hown (own_w hw 231 rfl) e97 (Ins.self B97) (g := (mkF m 21 #[.val (.ref b), .val (.int (0 : Int32)), .val (.int n)] [(.ref b97)])) rfl rfl (hb hby d32_21)
    refine own_of (U' := (T98.setTop (mkF m 24 #[.val (.ref b), .val (.int (0 : Int32)), .val (.int n)] [(.ref b97)]))) (st98) ?_
    exact own_retA X98 hx hlk Bd.returns rfl rfl (hb hby d32_24) (by decide) (by decide) (by rw [e98]; exact ⟨b97, kb, rfl, N0, KK, sz_b97, (by rw [hc7_96]; exact A97)⟩)
  · skip
    refine own_icmpNo X0 hx hby d32_7 (feq hc7_96).1 ?_
    refine own_aloadN X0 hx hby d32_10 rfl rfl ?_
    refine own_iloadN X0 hx hby d32_11 rfl ?_
    refine own_iloadN X0 hx hby d32_12 rfl ?_
    obtain ⟨_, _, ⟨T99, L99, k99, n99⟩, -, X99, ⟨Lc99, hQ99, l99, y99, z99⟩, st99⟩ := Jvm.LawKit.callS X0 hx (y := mN_21) hown (mvT hZ (own_w hw 179 rfl)) (mvT hZ (own_w hw 180 rfl)) (mvT hZ (own_w hw 177 rfl)) (mvT hZ (own_w hw 181 rfl)) (by decide) (backOf (W := 0) (rmcr l Z a0 hw [] b kb z n cs h0 n0 Z0 Vb hz hn hle) hZ (own_w hw 181 rfl) (own_w hw 177 rfl) (by decide) (by decide)) (g := (mkF m 13 #[.val (.ref b), .val (.int (0 : Int32)), .val (.int n)] [(.int n), (.int (0 : Int32)), (.ref b)])) rfl (by rw [hml]; rfl) (argsL := [(.ref b), (.int (0 : Int32)), (.int n)]) (rest := []) (lenOf pd_14 rfl) rfl (by show 2 * 0 + _ ≤ _; exact Nat.le_of_eq rfl) (hb hby d32_13) (fun _ _ => ⟨rfl, e0, (by decide : 0 + 1 ≤ _), (by decide : 0 + 34 ≤ _)⟩)
    dsimp only [Pt.U, Pt.locs, Pt.cells, Pt.slots] at X99 l99 y99 z99 st99 hQ99
    rw [l99, y99, z99] at X99
    obtain ⟨u99, ku99, rfl, Nq99, Kp99, gq99, Vq99⟩ := hQ99
    have g_u99 : n0 ≤ u99 := Nat.le_trans Z0 gq99
    have sz_u99 : h0.size ≤ u99 := Nat.le_trans KK.1 gq99
    have ne_b_u99 : b ≠ u99 := Nat.ne_of_lt (Nat.lt_of_lt_of_le Eb.lt gq99)
    have N99 := Fr.app N0 Nq99
    replace Z0 := Nat.le_trans Z0 Kp99.1
    replace Eb := Eb.keep Kp99
    replace Vb := Vb.keep Kp99 nin0
    replace KK := KK.trans Kp99 all0
    refine own_of (U' := (T99.setTop (mkF m 16 #[.val (.ref b), .val (.int (0 : Int32)), .val (.int n)] [(.ref u99)]))) (st99) ?_
    exact own_retA X99 hx hlk Bd.returns rfl rfl (hb hby d32_16) (by decide) (by decide) (⟨u99, ku99, rfl, N99, KK, sz_u99, Vq99⟩)
abbrev mN_23 : MethodName := ⟨"java/lang/String", "<init>", "(Ljava/lang/AbstractStringBuilder;Ljava/lang/Void;)V"⟩
theorem pd_15 : parseMethodDescriptor "()[B" = some ⟨[], some (.array .byte)⟩ := by decide +kernel
theorem d28_0 : decode jdk_42_method_150_code 0 = .ok (.aload_n 0, 1) := by decide +kernel
theorem d28_1 : decode jdk_42_method_150_code 1 = .ok (.invokespecial 1, 3) := by decide +kernel
theorem d28_4 : decode jdk_42_method_150_code 4 = .ok (.aload_n 1, 1) := by decide +kernel
theorem d28_5 : decode jdk_42_method_150_code 5 = .ok (.invokevirtual 552, 3) := by decide +kernel
theorem d28_8 : decode jdk_42_method_150_code 8 = .ok (.astore_n 3, 1) := by decide +kernel
theorem d28_9 : decode jdk_42_method_150_code 9 = .ok (.aload_n 1, 1) := by decide +kernel
theorem d28_10 : decode jdk_42_method_150_code 10 = .ok (.invokevirtual 549, 3) := by decide +kernel
theorem d28_13 : decode jdk_42_method_150_code 13 = .ok (.istore 4, 2) := by decide +kernel
theorem d28_15 : decode jdk_42_method_150_code 15 = .ok (.aload_n 1, 1) := by decide +kernel
theorem d28_16 : decode jdk_42_method_150_code 16 = .ok (.invokevirtual 1047, 3) := by decide +kernel
theorem d28_19 : decode jdk_42_method_150_code 19 = .ok (.ifCond .eq 22, 3) := by decide +kernel
theorem d28_22 : decode jdk_42_method_150_code 22 = .ok (.aload_n 0, 1) := by decide +kernel
theorem d28_23 : decode jdk_42_method_150_code 23 = .ok (.iconst 0, 1) := by decide +kernel
theorem d28_24 : decode jdk_42_method_150_code 24 = .ok (.putfield 15, 3) := by decide +kernel
theorem d28_27 : decode jdk_42_method_150_code 27 = .ok (.aload_n 0, 1) := by decide +kernel
theorem d28_28 : decode jdk_42_method_150_code 28 = .ok (.aload_n 3, 1) := by decide +kernel
theorem d28_29 : decode jdk_42_method_150_code 29 = .ok (.iconst 0, 1) := by decide +kernel
theorem d28_30 : decode jdk_42_method_150_code 30 = .ok (.iload 4, 2) := by decide +kernel
theorem d28_32 : decode jdk_42_method_150_code 32 = .ok (.invokestatic 54, 3) := by decide +kernel
theorem d28_35 : decode jdk_42_method_150_code 35 = .ok (.putfield 9, 3) := by decide +kernel
theorem d28_38 : decode jdk_42_method_150_code 38 = .ok (.goto 59, 3) := by decide +kernel
theorem d28_97 : decode jdk_42_method_150_code 97 = .ok (.return_, 1) := by decide +kernel
theorem ef_st (m : MethodId) (x0 : Addr) (x1 : Addr) : entryFrame m #[(.ref x0), (.ref x1), .null] 5 = mkF m 0 #[.val (.ref x0), .val (.ref x1), .val .null, .unset, .unset] [] := by first | (simp [entryFrame, mkF, argsToLocals, Value.category]; done) | rfl
def Qst (Z : State) (a3 : Addr) (n : Int32) (cs : List Int32) (h0 : Heap) (n0 : Nat) (v : Option Value) (h : Heap) (L : List Loc) : Prop := v = none ∧ Fr n0 L ∧ Keep h0 h [a3] ∧ ∃ (u : Addr) (ku : ClassId), h0.size ≤ u ∧ Fld Z h a3 "java/lang/String" "coder" "B" (.int (0 : Int32)) ∧ Fld Z h a3 "java/lang/String" "value" "[B" (.ref u) ∧ Arv Z h u ku .byte n (List.map Value.int cs) (.int (0 : Int32))
set_option maxRecDepth 65536 in
set_option maxHeartbeats 40000000 in
theorem rmst (l : Launch) (Z : State) (a0 : Array Value) (hw : ∀ d ∈ tables_1, d.before a0 Z = true) (ws : List Jvm.Cond) (a3 : Addr) (g1 : Int32) (a1 b : Addr) (kb : ClassId) (z n : Int32) (cs : List Int32) (h0 : Heap) (n0 : Nat) (Z0 : n0 ≤ h0.size) (E3 : Exa Z h0 a3 "java/lang/String") (Hc : Fld Z h0 a3 "java/lang/String" "coder" "B" (.int (0 : Int32))) (Hv : Fld Z h0 a3 "java/lang/String" "value" "[B" .null) (B1 : own_SB Z h0 a1 b kb z n cs) (SC : Sta Z h0 "java/lang/String" "COMPACT_STRINGS" "Z" (.int g1)) (hg1 : ¬ (g1 = (0 : Int32))) (g_a3 : n0 ≤ a3) (n31 : a3 ≠ a1) (n3b : a3 ≠ b) (neab : a1 ≠ b) :
    MetFree l mN_23 (head1 (Jvm.Cond.code mN_23 jdk_42_method_150_code 5 none :: ws) ({ frames := 3, cells := 1, slots := 34, locals := 49 } : Room)) (fun a U => a = #[(.ref a3), (.ref a1), .null] ∧ Z.Warmed39 U.vm ∧ U.heap = h0) (fun _ _ _ _ _ => True) (fun _ U o U' => ∃ v L, o = .returned v ∧ (Qst Z a3 n cs h0 n0) v U'.heap L ∧ FrameEnd U o U' L ({ frames := 3, cells := 1, slots := 34, locals := 49 } : Room).cells ({ frames := 3, cells := 1, slots := 34, locals := 49 } : Room).slots) := by
  refine MetFree.of_bodySF (plainFor_of_name pn_0) hisR ?_
  intro p e s m args below meth c s₁ Bd hml0 hP hK
  obtain ⟨rfl, hZ, hh⟩ := hP
  have hx := Bd.exec
  have hby := Bd.bytes
  have hml : c.maxLocals = 5 := hml0
  have hown : s.vm.findClass "java/lang/String" = some m.cls := findClass_of_methodNamed Bd.named
  have hnm := (name_of_methodNamed Bd.named Bd.method).1
  have hlk := Bd.notSynchronized
  have X0 : Stand p l e ({ frames := 3, cells := 1, slots := 34, locals := 49 } : Room) s m #[(.ref a3), (.ref a1), .null] below meth c s₁ [] 0 0 := Stand.of_body Bd
  have e0 : s₁.heap = h0 := by rw [← hh, Bd.state]; rfl
  have N0 := Fr.nil n0
  have KK := Keep.refl h0 [a3]
  show own_Ends p e below s FrameEnd (Qst Z a3 n cs h0 n0) 1 34 (s₁.setTop (entryFrame m #[(.ref a3), (.ref a1), .null] 5))
  refine own_of (U' := (s₁.setTop (mkF m 0 #[.val (.ref a3), .val (.ref a1), .val .null, .unset, .unset] []))) (fun _ k => castTop (ef_st m a3 a1) k) ?_
  obtain ⟨E1, Fv, Fc, Fn, Eb, Vb, hz, hn, hle⟩ := B1
  refine own_aloadN X0 hx hby d28_0 rfl rfl ?_
  obtain ⟨T100, X100, e100, st100⟩ := initO X0 hx hZ hown (own_w hw 15 rfl) (own_w hw 16 rfl) (own_w hw 17 rfl) e0 (g := (mkF m 1 #[.val (.ref a3), .val (.ref a1), .val .null, .unset, .unset] [(.ref a3)])) rfl (by rw [hml]; rfl) rfl (hb hby d28_1) (by decide) (W := 0) (by show 2 * 0 + _ ≤ _; exact Nat.le_of_eq rfl) (by decide)
  refine own_of (U' := (T100.setTop (mkF m 4 #[.val (.ref a3), .val (.ref a1), .val .null, .unset, .unset] []))) (st100) ?_
  refine own_aloadN X100 hx hby d28_4 rfl rfl ?_
  obtain ⟨cq101, kq101, q101a, q101b, q101c⟩ := isOf hZ e100 E1
  obtain ⟨_, _, ⟨T101, L101, k101, n101⟩, -, X101, ⟨Lc101, hQ101, l101, y101, z101⟩, st101⟩ := X100.virtualBack hx (y := mN_3) (z := mN_3) hown (mvT hZ (own_w hw 161 rfl)) (mvT hZ (own_w hw 162 rfl)) (notFace_of_selects (args := #[]) (mvT hZ (own_w hw 164 rfl))) (mvT hZ (own_w hw 164 rfl)) (mvT hZ (own_w hw 163 rfl)) (by decide) (backOf (W := 0) (rmgv l Z a0 hw [] a1 b h0 n0 Z0 Fv) hZ (own_w hw 165 rfl) (own_w hw 70 rfl) (by decide) (by decide)) q101a q101c (g := (mkF m 5 #[.val (.ref a3), .val (.ref a1), .val .null, .unset, .unset] [(.ref a1)])) rfl (by rw [hml]; rfl) (Steps.refl _) (argsL := []) (rest := []) (lenOf pd_15 rfl) rfl (by show 2 * 0 + _ ≤ _; exact Nat.le_of_eq rfl) (hb hby d28_5) (fun _ _ => ⟨rfl, e100, (by decide : 0 + 0 ≤ _), (by decide : 0 + 0 ≤ _)⟩)
  dsimp only [Pt.U, Pt.locs, Pt.cells, Pt.slots] at X101 l101 y101 z101 st101 hQ101
  rw [l101, y101, z101] at X101
  obtain ⟨rfl, Nq101, e101⟩ := hQ101
  have N101 := Fr.app N0 Nq101
  refine own_of (U' := (T101.setTop (mkF m 8 #[.val (.ref a3), .val (.ref a1), .val .null, .unset, .unset] [(.ref b)]))) (fun _ k => st101.trans k) ?_
  refine own_astoreN X101 hx hby d28_8 rfl (l' := #[.val (.ref a3), .val (.ref a1), .val .null, .val (.ref b), .unset]) rfl ?_
  refine own_aloadN X101 hx hby d28_9 rfl rfl ?_
  obtain ⟨cq102, kq102, q102a, q102b, q102c⟩ := isOf hZ e101 E1
  obtain ⟨_, _, ⟨T102, L102, k102, n102⟩, -, X102, ⟨Lc102, hQ102, l102, y102, z102⟩, st102⟩ := X101.virtualBack hx (y := mN_4) (z := mN_5) hown (mvT hZ (own_w hw 166 rfl)) (mvT hZ (own_w hw 167 rfl)) (own_notFace (y := mN_4) (w := mN_6) (args := #[]) (mvT hZ (own_w hw 103 rfl)) rfl) (mvT hZ (own_w hw 169 rfl)) (mvT hZ (own_w hw 170 rfl)) (by decide) (backOf (W := 0) (rmsl l Z a0 hw [] a1 n h0 n0 Z0 E1 Fn) hZ (own_w hw 171 rfl) (own_w hw 62 rfl) (by decide) (by decide)) q102a q102c (g := (mkF m 10 #[.val (.ref a3), .val (.ref a1), .val .null, .val (.ref b), .unset] [(.ref a1)])) rfl (by rw [hml]; rfl) (Steps.refl _) (argsL := []) (rest := []) (lenOf pd_1 rfl) rfl (by show 2 * 0 + _ ≤ _; exact Nat.le_of_eq rfl) (hb hby d28_10) (fun _ _ => ⟨rfl, e101, (by decide : 0 + 0 ≤ _), (by decide : 0 + 0 ≤ _)⟩)
  dsimp only [Pt.U, Pt.locs, Pt.cells, Pt.slots] at X102 l102 y102 z102 st102 hQ102
  rw [l102, y102, z102] at X102
  obtain ⟨rfl, Nq102, e102⟩ := hQ102
  have N102 := Fr.app N101 Nq102
  refine own_of (U' := (T102.setTop (mkF m 13 #[.val (.ref a3), .val (.ref a1), .val .null, .val (.ref b), .unset] [(.int n)]))) (fun _ k => st102.trans k) ?_
  refine own_istore X102 hx hby d28_13 (l' := #[.val (.ref a3), .val (.ref a1), .val .null, .val (.ref b), .val (.int n)]) rfl ?_
  refine own_aloadN X102 hx hby d28_15 rfl rfl ?_
  obtain ⟨cq103, kq103, q103a, q103b, q103c⟩ := isOf hZ e102 E1
  obtain ⟨_, _, ⟨T103, L103, k103, n103⟩, -, X103, ⟨Lc103, hQ103, l103, y103, z103⟩, st103⟩ := X102.virtualBack hx (y := mN_2) (z := mN_2) hown (mvT hZ (own_w hw 174 rfl)) (mvT hZ (own_w hw 140 rfl)) (notFace_of_selects (args := #[]) (mvT hZ (own_w hw 142 rfl))) (mvT hZ (own_w hw 142 rfl)) (mvT hZ (own_w hw 141 rfl)) (by decide) (backOf (W := 0) (rmab l Z a0 hw [] a1 g1 h0 n0 Z0 Fc SC hg1) hZ (own_w hw 143 rfl) (own_w hw 70 rfl) (by decide) (by decide)) q103a q103c (g := (mkF m 16 #[.val (.ref a3), .val (.ref a1), .val .null, .val (.ref b), .val (.int n)] [(.ref a1)])) rfl (by rw [hml]; rfl) (Steps.refl _) (argsL := []) (rest := []) (lenOf pd_10 rfl) rfl (by show 2 * 0 + _ ≤ _; exact Nat.le_of_eq rfl) (hb hby d28_16) (fun _ _ => ⟨rfl, e102, (by decide : 0 + 0 ≤ _), (by decide : 0 + 0 ≤ _)⟩)
  dsimp only [Pt.U, Pt.locs, Pt.cells, Pt.slots] at X103 l103 y103 z103 st103 hQ103
  rw [l103, y103, z103] at X103
  obtain ⟨rfl, Nq103, e103⟩ := hQ103
  have N103 := Fr.app N102 Nq103
  refine own_of (U' := (T103.setTop (mkF m 19 #[.val (.ref a3), .val (.ref a1), .val .null, .val (.ref b), .val (.int n)] [(.int (1 : Int32))]))) (fun _ k => st103.trans k) ?_
  have hc19_104 : ¬ ((1 : Int32) = (0 : Int32)) := by decide
  refine own_ifNo X103 hx hby d28_19 ((if0 _ _).trans (feq hc19_104).1) ?_
  refine own_aloadN X103 hx hby d28_22 rfl rfl ?_
  refine own_iconst X103 hx hby 0 d28_23 rfl ?_
  obtain ⟨T105, h105, X105, e105, W105, st105⟩ := putFN X103 hx hZ hown (own_w hw 30 rfl) Via.refl e103 Hc E3 (Or.inr ⟨(own_w hw 31 rfl), rfl, hnm⟩) (own_w hw 6 rfl) (ty := .byte) (v' := (.int (0 : Int32))) (by decide) rfl (by decide) (g := (mkF m 24 #[.val (.ref a3), .val (.ref a1), .val .null, .val (.ref b), .val (.int n)] [(.int (0 : Int32)), (.ref a3)])) rfl rfl (hb hby d28_24)
  replace Z0 := Nat.le_trans Z0 (Keep.of_wr W105).1
  replace E3 := E3.wr W105
  replace Hc := Hc.same W105
  replace Hv := Hv.other W105 (Or.inr (slot_ne (Or.inr (own_w hw 33 rfl)) (Or.inr (own_w hw 31 rfl)) (by decide) (t := (.array .byte)) (t' := .byte) (by decide) (by decide)))
  replace E1 := E1.wr W105
  replace Fv := Fv.other W105 (Or.inl (Ne.symm n31))
  replace Fc := Fc.other W105 (Or.inl (Ne.symm n31))
  replace Fn := Fn.other W105 (Or.inl (Ne.symm n31))
  replace Eb := Eb.wr W105
  replace Vb := Vb.other W105 (Ne.symm n3b)
  replace SC := SC.wr W105
  replace KK := KK.wr W105 (Or.inl (List.mem_of_getElem? (i := 0) rfl))
  have N105 := Fr.snoc X105 N103 g_a3
  refine own_of (U' := (T105.setTop (mkF m 27 #[.val (.ref a3), .val (.ref a1), .val .null, .val (.ref b), .val (.int n)] []))) (st105) ?_
  refine own_aloadN X105 hx hby d28_27 rfl rfl ?_
  refine own_aloadN X105 hx hby d28_28 rfl rfl ?_
  refine own_iconst X105 hx hby 0 d28_29 rfl ?_
  refine own_iload X105 hx hby d28_30 rfl ?_
  obtain ⟨_, _, ⟨T106, L106, k106, n106⟩, -, X106, ⟨Lc106, hQ106, l106, y106, z106⟩, st106⟩ := Jvm.LawKit.callS X105 hx (y := mN_22) hown (mvT hZ (own_w hw 175 rfl)) (mvT hZ (own_w hw 176 rfl)) (mvT hZ (own_w hw 177 rfl)) (mvT hZ (own_w hw 178 rfl)) (by decide) (backOf (W := 1) (rmcg l Z a0 hw [] b kb z n cs h105 n0 Z0 Eb Vb hz hn hle) hZ (own_w hw 178 rfl) (own_w hw 177 rfl) (by decide) (by decide)) (g := (mkF m 32 #[.val (.ref a3), .val (.ref a1), .val .null, .val (.ref b), .val (.int n)] [(.int n), (.int (0 : Int32)), (.ref b), (.ref a3)])) rfl (by rw [hml]; rfl) (argsL := [(.ref b), (.int (0 : Int32)), (.int n)]) (rest := [(.ref a3)]) (lenOf pd_14 rfl) rfl (by show 2 * 0 + _ ≤ _; exact Nat.le_of_eq rfl) (hb hby d28_32) (fun _ _ => ⟨rfl, e105, (by decide : 0 + 1 ≤ _), (by decide : 0 + 34 ≤ _)⟩)
  dsimp only [Pt.U, Pt.locs, Pt.cells, Pt.slots] at X106 l106 y106 z106 st106 hQ106
  rw [l106, y106, z106] at X106
  obtain ⟨u106, ku106, rfl, Nq106, Kp106, gq106, Vq106⟩ := hQ106
  have g_u106 : n0 ≤ u106 := Nat.le_trans Z0 gq106
  have sz_u106 : h0.size ≤ u106 := Nat.le_trans KK.1 gq106
  have ne_a3_u106 : a3 ≠ u106 := Nat.ne_of_lt (Nat.lt_of_lt_of_le E3.lt gq106)
  have ne_a1_u106 : a1 ≠ u106 := Nat.ne_of_lt (Nat.lt_of_lt_of_le E1.lt gq106)
  have ne_b_u106 : b ≠ u106 := Nat.ne_of_lt (Nat.lt_of_lt_of_le Eb.lt gq106)
  have N106 := Fr.app N105 Nq106
  replace Z0 := Nat.le_trans Z0 Kp106.1
  replace E3 := E3.keep Kp106
  replace Hc := Hc.keep Kp106 nin0
  replace Hv := Hv.keep Kp106 nin0
  replace E1 := E1.keep Kp106
  replace Fv := Fv.keep Kp106 nin0
  replace Fc := Fc.keep Kp106 nin0
  replace Fn := Fn.keep Kp106 nin0
  replace Eb := Eb.keep Kp106
  replace Vb := Vb.keep Kp106 nin0
  replace SC := own_staKeep SC Kp106 ns0
  replace KK := KK.trans Kp106 all0
  refine own_of (U' := (T106.setTop (mkF m 35 #[.val (.ref a3), .val (.ref a1), .val .null, .val (.ref b), .val (.int n)] [(.ref u106), (.ref a3)]))) (st106) ?_
  obtain ⟨T107, h107, X107, e107, W107, st107⟩ := putF X106 hx hZ hown (host := "") (Or.inl (own_w hw 32 rfl)) Via.refl rfl Hv E3 (Or.inr ⟨(own_w hw 33 rfl), rfl, hnm⟩) (own_w hw 6 rfl) (ty := (.array .byte)) (by decide) rfl rfl (g := (mkF m 35 #[.val (.ref a3), .val (.ref a1), .val .null, .val (.ref b), .val (.int n)] [(.ref u106), (.ref a3)])) rfl rfl (hb hby d28_35)
  replace Z0 := Nat.le_trans Z0 (Keep.of_wr W107).1
  replace E3 := E3.wr W107
  replace Hc := Hc.other W107 (Or.inr (slot_ne (Or.inr (own_w hw 31 rfl)) (Or.inr (own_w hw 33 rfl)) (by decide) (t := .byte) (t' := (.array .byte)) (by decide) (by decide)))
  replace Hv := Hv.same W107
  replace E1 := E1.wr W107
  replace Fv := Fv.other W107 (Or.inl (Ne.symm n31))
  replace Fc := Fc.other W107 (Or.inl (Ne.symm n31))
  replace Fn := Fn.other W107 (Or.inl (Ne.symm n31))
  replace Eb := Eb.wr W107
  replace Vb := Vb.other W107 (Ne.symm n3b)
  replace SC := SC.wr W107
  replace KK := KK.wr W107 (Or.inl (List.mem_of_getElem? (i := 0) rfl))
  replace Vq106 := Vq106.other W107 (Ne.symm ne_a3_u106)
  have N107 := Fr.snoc X107 N106 g_a3
  refine own_of (U' := (T107.setTop (mkF m 38 #[.val (.ref a3), .val (.ref a1), .val .null, .val (.ref b), .val (.int n)] []))) (st107) ?_
  refine own_goto X107 hx hby 38 97 d28_38 (by decide) (by decide) ?_
  exact own_ret0 X107 hx hlk Bd.returns (hb hby d28_97) (by decide) (by decide) (by rw [e107]; exact ⟨rfl, N107, KK, u106, ku106, sz_u106, Hc, Hv, Vq106⟩)
abbrev mN_24 : MethodName := ⟨"java/lang/String", "<init>", "(Ljava/lang/StringBuilder;)V"⟩
theorem pd_16 : parseMethodDescriptor "(Ljava/lang/AbstractStringBuilder;Ljava/lang/Void;)V" = some ⟨[(.object "java/lang/AbstractStringBuilder"), (.object "java/lang/Void")], none⟩ := by decide +kernel
theorem d27_0 : decode jdk_42_method_53_code 0 = .ok (.aload_n 0, 1) := by decide +kernel
theorem d27_1 : decode jdk_42_method_53_code 1 = .ok (.aload_n 1, 1) := by decide +kernel
theorem d27_2 : decode jdk_42_method_53_code 2 = .ok (.aconst_null, 1) := by decide +kernel
theorem d27_3 : decode jdk_42_method_53_code 3 = .ok (.invokespecial 489, 3) := by decide +kernel
theorem d27_6 : decode jdk_42_method_53_code 6 = .ok (.return_, 1) := by decide +kernel
theorem ef_su (m : MethodId) (x0 : Addr) (x1 : Addr) : entryFrame m #[(.ref x0), (.ref x1)] 2 = mkF m 0 #[.val (.ref x0), .val (.ref x1)] [] := by first | (simp [entryFrame, mkF, argsToLocals, Value.category]; done) | rfl
set_option maxRecDepth 65536 in
set_option maxHeartbeats 40000000 in
theorem rmsu (l : Launch) (Z : State) (a0 : Array Value) (hw : ∀ d ∈ tables_1, d.before a0 Z = true) (ws : List Jvm.Cond) (a3 : Addr) (g1 : Int32) (a1 b : Addr) (kb : ClassId) (z n : Int32) (cs : List Int32) (h0 : Heap) (n0 : Nat) (Z0 : n0 ≤ h0.size) (E3 : Exa Z h0 a3 "java/lang/String") (Hc : Fld Z h0 a3 "java/lang/String" "coder" "B" (.int (0 : Int32))) (Hv : Fld Z h0 a3 "java/lang/String" "value" "[B" .null) (B1 : own_SB Z h0 a1 b kb z n cs) (SC : Sta Z h0 "java/lang/String" "COMPACT_STRINGS" "Z" (.int g1)) (hg1 : ¬ (g1 = (0 : Int32))) (g_a3 : n0 ≤ a3) (n31 : a3 ≠ a1) (n3b : a3 ≠ b) (neab : a1 ≠ b) :
    MetFree l mN_24 (head1 (Jvm.Cond.code mN_24 jdk_42_method_53_code 2 none :: ws) ({ frames := 4, cells := 1, slots := 34, locals := 65 } : Room)) (fun a U => a = #[(.ref a3), (.ref a1)] ∧ Z.Warmed39 U.vm ∧ U.heap = h0) (fun _ _ _ _ _ => True) (fun _ U o U' => ∃ v L, o = .returned v ∧ (Qst Z a3 n cs h0 n0) v U'.heap L ∧ FrameEnd U o U' L ({ frames := 4, cells := 1, slots := 34, locals := 65 } : Room).cells ({ frames := 4, cells := 1, slots := 34, locals := 65 } : Room).slots) := by
  refine MetFree.of_bodySF (plainFor_of_name pn_0) hisR ?_
  intro p e s m args below meth c s₁ Bd hml0 hP hK
  obtain ⟨rfl, hZ, hh⟩ := hP
  have hx := Bd.exec
  have hby := Bd.bytes
  have hml : c.maxLocals = 2 := hml0
  have hown : s.vm.findClass "java/lang/String" = some m.cls := findClass_of_methodNamed Bd.named
  have hnm := (name_of_methodNamed Bd.named Bd.method).1
  have hlk := Bd.notSynchronized
  have X0 : Stand p l e ({ frames := 4, cells := 1, slots := 34, locals := 65 } : Room) s m #[(.ref a3), (.ref a1)] below meth c s₁ [] 0 0 := Stand.of_body Bd
  have e0 : s₁.heap = h0 := by rw [← hh, Bd.state]; rfl
  have N0 := Fr.nil n0
  have KK := Keep.refl h0 [a3]
  show own_Ends p e below s FrameEnd (Qst Z a3 n cs h0 n0) 1 34 (s₁.setTop (entryFrame m #[(.ref a3), (.ref a1)] 2))
  refine own_of (U' := (s₁.setTop (mkF m 0 #[.val (.ref a3), .val (.ref a1)] []))) (fun _ k => castTop (ef_su m a3 a1) k) ?_
  obtain ⟨E1, Fv, Fc, Fn, Eb, Vb, hz, hn, hle⟩ := B1
  refine own_aloadN X0 hx hby d27_0 rfl rfl ?_
  refine own_aloadN X0 hx hby d27_1 rfl rfl ?_
  refine own_aconstNull X0 hx hby d27_2 ?_
  obtain ⟨_, _, ⟨T108, L108, k108, n108⟩, -, X108, ⟨Lc108, hQ108, l108, y108, z108⟩, st108⟩ := X0.specialBack hx (y := mN_23) rfl hown (mvT hZ (own_w hw 158 rfl)) (mvT hZ (own_w hw 159 rfl)) (mvT hZ (own_w hw 160 rfl)) (by decide) (backOf (W := 0) (rmst l Z a0 hw [] a3 g1 a1 b kb z n cs h0 n0 Z0 E3 Hc Hv ⟨E1, Fv, Fc, Fn, Eb, Vb, hz, hn, hle⟩ SC hg1 g_a3 n31 n3b neab) hZ (own_w hw 160 rfl) (own_w hw 7 rfl) (by decide) (by decide)) (g := (mkF m 3 #[.val (.ref a3), .val (.ref a1)] [.null, (.ref a1), (.ref a3)])) rfl (by rw [hml]; rfl) (Steps.refl _) (a := a3) (argsL := [(.ref a1), .null]) (rest := []) (lenOf pd_16 rfl) rfl (by show 2 * 0 + _ ≤ _; exact Nat.le_of_eq rfl) (hb hby d27_3) (fun _ _ => ⟨rfl, e0, (by decide : 0 + 1 ≤ _), (by decide : 0 + 34 ≤ _)⟩)
  dsimp only [Pt.U, Pt.locs, Pt.cells, Pt.slots] at X108 l108 y108 z108 st108 hQ108
  rw [l108, y108, z108] at X108
  obtain ⟨rfl, Nq108, Kp108, u108, ku108, gq108, Cq108, Fq108, Vq108⟩ := hQ108
  have g_u108 : n0 ≤ u108 := Nat.le_trans Z0 gq108
  have sz_u108 : h0.size ≤ u108 := Nat.le_trans KK.1 gq108
  have ne_a3_u108 : a3 ≠ u108 := Nat.ne_of_lt (Nat.lt_of_lt_of_le E3.lt gq108)
  have ne_a1_u108 : a1 ≠ u108 := Nat.ne_of_lt (Nat.lt_of_lt_of_le E1.lt gq108)
  have ne_b_u108 : b ≠ u108 := Nat.ne_of_lt (Nat.lt_of_lt_of_le Eb.lt gq108)
  have N108 := Fr.app N0 Nq108
  have nst_a3 := E3.nostat
  replace Z0 := Nat.le_trans Z0 Kp108.1
  replace E3 := E3.keep Kp108
  replace E1 := E1.keep Kp108
  replace Fv := Fv.keep Kp108 (ninS (Ne.symm n31) nin0)
  replace Fc := Fc.keep Kp108 (ninS (Ne.symm n31) nin0)
  replace Fn := Fn.keep Kp108 (ninS (Ne.symm n31) nin0)
  replace Eb := Eb.keep Kp108
  replace Vb := Vb.keep Kp108 (ninS (Ne.symm n3b) nin0)
  replace SC := own_staKeep SC Kp108 (nsS nst_a3 ns0)
  replace KK := KK.trans Kp108 (allS (Or.inl (List.mem_of_getElem? (i := 0) rfl)) all0)
  refine own_of (U' := (T108.setTop (mkF m 6 #[.val (.ref a3), .val (.ref a1)] []))) (fun _ k => st108.trans k) ?_
  exact own_ret0 X108 hx hlk Bd.returns (hb hby d27_6) (by decide) (by decide) (⟨rfl, N108, KK, u108, ku108, sz_u108, Cq108, Fq108, Vq108⟩)
abbrev mN_25 : MethodName := ⟨"java/lang/StringBuilder", "toString", "()Ljava/lang/String;"⟩
theorem pd_17 : parseMethodDescriptor "(Ljava/lang/StringBuilder;)V" = some ⟨[(.object "java/lang/StringBuilder")], none⟩ := by decide +kernel
theorem d26_0 : decode jdk_67_method_42_code 0 = .ok (.new 18, 3) := by decide +kernel
theorem d26_3 : decode jdk_67_method_42_code 3 = .ok (.dup, 1) := by decide +kernel
theorem d26_4 : decode jdk_67_method_42_code 4 = .ok (.aload_n 0, 1) := by decide +kernel
theorem d26_5 : decode jdk_67_method_42_code 5 = .ok (.invokespecial 137, 3) := by decide +kernel
theorem d26_8 : decode jdk_67_method_42_code 8 = .ok (.areturn, 1) := by decide +kernel
theorem ef_ts (m : MethodId) (x0 : Addr) : entryFrame m #[(.ref x0)] 1 = mkF m 0 #[.val (.ref x0)] [] := by first | (simp [entryFrame, mkF, argsToLocals, Value.category]; done) | rfl
def Qts (Z : State) (n : Int32) (cs : List Int32) (h0 : Heap) (n0 : Nat) (v : Option Value) (h : Heap) (L : List Loc) : Prop := ∃ (a3 u : Addr) (ku : ClassId), v = some (.ref a3) ∧ Fr n0 L ∧ Keep h0 h [] ∧ h0.size ≤ a3 ∧ h0.size ≤ u ∧ Exa Z h a3 "java/lang/String" ∧ Fld Z h a3 "java/lang/String" "coder" "B" (.int (0 : Int32)) ∧ Fld Z h a3 "java/lang/String" "value" "[B" (.ref u) ∧ Arv Z h u ku .byte n (List.map Value.int cs) (.int (0 : Int32))
set_option maxRecDepth 65536 in
set_option maxHeartbeats 40000000 in
theorem rmts (l : Launch) (Z : State) (a0 : Array Value) (hw : ∀ d ∈ tables_1, d.before a0 Z = true) (ws : List Jvm.Cond) (g1 : Int32) (a1 b : Addr) (kb : ClassId) (z n : Int32) (cs : List Int32) (h0 : Heap) (n0 : Nat) (Z0 : n0 ≤ h0.size) (B1 : own_SB Z h0 a1 b kb z n cs) (SC : Sta Z h0 "java/lang/String" "COMPACT_STRINGS" "Z" (.int g1)) (hg1 : ¬ (g1 = (0 : Int32))) (neab : a1 ≠ b) :
    MetFree l mN_25 (head1 (Jvm.Cond.code mN_25 jdk_67_method_42_code 1 (some (.object "java/lang/String")) :: ws) ({ frames := 5, cells := 2, slots := 38, locals := 79 } : Room)) (fun a U => a = #[(.ref a1)] ∧ Z.Warmed39 U.vm ∧ U.heap = h0) (fun _ _ _ _ _ => True) (fun _ U o U' => ∃ v L, o = .returned v ∧ (Qts Z n cs h0 n0) v U'.heap L ∧ FrameEnd U o U' L ({ frames := 5, cells := 2, slots := 38, locals := 79 } : Room).cells ({ frames := 5, cells := 2, slots := 38, locals := 79 } : Room).slots) := by
  refine MetFree.of_bodySF (plainFor_of_name pn_2) hisR ?_
  intro p e s m args below meth c s₁ Bd hml0 hP hK
  obtain ⟨rfl, hZ, hh⟩ := hP
  have hx := Bd.exec
  have hby := Bd.bytes
  have hml : c.maxLocals = 1 := hml0
  have hown : s.vm.findClass "java/lang/StringBuilder" = some m.cls := findClass_of_methodNamed Bd.named
  have hnm := (name_of_methodNamed Bd.named Bd.method).1
  have hlk := Bd.notSynchronized
  have X0 : Stand p l e ({ frames := 5, cells := 2, slots := 38, locals := 79 } : Room) s m #[(.ref a1)] below meth c s₁ [] 0 0 := Stand.of_body Bd
  have e0 : s₁.heap = h0 := by rw [← hh, Bd.state]; rfl
  have N0 := Fr.nil n0
  have KK := Keep.refl h0 []
  show own_Ends p e below s FrameEnd (Qts Z n cs h0 n0) 2 38 (s₁.setTop (entryFrame m #[(.ref a1)] 1))
  refine own_of (U' := (s₁.setTop (mkF m 0 #[.val (.ref a1)] []))) (fun _ k => castTop (ef_ts m a1) k) ?_
  obtain ⟨E1, Fv, Fc, Fn, Eb, Vb, hz, hn, hle⟩ := B1
  obtain ⟨T109, h109, X109, e109, E109, A109, D109, -, st109⟩ := newO X0 hx hZ hown (own_w hw 154 rfl) (own_w hw 6 rfl) (own_w hw 7 rfl) e0 (g := (mkF m 0 #[.val (.ref a1)] [])) rfl (hb hby d26_0) (by decide) (by decide)
  obtain ⟨b109, gz109⟩ : ∃ z, z = h0.size := ⟨_, rfl⟩
  rw [← gz109] at A109 D109 st109
  have g_b109 : n0 ≤ b109 := Nat.le_trans Z0 (Nat.le_of_eq gz109.symm)
  have sz_b109 : h0.size ≤ b109 := Nat.le_trans KK.1 (Nat.le_of_eq gz109.symm)
  have ne_a1_b109 : a1 ≠ b109 := Nat.ne_of_lt (Nat.lt_of_lt_of_le E1.lt (Nat.le_of_eq gz109.symm))
  have ne_b_b109 : b ≠ b109 := Nat.ne_of_lt (Nat.lt_of_lt_of_le Eb.lt (Nat.le_of_eq gz109.symm))
  replace Z0 := Nat.le_trans Z0 E109.1
  replace E1 := E1.ext E109
  replace Fv := Fv.ext E109
  replace Fc := Fc.ext E109
  replace Fn := Fn.ext E109
  replace Eb := Eb.ext E109
  replace Vb := Vb.ext E109
  replace SC := SC.ext E109
  replace KK := KK.ext E109
  have F109_coder : Fld Z h109 b109 "java/lang/String" "coder" "B" (.int (0 : Int32)) := D109 (Or.inr (own_w hw 31 rfl)) (ty := .byte) (by decide)
  have F109_value : Fld Z h109 b109 "java/lang/String" "value" "[B" .null := D109 (Or.inr (own_w hw 33 rfl)) (ty := (.array .byte)) (by decide)
  refine own_of (U' := (T109.setTop (mkF m 3 #[.val (.ref a1)] [(.ref b109)]))) (st109) ?_
  refine own_dup X109 hx hby d26_3 rfl ?_
  refine own_aloadN X109 hx hby d26_4 rfl rfl ?_
  obtain ⟨_, _, ⟨T110, L110, k110, n110⟩, -, X110, ⟨Lc110, hQ110, l110, y110, z110⟩, st110⟩ := X109.specialBack hx (y := mN_24) rfl hown (mvT hZ (own_w hw 155 rfl)) (mvT hZ (own_w hw 156 rfl)) (mvT hZ (own_w hw 157 rfl)) (by decide) (backOf (W := 1) (rmsu l Z a0 hw [] b109 g1 a1 b kb z n cs h109 n0 Z0 A109 F109_coder F109_value ⟨E1, Fv, Fc, Fn, Eb, Vb, hz, hn, hle⟩ SC hg1 g_b109 (Ne.symm ne_a1_b109) (Ne.symm ne_b_b109) neab) hZ (own_w hw 157 rfl) (own_w hw 7 rfl) (by decide) (by decide)) (g := (mkF m 5 #[.val (.ref a1)] [(.ref a1), (.ref b109), (.ref b109)])) rfl (by rw [hml]; rfl) (Steps.refl _) (a := b109) (argsL := [(.ref a1)]) (rest := [(.ref b109)]) (lenOf pd_17 rfl) rfl (by show 2 * 0 + _ ≤ _; exact Nat.le_of_eq rfl) (hb hby d26_5) (fun _ _ => ⟨rfl, e109, (by decide : 1 + 1 ≤ _), (by decide : 4 + 34 ≤ _)⟩)
  dsimp only [Pt.U, Pt.locs, Pt.cells, Pt.slots] at X110 l110 y110 z110 st110 hQ110
  rw [l110, y110, z110] at X110
  obtain ⟨rfl, Nq110, Kp110, u110, ku110, gq110, Cq110, Fq110, Vq110⟩ := hQ110
  have g_u110 : n0 ≤ u110 := Nat.le_trans Z0 gq110
  have sz_u110 : h0.size ≤ u110 := Nat.le_trans KK.1 gq110
  have ne_a1_u110 : a1 ≠ u110 := Nat.ne_of_lt (Nat.lt_of_lt_of_le E1.lt gq110)
  have ne_b_u110 : b ≠ u110 := Nat.ne_of_lt (Nat.lt_of_lt_of_le Eb.lt gq110)
  have ne_b109_u110 : b109 ≠ u110 := Nat.ne_of_lt (Nat.lt_of_lt_of_le A109.lt gq110)
  have N110 := Fr.app N0 Nq110
  have nst_b109 := A109.nostat
  replace Z0 := Nat.le_trans Z0 Kp110.1
  replace E1 := E1.keep Kp110
  replace Fv := Fv.keep Kp110 (ninS ne_a1_b109 nin0)
  replace Fc := Fc.keep Kp110 (ninS ne_a1_b109 nin0)
  replace Fn := Fn.keep Kp110 (ninS ne_a1_b109 nin0)
  replace Eb := Eb.keep Kp110
  replace Vb := Vb.keep Kp110 (ninS ne_b_b109 nin0)
  replace SC := own_staKeep SC Kp110 (nsS nst_b109 ns0)
  replace KK := KK.trans Kp110 (allS (Or.inr sz_b109) all0)
  replace A109 := A109.keep Kp110
  refine own_of (U' := (T110.setTop (mkF m 8 #[.val (.ref a1)] [(.ref b109)]))) (fun _ k => st110.trans k) ?_
  exact own_retA X110 hx hlk Bd.returns rfl rfl (hb hby d26_8) (by decide) (by decide) (⟨b109, u110, ku110, rfl, N110, KK, sz_b109, sz_u110, A109, Cq110, Fq110, Vq110⟩)
abbrev mN_26 : MethodName := ⟨"java/lang/Integer", "stringSize", "(I)I"⟩
theorem d23_0 : decode jdk_33_method_13_code 0 = .ok (.iconst 1, 1) := by decide +kernel
theorem d23_1 : decode jdk_33_method_13_code 1 = .ok (.istore_n 1, 1) := by decide +kernel
theorem d23_2 : decode jdk_33_method_13_code 2 = .ok (.iload_n 0, 1) := by decide +kernel
theorem d23_3 : decode jdk_33_method_13_code 3 = .ok (.ifCond .lt 8, 3) := by decide +kernel
theorem d23_11 : decode jdk_33_method_13_code 11 = .ok (.bipush (-10), 2) := by decide +kernel
theorem d23_13 : decode jdk_33_method_13_code 13 = .ok (.istore_n 2, 1) := by decide +kernel
theorem d23_14 : decode jdk_33_method_13_code 14 = .ok (.iconst 1, 1) := by decide +kernel
theorem d23_15 : decode jdk_33_method_13_code 15 = .ok (.istore_n 3, 1) := by decide +kernel
theorem d23_16 : decode jdk_33_method_13_code 16 = .ok (.iload_n 3, 1) := by decide +kernel
theorem d23_17 : decode jdk_33_method_13_code 17 = .ok (.bipush 10, 2) := by decide +kernel
theorem d23_19 : decode jdk_33_method_13_code 19 = .ok (.if_icmp .ge 23, 3) := by decide +kernel
theorem d23_22 : decode jdk_33_method_13_code 22 = .ok (.iload_n 0, 1) := by decide +kernel
theorem d23_23 : decode jdk_33_method_13_code 23 = .ok (.iload_n 2, 1) := by decide +kernel
theorem d23_24 : decode jdk_33_method_13_code 24 = .ok (.if_icmp .le 7, 3) := by decide +kernel
theorem d23_27 : decode jdk_33_method_13_code 27 = .ok (.iload_n 3, 1) := by decide +kernel
theorem d23_28 : decode jdk_33_method_13_code 28 = .ok (.iload_n 1, 1) := by decide +kernel
theorem d23_29 : decode jdk_33_method_13_code 29 = .ok (.iadd, 1) := by decide +kernel
theorem d23_30 : decode jdk_33_method_13_code 30 = .ok (.ireturn, 1) := by decide +kernel
theorem d23_31 : decode jdk_33_method_13_code 31 = .ok (.bipush 10, 2) := by decide +kernel
theorem d23_33 : decode jdk_33_method_13_code 33 = .ok (.iload_n 2, 1) := by decide +kernel
theorem d23_34 : decode jdk_33_method_13_code 34 = .ok (.imul, 1) := by decide +kernel
theorem d23_35 : decode jdk_33_method_13_code 35 = .ok (.istore_n 2, 1) := by decide +kernel
theorem d23_36 : decode jdk_33_method_13_code 36 = .ok (.iinc 3 1, 3) := by decide +kernel
theorem d23_39 : decode jdk_33_method_13_code 39 = .ok (.goto (-23), 3) := by decide +kernel
theorem d23_42 : decode jdk_33_method_13_code 42 = .ok (.bipush 10, 2) := by decide +kernel
theorem d23_44 : decode jdk_33_method_13_code 44 = .ok (.iload_n 1, 1) := by decide +kernel
theorem d23_45 : decode jdk_33_method_13_code 45 = .ok (.iadd, 1) := by decide +kernel
theorem d23_46 : decode jdk_33_method_13_code 46 = .ok (.ireturn, 1) := by decide +kernel
theorem pn_5 : plainName "java/lang/Integer" = true := by first | (simp [plainName, overriddenIn]; done) | decide +kernel
theorem ef_ss1 (m : MethodId) (x0 : Int32) : entryFrame m #[(.int x0)] 4 = mkF m 0 #[.val (.int x0), .unset, .unset, .unset] [] := by first | (simp [entryFrame, mkF, argsToLocals, Value.category]; done) | rfl
def Qss (x : Int32) (h0 : Heap) (n0 : Nat) (v : Option Value) (h : Heap) (L : List Loc) : Prop := ∃ r : Int32, v = some (.int r) ∧ Fr n0 L ∧ h = h0 ∧ r.toInt = (own_num x).length
set_option maxRecDepth 65536 in
set_option maxHeartbeats 40000000 in
theorem rmss1 (l : Launch) (Z : State) (a0 : Array Value) (hw : ∀ d ∈ tables_1, d.before a0 Z = true) (ws : List Jvm.Cond) (p1 : Int32) (h0 : Heap) (n0 : Nat) (Z0 : n0 ≤ h0.size) (h1 : p1 < (0 : Int32)) :
    MetFree l mN_26 (head1 (Jvm.Cond.code mN_26 jdk_33_method_13_code 4 (some .int) :: ws) ({ frames := 0, cells := 0, slots := 0, locals := 0 } : Room)) (fun a U => a = #[(.int p1)] ∧ Z.Warmed39 U.vm ∧ U.heap = h0) (fun _ _ _ _ _ => True) (fun _ U o U' => ∃ v L, o = .returned v ∧ (Qss p1 h0 n0) v U'.heap L ∧ FrameEnd U o U' L ({ frames := 0, cells := 0, slots := 0, locals := 0 } : Room).cells ({ frames := 0, cells := 0, slots := 0, locals := 0 } : Room).slots) := by
  refine MetFree.of_bodySF (plainFor_of_name pn_5) hisR ?_
  intro p e s m args below meth c s₁ Bd hml0 hP hK
  obtain ⟨rfl, hZ, hh⟩ := hP
  have hx := Bd.exec
  have hby := Bd.bytes
  have hml : c.maxLocals = 4 := hml0
  have hown : s.vm.findClass "java/lang/Integer" = some m.cls := findClass_of_methodNamed Bd.named
  have hnm := (name_of_methodNamed Bd.named Bd.method).1
  have hlk := Bd.notSynchronized
  have X0 : Stand p l e ({ frames := 0, cells := 0, slots := 0, locals := 0 } : Room) s m #[(.int p1)] below meth c s₁ [] 0 0 := Stand.of_body Bd
  have e0 : s₁.heap = h0 := by rw [← hh, Bd.state]; rfl
  have N0 := Fr.nil n0
  show own_Ends p e below s FrameEnd (Qss p1 h0 n0) 0 0 (s₁.setTop (entryFrame m #[(.int p1)] 4))
  refine own_of (U' := (s₁.setTop (mkF m 0 #[.val (.int p1), .unset, .unset, .unset] []))) (fun _ k => castTop (ef_ss1 m p1) k) ?_
  refine own_iconst X0 hx hby 1 d23_0 rfl ?_
  refine own_istoreN X0 hx hby d23_1 (l' := #[.val (.int p1), .val (.int (1 : Int32)), .unset, .unset]) rfl ?_
  refine own_iloadN X0 hx hby d23_2 rfl ?_
  have hc3_111 : p1 < (0 : Int32) := h1
  refine own_ifYes X0 hx hby 3 11 d23_3 ((if0 _ _).trans (tlt hc3_111).1) (by decide) (by decide) ?_
  refine own_bipush X0 hx hby (-10) d23_11 rfl ?_
  refine own_istoreN X0 hx hby d23_13 (l' := #[.val (.int p1), .val (.int (1 : Int32)), .val (.int (-10 : Int32)), .unset]) rfl ?_
  refine own_iconst X0 hx hby 1 d23_14 rfl ?_
  refine own_istoreN X0 hx hby d23_15 (l' := #[.val (.int p1), .val (.int (1 : Int32)), .val (.int (-10 : Int32)), .val (.int (1 : Int32))]) rfl ?_
  refine own_iloadN X0 hx hby d23_16 rfl ?_
  refine own_bipush X0 hx hby 10 d23_17 rfl ?_
  have hc19_112 : (1 : Int32) < (10 : Int32) := by decide
  refine own_icmpNo X0 hx hby d23_19 (tlt hc19_112).2.1 ?_
  refine own_iloadN X0 hx hby d23_22 rfl ?_
  refine own_iloadN X0 hx hby d23_23 rfl ?_
  by_cases hc24_113 : (-10 : Int32) < p1
  · skip
    refine own_icmpNo X0 hx hby d23_24 (tlt hc24_113).2.2.2 ?_
    refine own_iloadN X0 hx hby d23_27 rfl ?_
    refine own_iloadN X0 hx hby d23_28 rfl ?_
    refine own_iadd X0 hx hby d23_29 ?_
    refine own_eq (U' := (s₁.setTop (mkF m 30 #[.val (.int p1), .val (.int (1 : Int32)), .val (.int (-10 : Int32)), .val (.int (1 : Int32))] [(.int (2 : Int32))]))) (by rw [show ((1 : Int32) + (1 : Int32)) = (2 : Int32) by decide]) ?_
    exact own_retI X0 hx hlk Bd.returns (hb hby d23_30) (by decide) (by decide) (⟨(2 : Int32), rfl, N0, e0, by have e1 := own_dlen p1.toInt.natAbs (by have := rng32 p1; omega); have e2 := own_sgl p1; have e3 : (own_num p1).length = (own_sg p1).length + (own_dec p1.toInt.natAbs).length := (by unfold own_num; rw [List.length_append]); rw [if_pos h1] at e2; have e0 := h1; rw [own_ltI, own_i0] at e0; have q0 := hc24_113; rw [own_ltI, show ((-10 : Int32)).toInt = -10 by decide] at q0; repeat (first | rw [if_neg (by omega)] at e1 | rw [if_pos (by omega)] at e1); rw [e3]; rw [show ((2 : Int32) : Int32).toInt = 2 by decide]; omega⟩)
  · skip
    refine own_icmpYes X0 hx hby 24 31 d23_24 (flt hc24_113).2.2.2 (by decide) (by decide) ?_
    refine own_bipush X0 hx hby 10 d23_31 rfl ?_
    refine own_iloadN X0 hx hby d23_33 rfl ?_
    refine own_imul X0 hx hby d23_34 ?_
    refine own_eq (U' := (s₁.setTop (mkF m 35 #[.val (.int p1), .val (.int (1 : Int32)), .val (.int (-10 : Int32)), .val (.int (1 : Int32))] [(.int (-100 : Int32))]))) (by rw [show ((10 : Int32) * (-10 : Int32)) = (-100 : Int32) by decide]) ?_
    refine own_istoreN X0 hx hby d23_35 (l' := #[.val (.int p1), .val (.int (1 : Int32)), .val (.int (-100 : Int32)), .val (.int (1 : Int32))]) rfl ?_
    refine own_iinc X0 hx hby d23_36 rfl (l' := #[.val (.int p1), .val (.int (1 : Int32)), .val (.int (-100 : Int32)), .val (.int ((1 : Int32) + (1 : Int32)))]) rfl ?_
    refine own_eq (U' := (s₁.setTop (mkF m 39 #[.val (.int p1), .val (.int (1 : Int32)), .val (.int (-100 : Int32)), .val (.int (2 : Int32))] []))) (by rw [show ((1 : Int32) + (1 : Int32)) = (2 : Int32) by decide]) ?_
    refine own_goto X0 hx hby 39 16 d23_39 (by decide) (by decide) ?_
    refine own_iloadN X0 hx hby d23_16 rfl ?_
    refine own_bipush X0 hx hby 10 d23_17 rfl ?_
    have hc19_114 : (2 : Int32) < (10 : Int32) := by decide
    refine own_icmpNo X0 hx hby d23_19 (tlt hc19_114).2.1 ?_
    refine own_iloadN X0 hx hby d23_22 rfl ?_
    refine own_iloadN X0 hx hby d23_23 rfl ?_
    by_cases hc24_115 : (-100 : Int32) < p1
    · skip
      refine own_icmpNo X0 hx hby d23_24 (tlt hc24_115).2.2.2 ?_
      refine own_iloadN X0 hx hby d23_27 rfl ?_
      refine own_iloadN X0 hx hby d23_28 rfl ?_
      refine own_iadd X0 hx hby d23_29 ?_
      refine own_eq (U' := (s₁.setTop (mkF m 30 #[.val (.int p1), .val (.int (1 : Int32)), .val (.int (-100 : Int32)), .val (.int (2 : Int32))] [(.int (3 : Int32))]))) (by rw [show ((2 : Int32) + (1 : Int32)) = (3 : Int32) by decide]) ?_
      exact own_retI X0 hx hlk Bd.returns (hb hby d23_30) (by decide) (by decide) (⟨(3 : Int32), rfl, N0, e0, by have e1 := own_dlen p1.toInt.natAbs (by have := rng32 p1; omega); have e2 := own_sgl p1; have e3 : (own_num p1).length = (own_sg p1).length + (own_dec p1.toInt.natAbs).length := (by unfold own_num; rw [List.length_append]); rw [if_pos h1] at e2; have e0 := h1; rw [own_ltI, own_i0] at e0; have q0 := hc24_113; rw [own_ltI, show ((-10 : Int32)).toInt = -10 by decide] at q0; have q1 := hc24_115; rw [own_ltI, show ((-100 : Int32)).toInt = -100 by decide] at q1; repeat (first | rw [if_neg (by omega)] at e1 | rw [if_pos (by omega)] at e1); rw [e3]; rw [show ((3 : Int32) : Int32).toInt = 3 by decide]; omega⟩)
    · skip
      refine own_icmpYes X0 hx hby 24 31 d23_24 (flt hc24_115).2.2.2 (by decide) (by decide) ?_
      refine own_bipush X0 hx hby 10 d23_31 rfl ?_
      refine own_iloadN X0 hx hby d23_33 rfl ?_
      refine own_imul X0 hx hby d23_34 ?_
      refine own_eq (U' := (s₁.setTop (mkF m 35 #[.val (.int p1), .val (.int (1 : Int32)), .val (.int (-100 : Int32)), .val (.int (2 : Int32))] [(.int (-1000 : Int32))]))) (by rw [show ((10 : Int32) * (-100 : Int32)) = (-1000 : Int32) by decide]) ?_
      refine own_istoreN X0 hx hby d23_35 (l' := #[.val (.int p1), .val (.int (1 : Int32)), .val (.int (-1000 : Int32)), .val (.int (2 : Int32))]) rfl ?_
      refine own_iinc X0 hx hby d23_36 rfl (l' := #[.val (.int p1), .val (.int (1 : Int32)), .val (.int (-1000 : Int32)), .val (.int ((2 : Int32) + (1 : Int32)))]) rfl ?_
      refine own_eq (U' := (s₁.setTop (mkF m 39 #[.val (.int p1), .val (.int (1 : Int32)), .val (.int (-1000 : Int32)), .val (.int (3 : Int32))] []))) (by rw [show ((2 : Int32) + (1 : Int32)) = (3 : Int32) by decide]) ?_
      refine own_goto X0 hx hby 39 16 d23_39 (by decide) (by decide) ?_
      refine own_iloadN X0 hx hby d23_16 rfl ?_
      refine own_bipush X0 hx hby 10 d23_17 rfl ?_
      have hc19_116 : (3 : Int32) < (10 : Int32) := by decide
      refine own_icmpNo X0 hx hby d23_19 (tlt hc19_116).2.1 ?_
      refine own_iloadN X0 hx hby d23_22 rfl ?_
      refine own_iloadN X0 hx hby d23_23 rfl ?_
      by_cases hc24_117 : (-1000 : Int32) < p1
      · skip
        refine own_icmpNo X0 hx hby d23_24 (tlt hc24_117).2.2.2 ?_
        refine own_iloadN X0 hx hby d23_27 rfl ?_
        refine own_iloadN X0 hx hby d23_28 rfl ?_
        refine own_iadd X0 hx hby d23_29 ?_
        refine own_eq (U' := (s₁.setTop (mkF m 30 #[.val (.int p1), .val (.int (1 : Int32)), .val (.int (-1000 : Int32)), .val (.int (3 : Int32))] [(.int (4 : Int32))]))) (by rw [show ((3 : Int32) + (1 : Int32)) = (4 : Int32) by decide]) ?_
        exact own_retI X0 hx hlk Bd.returns (hb hby d23_30) (by decide) (by decide) (⟨(4 : Int32), rfl, N0, e0, by have e1 := own_dlen p1.toInt.natAbs (by have := rng32 p1; omega); have e2 := own_sgl p1; have e3 : (own_num p1).length = (own_sg p1).length + (own_dec p1.toInt.natAbs).length := (by unfold own_num; rw [List.length_append]); rw [if_pos h1] at e2; have e0 := h1; rw [own_ltI, own_i0] at e0; have q0 := hc24_113; rw [own_ltI, show ((-10 : Int32)).toInt = -10 by decide] at q0; have q1 := hc24_115; rw [own_ltI, show ((-100 : Int32)).toInt = -100 by decide] at q1; have q2 := hc24_117; rw [own_ltI, show ((-1000 : Int32)).toInt = -1000 by decide] at q2; repeat (first | rw [if_neg (by omega)] at e1 | rw [if_pos (by omega)] at e1); rw [e3]; rw [show ((4 : Int32) : Int32).toInt = 4 by decide]; omega⟩)
      · skip
        refine own_icmpYes X0 hx hby 24 31 d23_24 (flt hc24_117).2.2.2 (by decide) (by decide) ?_
        refine own_bipush X0 hx hby 10 d23_31 rfl ?_
        refine own_iloadN X0 hx hby d23_33 rfl ?_
        refine own_imul X0 hx hby d23_34 ?_
        refine own_eq (U' := (s₁.setTop (mkF m 35 #[.val (.int p1), .val (.int (1 : Int32)), .val (.int (-1000 : Int32)), .val (.int (3 : Int32))] [(.int (-10000 : Int32))]))) (by rw [show ((10 : Int32) * (-1000 : Int32)) = (-10000 : Int32) by decide]) ?_
        refine own_istoreN X0 hx hby d23_35 (l' := #[.val (.int p1), .val (.int (1 : Int32)), .val (.int (-10000 : Int32)), .val (.int (3 : Int32))]) rfl ?_
        refine own_iinc X0 hx hby d23_36 rfl (l' := #[.val (.int p1), .val (.int (1 : Int32)), .val (.int (-10000 : Int32)), .val (.int ((3 : Int32) + (1 : Int32)))]) rfl ?_
        refine own_eq (U' := (s₁.setTop (mkF m 39 #[.val (.int p1), .val (.int (1 : Int32)), .val (.int (-10000 : Int32)), .val (.int (4 : Int32))] []))) (by rw [show ((3 : Int32) + (1 : Int32)) = (4 : Int32) by decide]) ?_
        refine own_goto X0 hx hby 39 16 d23_39 (by decide) (by decide) ?_
        refine own_iloadN X0 hx hby d23_16 rfl ?_
        refine own_bipush X0 hx hby 10 d23_17 rfl ?_
        have hc19_118 : (4 : Int32) < (10 : Int32) := by decide
        refine own_icmpNo X0 hx hby d23_19 (tlt hc19_118).2.1 ?_
        refine own_iloadN X0 hx hby d23_22 rfl ?_
        refine own_iloadN X0 hx hby d23_23 rfl ?_
        by_cases hc24_119 : (-10000 : Int32) < p1
        · skip
          refine own_icmpNo X0 hx hby d23_24 (tlt hc24_119).2.2.2 ?_
          refine own_iloadN X0 hx hby d23_27 rfl ?_
          refine own_iloadN X0 hx hby d23_28 rfl ?_
          refine own_iadd X0 hx hby d23_29 ?_
          refine own_eq (U' := (s₁.setTop (mkF m 30 #[.val (.int p1), .val (.int (1 : Int32)), .val (.int (-10000 : Int32)), .val (.int (4 : Int32))] [(.int (5 : Int32))]))) (by rw [show ((4 : Int32) + (1 : Int32)) = (5 : Int32) by decide]) ?_
          exact own_retI X0 hx hlk Bd.returns (hb hby d23_30) (by decide) (by decide) (⟨(5 : Int32), rfl, N0, e0, by have e1 := own_dlen p1.toInt.natAbs (by have := rng32 p1; omega); have e2 := own_sgl p1; have e3 : (own_num p1).length = (own_sg p1).length + (own_dec p1.toInt.natAbs).length := (by unfold own_num; rw [List.length_append]); rw [if_pos h1] at e2; have e0 := h1; rw [own_ltI, own_i0] at e0; have q0 := hc24_113; rw [own_ltI, show ((-10 : Int32)).toInt = -10 by decide] at q0; have q1 := hc24_115; rw [own_ltI, show ((-100 : Int32)).toInt = -100 by decide] at q1; have q2 := hc24_117; rw [own_ltI, show ((-1000 : Int32)).toInt = -1000 by decide] at q2; have q3 := hc24_119; rw [own_ltI, show ((-10000 : Int32)).toInt = -10000 by decide] at q3; repeat (first | rw [if_neg (by omega)] at e1 | rw [if_pos (by omega)] at e1); rw [e3]; rw [show ((5 : Int32) : Int32).toInt = 5 by decide]; omega⟩)
        · skip
          refine own_icmpYes X0 hx hby 24 31 d23_24 (flt hc24_119).2.2.2 (by decide) (by decide) ?_
          refine own_bipush X0 hx hby 10 d23_31 rfl ?_
          refine own_iloadN X0 hx hby d23_33 rfl ?_
          refine own_imul X0 hx hby d23_34 ?_
          refine own_eq (U' := (s₁.setTop (mkF m 35 #[.val (.int p1), .val (.int (1 : Int32)), .val (.int (-10000 : Int32)), .val (.int (4 : Int32))] [(.int (-100000 : Int32))]))) (by rw [show ((10 : Int32) * (-10000 : Int32)) = (-100000 : Int32) by decide]) ?_
          refine own_istoreN X0 hx hby d23_35 (l' := #[.val (.int p1), .val (.int (1 : Int32)), .val (.int (-100000 : Int32)), .val (.int (4 : Int32))]) rfl ?_
          refine own_iinc X0 hx hby d23_36 rfl (l' := #[.val (.int p1), .val (.int (1 : Int32)), .val (.int (-100000 : Int32)), .val (.int ((4 : Int32) + (1 : Int32)))]) rfl ?_
          refine own_eq (U' := (s₁.setTop (mkF m 39 #[.val (.int p1), .val (.int (1 : Int32)), .val (.int (-100000 : Int32)), .val (.int (5 : Int32))] []))) (by rw [show ((4 : Int32) + (1 : Int32)) = (5 : Int32) by decide]) ?_
          refine own_goto X0 hx hby 39 16 d23_39 (by decide) (by decide) ?_
          refine own_iloadN X0 hx hby d23_16 rfl ?_
          refine own_bipush X0 hx hby 10 d23_17 rfl ?_
          have hc19_120 : (5 : Int32) < (10 : Int32) := by decide
          refine own_icmpNo X0 hx hby d23_19 (tlt hc19_120).2.1 ?_
          refine own_iloadN X0 hx hby d23_22 rfl ?_
          refine own_iloadN X0 hx hby d23_23 rfl ?_
          by_cases hc24_121 : (-100000 : Int32) < p1
          · skip
            refine own_icmpNo X0 hx hby d23_24 (tlt hc24_121).2.2.2 ?_
            refine own_iloadN X0 hx hby d23_27 rfl ?_
            refine own_iloadN X0 hx hby d23_28 rfl ?_
            refine own_iadd X0 hx hby d23_29 ?_
            refine own_eq (U' := (s₁.setTop (mkF m 30 #[.val (.int p1), .val (.int (1 : Int32)), .val (.int (-100000 : Int32)), .val (.int (5 : Int32))] [(.int (6 : Int32))]))) (by rw [show ((5 : Int32) + (1 : Int32)) = (6 : Int32) by decide]) ?_
            exact own_retI X0 hx hlk Bd.returns (hb hby d23_30) (by decide) (by decide) (⟨(6 : Int32), rfl, N0, e0, by have e1 := own_dlen p1.toInt.natAbs (by have := rng32 p1; omega); have e2 := own_sgl p1; have e3 : (own_num p1).length = (own_sg p1).length + (own_dec p1.toInt.natAbs).length := (by unfold own_num; rw [List.length_append]); rw [if_pos h1] at e2; have e0 := h1; rw [own_ltI, own_i0] at e0; have q0 := hc24_113; rw [own_ltI, show ((-10 : Int32)).toInt = -10 by decide] at q0; have q1 := hc24_115; rw [own_ltI, show ((-100 : Int32)).toInt = -100 by decide] at q1; have q2 := hc24_117; rw [own_ltI, show ((-1000 : Int32)).toInt = -1000 by decide] at q2; have q3 := hc24_119; rw [own_ltI, show ((-10000 : Int32)).toInt = -10000 by decide] at q3; have q4 := hc24_121; rw [own_ltI, show ((-100000 : Int32)).toInt = -100000 by decide] at q4; repeat (first | rw [if_neg (by omega)] at e1 | rw [if_pos (by omega)] at e1); rw [e3]; rw [show ((6 : Int32) : Int32).toInt = 6 by decide]; omega⟩)
          · skip
            refine own_icmpYes X0 hx hby 24 31 d23_24 (flt hc24_121).2.2.2 (by decide) (by decide) ?_
            refine own_bipush X0 hx hby 10 d23_31 rfl ?_
            refine own_iloadN X0 hx hby d23_33 rfl ?_
            refine own_imul X0 hx hby d23_34 ?_
            refine own_eq (U' := (s₁.setTop (mkF m 35 #[.val (.int p1), .val (.int (1 : Int32)), .val (.int (-100000 : Int32)), .val (.int (5 : Int32))] [(.int (-1000000 : Int32))]))) (by rw [show ((10 : Int32) * (-100000 : Int32)) = (-1000000 : Int32) by decide]) ?_
            refine own_istoreN X0 hx hby d23_35 (l' := #[.val (.int p1), .val (.int (1 : Int32)), .val (.int (-1000000 : Int32)), .val (.int (5 : Int32))]) rfl ?_
            refine own_iinc X0 hx hby d23_36 rfl (l' := #[.val (.int p1), .val (.int (1 : Int32)), .val (.int (-1000000 : Int32)), .val (.int ((5 : Int32) + (1 : Int32)))]) rfl ?_
            refine own_eq (U' := (s₁.setTop (mkF m 39 #[.val (.int p1), .val (.int (1 : Int32)), .val (.int (-1000000 : Int32)), .val (.int (6 : Int32))] []))) (by rw [show ((5 : Int32) + (1 : Int32)) = (6 : Int32) by decide]) ?_
            refine own_goto X0 hx hby 39 16 d23_39 (by decide) (by decide) ?_
            refine own_iloadN X0 hx hby d23_16 rfl ?_
            refine own_bipush X0 hx hby 10 d23_17 rfl ?_
            have hc19_122 : (6 : Int32) < (10 : Int32) := by decide
            refine own_icmpNo X0 hx hby d23_19 (tlt hc19_122).2.1 ?_
            refine own_iloadN X0 hx hby d23_22 rfl ?_
            refine own_iloadN X0 hx hby d23_23 rfl ?_
            by_cases hc24_123 : (-1000000 : Int32) < p1
            · skip
              refine own_icmpNo X0 hx hby d23_24 (tlt hc24_123).2.2.2 ?_
              refine own_iloadN X0 hx hby d23_27 rfl ?_
              refine own_iloadN X0 hx hby d23_28 rfl ?_
              refine own_iadd X0 hx hby d23_29 ?_
              refine own_eq (U' := (s₁.setTop (mkF m 30 #[.val (.int p1), .val (.int (1 : Int32)), .val (.int (-1000000 : Int32)), .val (.int (6 : Int32))] [(.int (7 : Int32))]))) (by rw [show ((6 : Int32) + (1 : Int32)) = (7 : Int32) by decide]) ?_
              exact own_retI X0 hx hlk Bd.returns (hb hby d23_30) (by decide) (by decide) (⟨(7 : Int32), rfl, N0, e0, by have e1 := own_dlen p1.toInt.natAbs (by have := rng32 p1; omega); have e2 := own_sgl p1; have e3 : (own_num p1).length = (own_sg p1).length + (own_dec p1.toInt.natAbs).length := (by unfold own_num; rw [List.length_append]); rw [if_pos h1] at e2; have e0 := h1; rw [own_ltI, own_i0] at e0; have q0 := hc24_113; rw [own_ltI, show ((-10 : Int32)).toInt = -10 by decide] at q0; have q1 := hc24_115; rw [own_ltI, show ((-100 : Int32)).toInt = -100 by decide] at q1; have q2 := hc24_117; rw [own_ltI, show ((-1000 : Int32)).toInt = -1000 by decide] at q2; have q3 := hc24_119; rw [own_ltI, show ((-10000 : Int32)).toInt = -10000 by decide] at q3; have q4 := hc24_121; rw [own_ltI, show ((-100000 : Int32)).toInt = -100000 by decide] at q4; have q5 := hc24_123; rw [own_ltI, show ((-1000000 : Int32)).toInt = -1000000 by decide] at q5; repeat (first | rw [if_neg (by omega)] at e1 | rw [if_pos (by omega)] at e1); rw [e3]; rw [show ((7 : Int32) : Int32).toInt = 7 by decide]; omega⟩)
            · skip
              refine own_icmpYes X0 hx hby 24 31 d23_24 (flt hc24_123).2.2.2 (by decide) (by decide) ?_
              refine own_bipush X0 hx hby 10 d23_31 rfl ?_
              refine own_iloadN X0 hx hby d23_33 rfl ?_
              refine own_imul X0 hx hby d23_34 ?_
              refine own_eq (U' := (s₁.setTop (mkF m 35 #[.val (.int p1), .val (.int (1 : Int32)), .val (.int (-1000000 : Int32)), .val (.int (6 : Int32))] [(.int (-10000000 : Int32))]))) (by rw [show ((10 : Int32) * (-1000000 : Int32)) = (-10000000 : Int32) by decide]) ?_
              refine own_istoreN X0 hx hby d23_35 (l' := #[.val (.int p1), .val (.int (1 : Int32)), .val (.int (-10000000 : Int32)), .val (.int (6 : Int32))]) rfl ?_
              refine own_iinc X0 hx hby d23_36 rfl (l' := #[.val (.int p1), .val (.int (1 : Int32)), .val (.int (-10000000 : Int32)), .val (.int ((6 : Int32) + (1 : Int32)))]) rfl ?_
              refine own_eq (U' := (s₁.setTop (mkF m 39 #[.val (.int p1), .val (.int (1 : Int32)), .val (.int (-10000000 : Int32)), .val (.int (7 : Int32))] []))) (by rw [show ((6 : Int32) + (1 : Int32)) = (7 : Int32) by decide]) ?_
              refine own_goto X0 hx hby 39 16 d23_39 (by decide) (by decide) ?_
              refine own_iloadN X0 hx hby d23_16 rfl ?_
              refine own_bipush X0 hx hby 10 d23_17 rfl ?_
              have hc19_124 : (7 : Int32) < (10 : Int32) := by decide
              refine own_icmpNo X0 hx hby d23_19 (tlt hc19_124).2.1 ?_
              refine own_iloadN X0 hx hby d23_22 rfl ?_
              refine own_iloadN X0 hx hby d23_23 rfl ?_
              by_cases hc24_125 : (-10000000 : Int32) < p1
              · skip
                refine own_icmpNo X0 hx hby d23_24 (tlt hc24_125).2.2.2 ?_
                refine own_iloadN X0 hx hby d23_27 rfl ?_
                refine own_iloadN X0 hx hby d23_28 rfl ?_
                refine own_iadd X0 hx hby d23_29 ?_
                refine own_eq (U' := (s₁.setTop (mkF m 30 #[.val (.int p1), .val (.int (1 : Int32)), .val (.int (-10000000 : Int32)), .val (.int (7 : Int32))] [(.int (8 : Int32))]))) (by rw [show ((7 : Int32) + (1 : Int32)) = (8 : Int32) by decide]) ?_
                exact own_retI X0 hx hlk Bd.returns (hb hby d23_30) (by decide) (by decide) (⟨(8 : Int32), rfl, N0, e0, by have e1 := own_dlen p1.toInt.natAbs (by have := rng32 p1; omega); have e2 := own_sgl p1; have e3 : (own_num p1).length = (own_sg p1).length + (own_dec p1.toInt.natAbs).length := (by unfold own_num; rw [List.length_append]); rw [if_pos h1] at e2; have e0 := h1; rw [own_ltI, own_i0] at e0; have q0 := hc24_113; rw [own_ltI, show ((-10 : Int32)).toInt = -10 by decide] at q0; have q1 := hc24_115; rw [own_ltI, show ((-100 : Int32)).toInt = -100 by decide] at q1; have q2 := hc24_117; rw [own_ltI, show ((-1000 : Int32)).toInt = -1000 by decide] at q2; have q3 := hc24_119; rw [own_ltI, show ((-10000 : Int32)).toInt = -10000 by decide] at q3; have q4 := hc24_121; rw [own_ltI, show ((-100000 : Int32)).toInt = -100000 by decide] at q4; have q5 := hc24_123; rw [own_ltI, show ((-1000000 : Int32)).toInt = -1000000 by decide] at q5; have q6 := hc24_125; rw [own_ltI, show ((-10000000 : Int32)).toInt = -10000000 by decide] at q6; repeat (first | rw [if_neg (by omega)] at e1 | rw [if_pos (by omega)] at e1); rw [e3]; rw [show ((8 : Int32) : Int32).toInt = 8 by decide]; omega⟩)
              · skip
                refine own_icmpYes X0 hx hby 24 31 d23_24 (flt hc24_125).2.2.2 (by decide) (by decide) ?_
                refine own_bipush X0 hx hby 10 d23_31 rfl ?_
                refine own_iloadN X0 hx hby d23_33 rfl ?_
                refine own_imul X0 hx hby d23_34 ?_
                refine own_eq (U' := (s₁.setTop (mkF m 35 #[.val (.int p1), .val (.int (1 : Int32)), .val (.int (-10000000 : Int32)), .val (.int (7 : Int32))] [(.int (-100000000 : Int32))]))) (by rw [show ((10 : Int32) * (-10000000 : Int32)) = (-100000000 : Int32) by decide]) ?_
                refine own_istoreN X0 hx hby d23_35 (l' := #[.val (.int p1), .val (.int (1 : Int32)), .val (.int (-100000000 : Int32)), .val (.int (7 : Int32))]) rfl ?_
                refine own_iinc X0 hx hby d23_36 rfl (l' := #[.val (.int p1), .val (.int (1 : Int32)), .val (.int (-100000000 : Int32)), .val (.int ((7 : Int32) + (1 : Int32)))]) rfl ?_
                refine own_eq (U' := (s₁.setTop (mkF m 39 #[.val (.int p1), .val (.int (1 : Int32)), .val (.int (-100000000 : Int32)), .val (.int (8 : Int32))] []))) (by rw [show ((7 : Int32) + (1 : Int32)) = (8 : Int32) by decide]) ?_
                refine own_goto X0 hx hby 39 16 d23_39 (by decide) (by decide) ?_
                refine own_iloadN X0 hx hby d23_16 rfl ?_
                refine own_bipush X0 hx hby 10 d23_17 rfl ?_
                have hc19_126 : (8 : Int32) < (10 : Int32) := by decide
                refine own_icmpNo X0 hx hby d23_19 (tlt hc19_126).2.1 ?_
                refine own_iloadN X0 hx hby d23_22 rfl ?_
                refine own_iloadN X0 hx hby d23_23 rfl ?_
                by_cases hc24_127 : (-100000000 : Int32) < p1
                · skip
                  refine own_icmpNo X0 hx hby d23_24 (tlt hc24_127).2.2.2 ?_
                  refine own_iloadN X0 hx hby d23_27 rfl ?_
                  refine own_iloadN X0 hx hby d23_28 rfl ?_
                  refine own_iadd X0 hx hby d23_29 ?_
                  refine own_eq (U' := (s₁.setTop (mkF m 30 #[.val (.int p1), .val (.int (1 : Int32)), .val (.int (-100000000 : Int32)), .val (.int (8 : Int32))] [(.int (9 : Int32))]))) (by rw [show ((8 : Int32) + (1 : Int32)) = (9 : Int32) by decide]) ?_
                  exact own_retI X0 hx hlk Bd.returns (hb hby d23_30) (by decide) (by decide) (⟨(9 : Int32), rfl, N0, e0, by have e1 := own_dlen p1.toInt.natAbs (by have := rng32 p1; omega); have e2 := own_sgl p1; have e3 : (own_num p1).length = (own_sg p1).length + (own_dec p1.toInt.natAbs).length := (by unfold own_num; rw [List.length_append]); rw [if_pos h1] at e2; have e0 := h1; rw [own_ltI, own_i0] at e0; have q0 := hc24_113; rw [own_ltI, show ((-10 : Int32)).toInt = -10 by decide] at q0; have q1 := hc24_115; rw [own_ltI, show ((-100 : Int32)).toInt = -100 by decide] at q1; have q2 := hc24_117; rw [own_ltI, show ((-1000 : Int32)).toInt = -1000 by decide] at q2; have q3 := hc24_119; rw [own_ltI, show ((-10000 : Int32)).toInt = -10000 by decide] at q3; have q4 := hc24_121; rw [own_ltI, show ((-100000 : Int32)).toInt = -100000 by decide] at q4; have q5 := hc24_123; rw [own_ltI, show ((-1000000 : Int32)).toInt = -1000000 by decide] at q5; have q6 := hc24_125; rw [own_ltI, show ((-10000000 : Int32)).toInt = -10000000 by decide] at q6; have q7 := hc24_127; rw [own_ltI, show ((-100000000 : Int32)).toInt = -100000000 by decide] at q7; repeat (first | rw [if_neg (by omega)] at e1 | rw [if_pos (by omega)] at e1); rw [e3]; rw [show ((9 : Int32) : Int32).toInt = 9 by decide]; omega⟩)
                · skip
                  refine own_icmpYes X0 hx hby 24 31 d23_24 (flt hc24_127).2.2.2 (by decide) (by decide) ?_
                  refine own_bipush X0 hx hby 10 d23_31 rfl ?_
                  refine own_iloadN X0 hx hby d23_33 rfl ?_
                  refine own_imul X0 hx hby d23_34 ?_
                  refine own_eq (U' := (s₁.setTop (mkF m 35 #[.val (.int p1), .val (.int (1 : Int32)), .val (.int (-100000000 : Int32)), .val (.int (8 : Int32))] [(.int (-1000000000 : Int32))]))) (by rw [show ((10 : Int32) * (-100000000 : Int32)) = (-1000000000 : Int32) by decide]) ?_
                  refine own_istoreN X0 hx hby d23_35 (l' := #[.val (.int p1), .val (.int (1 : Int32)), .val (.int (-1000000000 : Int32)), .val (.int (8 : Int32))]) rfl ?_
                  refine own_iinc X0 hx hby d23_36 rfl (l' := #[.val (.int p1), .val (.int (1 : Int32)), .val (.int (-1000000000 : Int32)), .val (.int ((8 : Int32) + (1 : Int32)))]) rfl ?_
                  refine own_eq (U' := (s₁.setTop (mkF m 39 #[.val (.int p1), .val (.int (1 : Int32)), .val (.int (-1000000000 : Int32)), .val (.int (9 : Int32))] []))) (by rw [show ((8 : Int32) + (1 : Int32)) = (9 : Int32) by decide]) ?_
                  refine own_goto X0 hx hby 39 16 d23_39 (by decide) (by decide) ?_
                  refine own_iloadN X0 hx hby d23_16 rfl ?_
                  refine own_bipush X0 hx hby 10 d23_17 rfl ?_
                  have hc19_128 : (9 : Int32) < (10 : Int32) := by decide
                  refine own_icmpNo X0 hx hby d23_19 (tlt hc19_128).2.1 ?_
                  refine own_iloadN X0 hx hby d23_22 rfl ?_
                  refine own_iloadN X0 hx hby d23_23 rfl ?_
                  by_cases hc24_129 : (-1000000000 : Int32) < p1
                  · skip
                    refine own_icmpNo X0 hx hby d23_24 (tlt hc24_129).2.2.2 ?_
                    refine own_iloadN X0 hx hby d23_27 rfl ?_
                    refine own_iloadN X0 hx hby d23_28 rfl ?_
                    refine own_iadd X0 hx hby d23_29 ?_
                    refine own_eq (U' := (s₁.setTop (mkF m 30 #[.val (.int p1), .val (.int (1 : Int32)), .val (.int (-1000000000 : Int32)), .val (.int (9 : Int32))] [(.int (10 : Int32))]))) (by rw [show ((9 : Int32) + (1 : Int32)) = (10 : Int32) by decide]) ?_
                    exact own_retI X0 hx hlk Bd.returns (hb hby d23_30) (by decide) (by decide) (⟨(10 : Int32), rfl, N0, e0, by have e1 := own_dlen p1.toInt.natAbs (by have := rng32 p1; omega); have e2 := own_sgl p1; have e3 : (own_num p1).length = (own_sg p1).length + (own_dec p1.toInt.natAbs).length := (by unfold own_num; rw [List.length_append]); rw [if_pos h1] at e2; have e0 := h1; rw [own_ltI, own_i0] at e0; have q0 := hc24_113; rw [own_ltI, show ((-10 : Int32)).toInt = -10 by decide] at q0; have q1 := hc24_115; rw [own_ltI, show ((-100 : Int32)).toInt = -100 by decide] at q1; have q2 := hc24_117; rw [own_ltI, show ((-1000 : Int32)).toInt = -1000 by decide] at q2; have q3 := hc24_119; rw [own_ltI, show ((-10000 : Int32)).toInt = -10000 by decide] at q3; have q4 := hc24_121; rw [own_ltI, show ((-100000 : Int32)).toInt = -100000 by decide] at q4; have q5 := hc24_123; rw [own_ltI, show ((-1000000 : Int32)).toInt = -1000000 by decide] at q5; have q6 := hc24_125; rw [own_ltI, show ((-10000000 : Int32)).toInt = -10000000 by decide] at q6; have q7 := hc24_127; rw [own_ltI, show ((-100000000 : Int32)).toInt = -100000000 by decide] at q7; have q8 := hc24_129; rw [own_ltI, show ((-1000000000 : Int32)).toInt = -1000000000 by decide] at q8; repeat (first | rw [if_neg (by omega)] at e1 | rw [if_pos (by omega)] at e1); rw [e3]; rw [show ((10 : Int32) : Int32).toInt = 10 by decide]; omega⟩)
                  · skip
                    refine own_icmpYes X0 hx hby 24 31 d23_24 (flt hc24_129).2.2.2 (by decide) (by decide) ?_
                    refine own_bipush X0 hx hby 10 d23_31 rfl ?_
                    refine own_iloadN X0 hx hby d23_33 rfl ?_
                    refine own_imul X0 hx hby d23_34 ?_
                    refine own_eq (U' := (s₁.setTop (mkF m 35 #[.val (.int p1), .val (.int (1 : Int32)), .val (.int (-1000000000 : Int32)), .val (.int (9 : Int32))] [(.int (-1410065408 : Int32))]))) (by rw [show ((10 : Int32) * (-1000000000 : Int32)) = (-1410065408 : Int32) by decide]) ?_
                    refine own_istoreN X0 hx hby d23_35 (l' := #[.val (.int p1), .val (.int (1 : Int32)), .val (.int (-1410065408 : Int32)), .val (.int (9 : Int32))]) rfl ?_
                    refine own_iinc X0 hx hby d23_36 rfl (l' := #[.val (.int p1), .val (.int (1 : Int32)), .val (.int (-1410065408 : Int32)), .val (.int ((9 : Int32) + (1 : Int32)))]) rfl ?_
                    refine own_eq (U' := (s₁.setTop (mkF m 39 #[.val (.int p1), .val (.int (1 : Int32)), .val (.int (-1410065408 : Int32)), .val (.int (10 : Int32))] []))) (by rw [show ((9 : Int32) + (1 : Int32)) = (10 : Int32) by decide]) ?_
                    refine own_goto X0 hx hby 39 16 d23_39 (by decide) (by decide) ?_
                    refine own_iloadN X0 hx hby d23_16 rfl ?_
                    refine own_bipush X0 hx hby 10 d23_17 rfl ?_
                    have hc19_130 : ¬ ((10 : Int32) < (10 : Int32)) := by decide
                    refine own_icmpYes X0 hx hby 19 42 d23_19 (flt hc19_130).2.1 (by decide) (by decide) ?_
                    refine own_bipush X0 hx hby 10 d23_42 rfl ?_
                    refine own_iloadN X0 hx hby d23_44 rfl ?_
                    refine own_iadd X0 hx hby d23_45 ?_
                    refine own_eq (U' := (s₁.setTop (mkF m 46 #[.val (.int p1), .val (.int (1 : Int32)), .val (.int (-1410065408 : Int32)), .val (.int (10 : Int32))] [(.int (11 : Int32))]))) (by rw [show ((10 : Int32) + (1 : Int32)) = (11 : Int32) by decide]) ?_
                    exact own_retI X0 hx hlk Bd.returns (hb hby d23_46) (by decide) (by decide) (⟨(11 : Int32), rfl, N0, e0, by have e1 := own_dlen p1.toInt.natAbs (by have := rng32 p1; omega); have e2 := own_sgl p1; have e3 : (own_num p1).length = (own_sg p1).length + (own_dec p1.toInt.natAbs).length := (by unfold own_num; rw [List.length_append]); rw [if_pos h1] at e2; have e0 := h1; rw [own_ltI, own_i0] at e0; have q0 := hc24_113; rw [own_ltI, show ((-10 : Int32)).toInt = -10 by decide] at q0; have q1 := hc24_115; rw [own_ltI, show ((-100 : Int32)).toInt = -100 by decide] at q1; have q2 := hc24_117; rw [own_ltI, show ((-1000 : Int32)).toInt = -1000 by decide] at q2; have q3 := hc24_119; rw [own_ltI, show ((-10000 : Int32)).toInt = -10000 by decide] at q3; have q4 := hc24_121; rw [own_ltI, show ((-100000 : Int32)).toInt = -100000 by decide] at q4; have q5 := hc24_123; rw [own_ltI, show ((-1000000 : Int32)).toInt = -1000000 by decide] at q5; have q6 := hc24_125; rw [own_ltI, show ((-10000000 : Int32)).toInt = -10000000 by decide] at q6; have q7 := hc24_127; rw [own_ltI, show ((-100000000 : Int32)).toInt = -100000000 by decide] at q7; have q8 := hc24_129; rw [own_ltI, show ((-1000000000 : Int32)).toInt = -1000000000 by decide] at q8; repeat (first | rw [if_neg (by omega)] at e1 | rw [if_pos (by omega)] at e1); rw [e3]; rw [show ((11 : Int32) : Int32).toInt = 11 by decide]; omega⟩)
theorem d23_6 : decode jdk_33_method_13_code 6 = .ok (.iconst 0, 1) := by decide +kernel
theorem d23_7 : decode jdk_33_method_13_code 7 = .ok (.istore_n 1, 1) := by decide +kernel
theorem d23_8 : decode jdk_33_method_13_code 8 = .ok (.iload_n 0, 1) := by decide +kernel
theorem d23_9 : decode jdk_33_method_13_code 9 = .ok (.ineg, 1) := by decide +kernel
theorem d23_10 : decode jdk_33_method_13_code 10 = .ok (.istore_n 0, 1) := by decide +kernel
theorem ef_ss0 (m : MethodId) (x0 : Int32) : entryFrame m #[(.int x0)] 4 = mkF m 0 #[.val (.int x0), .unset, .unset, .unset] [] := by first | (simp [entryFrame, mkF, argsToLocals, Value.category]; done) | rfl
set_option maxRecDepth 65536 in
set_option maxHeartbeats 40000000 in
theorem rmss0 (l : Launch) (Z : State) (a0 : Array Value) (hw : ∀ d ∈ tables_1, d.before a0 Z = true) (ws : List Jvm.Cond) (p1 : Int32) (h0 : Heap) (n0 : Nat) (Z0 : n0 ≤ h0.size) (h1 : ¬ (p1 < (0 : Int32))) :
    MetFree l mN_26 (head1 (Jvm.Cond.code mN_26 jdk_33_method_13_code 4 (some .int) :: ws) ({ frames := 0, cells := 0, slots := 0, locals := 0 } : Room)) (fun a U => a = #[(.int p1)] ∧ Z.Warmed39 U.vm ∧ U.heap = h0) (fun _ _ _ _ _ => True) (fun _ U o U' => ∃ v L, o = .returned v ∧ (Qss p1 h0 n0) v U'.heap L ∧ FrameEnd U o U' L ({ frames := 0, cells := 0, slots := 0, locals := 0 } : Room).cells ({ frames := 0, cells := 0, slots := 0, locals := 0 } : Room).slots) := by
  refine MetFree.of_bodySF (plainFor_of_name pn_5) hisR ?_
  intro p e s m args below meth c s₁ Bd hml0 hP hK
  obtain ⟨rfl, hZ, hh⟩ := hP
  have hx := Bd.exec
  have hby := Bd.bytes
  have hml : c.maxLocals = 4 := hml0
  have hown : s.vm.findClass "java/lang/Integer" = some m.cls := findClass_of_methodNamed Bd.named
  have hnm := (name_of_methodNamed Bd.named Bd.method).1
  have hlk := Bd.notSynchronized
  have X0 : Stand p l e ({ frames := 0, cells := 0, slots := 0, locals := 0 } : Room) s m #[(.int p1)] below meth c s₁ [] 0 0 := Stand.of_body Bd
  have e0 : s₁.heap = h0 := by rw [← hh, Bd.state]; rfl
  have N0 := Fr.nil n0
  show own_Ends p e below s FrameEnd (Qss p1 h0 n0) 0 0 (s₁.setTop (entryFrame m #[(.int p1)] 4))
  refine own_of (U' := (s₁.setTop (mkF m 0 #[.val (.int p1), .unset, .unset, .unset] []))) (fun _ k => castTop (ef_ss0 m p1) k) ?_
  refine own_iconst X0 hx hby 1 d23_0 rfl ?_
  refine own_istoreN X0 hx hby d23_1 (l' := #[.val (.int p1), .val (.int (1 : Int32)), .unset, .unset]) rfl ?_
  refine own_iloadN X0 hx hby d23_2 rfl ?_
  have hc3_131 : ¬ (p1 < (0 : Int32)) := h1
  refine own_ifNo X0 hx hby d23_3 ((if0 _ _).trans (flt hc3_131).1) ?_
  refine own_iconst X0 hx hby 0 d23_6 rfl ?_
  refine own_istoreN X0 hx hby d23_7 (l' := #[.val (.int p1), .val (.int (0 : Int32)), .unset, .unset]) rfl ?_
  refine own_iloadN X0 hx hby d23_8 rfl ?_
  refine own_ineg X0 hx hby d23_9 ?_
  refine own_istoreN X0 hx hby d23_10 (l' := #[.val (.int (-p1)), .val (.int (0 : Int32)), .unset, .unset]) rfl ?_
  refine own_bipush X0 hx hby (-10) d23_11 rfl ?_
  refine own_istoreN X0 hx hby d23_13 (l' := #[.val (.int (-p1)), .val (.int (0 : Int32)), .val (.int (-10 : Int32)), .unset]) rfl ?_
  refine own_iconst X0 hx hby 1 d23_14 rfl ?_
  refine own_istoreN X0 hx hby d23_15 (l' := #[.val (.int (-p1)), .val (.int (0 : Int32)), .val (.int (-10 : Int32)), .val (.int (1 : Int32))]) rfl ?_
  refine own_iloadN X0 hx hby d23_16 rfl ?_
  refine own_bipush X0 hx hby 10 d23_17 rfl ?_
  have hc19_132 : (1 : Int32) < (10 : Int32) := by decide
  refine own_icmpNo X0 hx hby d23_19 (tlt hc19_132).2.1 ?_
  refine own_iloadN X0 hx hby d23_22 rfl ?_
  refine own_iloadN X0 hx hby d23_23 rfl ?_
  by_cases hc24_133 : (-10 : Int32) < (-p1)
  · skip
    refine own_icmpNo X0 hx hby d23_24 (tlt hc24_133).2.2.2 ?_
    refine own_iloadN X0 hx hby d23_27 rfl ?_
    refine own_iloadN X0 hx hby d23_28 rfl ?_
    refine own_iadd X0 hx hby d23_29 ?_
    refine own_eq (U' := (s₁.setTop (mkF m 30 #[.val (.int (-p1)), .val (.int (0 : Int32)), .val (.int (-10 : Int32)), .val (.int (1 : Int32))] [(.int (1 : Int32))]))) (by rw [show ((1 : Int32) + (0 : Int32)) = (1 : Int32) by decide]) ?_
    exact own_retI X0 hx hlk Bd.returns (hb hby d23_30) (by decide) (by decide) (⟨(1 : Int32), rfl, N0, e0, by have e1 := own_dlen p1.toInt.natAbs (by have := rng32 p1; omega); have e2 := own_sgl p1; have e3 : (own_num p1).length = (own_sg p1).length + (own_dec p1.toInt.natAbs).length := (by unfold own_num; rw [List.length_append]); rw [if_neg h1] at e2; have e0 := h1; rw [own_ltI, own_i0] at e0; have ey := own_neg0 h1; have q0 := hc24_133; rw [own_ltI, show ((-10 : Int32)).toInt = -10 by decide, ey] at q0; repeat (first | rw [if_neg (by omega)] at e1 | rw [if_pos (by omega)] at e1); rw [e3]; rw [show ((1 : Int32) : Int32).toInt = 1 by decide]; omega⟩)
  · skip
    refine own_icmpYes X0 hx hby 24 31 d23_24 (flt hc24_133).2.2.2 (by decide) (by decide) ?_
    refine own_bipush X0 hx hby 10 d23_31 rfl ?_
    refine own_iloadN X0 hx hby d23_33 rfl ?_
    refine own_imul X0 hx hby d23_34 ?_
    refine own_eq (U' := (s₁.setTop (mkF m 35 #[.val (.int (-p1)), .val (.int (0 : Int32)), .val (.int (-10 : Int32)), .val (.int (1 : Int32))] [(.int (-100 : Int32))]))) (by rw [show ((10 : Int32) * (-10 : Int32)) = (-100 : Int32) by decide]) ?_
    refine own_istoreN X0 hx hby d23_35 (l' := #[.val (.int (-p1)), .val (.int (0 : Int32)), .val (.int (-100 : Int32)), .val (.int (1 : Int32))]) rfl ?_
    refine own_iinc X0 hx hby d23_36 rfl (l' := #[.val (.int (-p1)), .val (.int (0 : Int32)), .val (.int (-100 : Int32)), .val (.int ((1 : Int32) + (1 : Int32)))]) rfl ?_
    refine own_eq (U' := (s₁.setTop (mkF m 39 #[.val (.int (-p1)), .val (.int (0 : Int32)), .val (.int (-100 : Int32)), .val (.int (2 : Int32))] []))) (by rw [show ((1 : Int32) + (1 : Int32)) = (2 : Int32) by decide]) ?_
    refine own_goto X0 hx hby 39 16 d23_39 (by decide) (by decide) ?_
    refine own_iloadN X0 hx hby d23_16 rfl ?_
    refine own_bipush X0 hx hby 10 d23_17 rfl ?_
    have hc19_134 : (2 : Int32) < (10 : Int32) := by decide
    refine own_icmpNo X0 hx hby d23_19 (tlt hc19_134).2.1 ?_
    refine own_iloadN X0 hx hby d23_22 rfl ?_
    refine own_iloadN X0 hx hby d23_23 rfl ?_
    by_cases hc24_135 : (-100 : Int32) < (-p1)
    · skip
      refine own_icmpNo X0 hx hby d23_24 (tlt hc24_135).2.2.2 ?_
      refine own_iloadN X0 hx hby d23_27 rfl ?_
      refine own_iloadN X0 hx hby d23_28 rfl ?_
      refine own_iadd X0 hx hby d23_29 ?_
      refine own_eq (U' := (s₁.setTop (mkF m 30 #[.val (.int (-p1)), .val (.int (0 : Int32)), .val (.int (-100 : Int32)), .val (.int (2 : Int32))] [(.int (2 : Int32))]))) (by rw [show ((2 : Int32) + (0 : Int32)) = (2 : Int32) by decide]) ?_
      exact own_retI X0 hx hlk Bd.returns (hb hby d23_30) (by decide) (by decide) (⟨(2 : Int32), rfl, N0, e0, by have e1 := own_dlen p1.toInt.natAbs (by have := rng32 p1; omega); have e2 := own_sgl p1; have e3 : (own_num p1).length = (own_sg p1).length + (own_dec p1.toInt.natAbs).length := (by unfold own_num; rw [List.length_append]); rw [if_neg h1] at e2; have e0 := h1; rw [own_ltI, own_i0] at e0; have ey := own_neg0 h1; have q0 := hc24_133; rw [own_ltI, show ((-10 : Int32)).toInt = -10 by decide, ey] at q0; have q1 := hc24_135; rw [own_ltI, show ((-100 : Int32)).toInt = -100 by decide, ey] at q1; repeat (first | rw [if_neg (by omega)] at e1 | rw [if_pos (by omega)] at e1); rw [e3]; rw [show ((2 : Int32) : Int32).toInt = 2 by decide]; omega⟩)
    · skip
      refine own_icmpYes X0 hx hby 24 31 d23_24 (flt hc24_135).2.2.2 (by decide) (by decide) ?_
      refine own_bipush X0 hx hby 10 d23_31 rfl ?_
      refine own_iloadN X0 hx hby d23_33 rfl ?_
      refine own_imul X0 hx hby d23_34 ?_
      refine own_eq (U' := (s₁.setTop (mkF m 35 #[.val (.int (-p1)), .val (.int (0 : Int32)), .val (.int (-100 : Int32)), .val (.int (2 : Int32))] [(.int (-1000 : Int32))]))) (by rw [show ((10 : Int32) * (-100 : Int32)) = (-1000 : Int32) by decide]) ?_
      refine own_istoreN X0 hx hby d23_35 (l' := #[.val (.int (-p1)), .val (.int (0 : Int32)), .val (.int (-1000 : Int32)), .val (.int (2 : Int32))]) rfl ?_
      refine own_iinc X0 hx hby d23_36 rfl (l' := #[.val (.int (-p1)), .val (.int (0 : Int32)), .val (.int (-1000 : Int32)), .val (.int ((2 : Int32) + (1 : Int32)))]) rfl ?_
      refine own_eq (U' := (s₁.setTop (mkF m 39 #[.val (.int (-p1)), .val (.int (0 : Int32)), .val (.int (-1000 : Int32)), .val (.int (3 : Int32))] []))) (by rw [show ((2 : Int32) + (1 : Int32)) = (3 : Int32) by decide]) ?_
      refine own_goto X0 hx hby 39 16 d23_39 (by decide) (by decide) ?_
      refine own_iloadN X0 hx hby d23_16 rfl ?_
      refine own_bipush X0 hx hby 10 d23_17 rfl ?_
      have hc19_136 : (3 : Int32) < (10 : Int32) := by decide
      refine own_icmpNo X0 hx hby d23_19 (tlt hc19_136).2.1 ?_
      refine own_iloadN X0 hx hby d23_22 rfl ?_
      refine own_iloadN X0 hx hby d23_23 rfl ?_
      by_cases hc24_137 : (-1000 : Int32) < (-p1)
      · skip
        refine own_icmpNo X0 hx hby d23_24 (tlt hc24_137).2.2.2 ?_
        refine own_iloadN X0 hx hby d23_27 rfl ?_
        refine own_iloadN X0 hx hby d23_28 rfl ?_
        refine own_iadd X0 hx hby d23_29 ?_
        refine own_eq (U' := (s₁.setTop (mkF m 30 #[.val (.int (-p1)), .val (.int (0 : Int32)), .val (.int (-1000 : Int32)), .val (.int (3 : Int32))] [(.int (3 : Int32))]))) (by rw [show ((3 : Int32) + (0 : Int32)) = (3 : Int32) by decide]) ?_
        exact own_retI X0 hx hlk Bd.returns (hb hby d23_30) (by decide) (by decide) (⟨(3 : Int32), rfl, N0, e0, by have e1 := own_dlen p1.toInt.natAbs (by have := rng32 p1; omega); have e2 := own_sgl p1; have e3 : (own_num p1).length = (own_sg p1).length + (own_dec p1.toInt.natAbs).length := (by unfold own_num; rw [List.length_append]); rw [if_neg h1] at e2; have e0 := h1; rw [own_ltI, own_i0] at e0; have ey := own_neg0 h1; have q0 := hc24_133; rw [own_ltI, show ((-10 : Int32)).toInt = -10 by decide, ey] at q0; have q1 := hc24_135; rw [own_ltI, show ((-100 : Int32)).toInt = -100 by decide, ey] at q1; have q2 := hc24_137; rw [own_ltI, show ((-1000 : Int32)).toInt = -1000 by decide, ey] at q2; repeat (first | rw [if_neg (by omega)] at e1 | rw [if_pos (by omega)] at e1); rw [e3]; rw [show ((3 : Int32) : Int32).toInt = 3 by decide]; omega⟩)
      · skip
        refine own_icmpYes X0 hx hby 24 31 d23_24 (flt hc24_137).2.2.2 (by decide) (by decide) ?_
        refine own_bipush X0 hx hby 10 d23_31 rfl ?_
        refine own_iloadN X0 hx hby d23_33 rfl ?_
        refine own_imul X0 hx hby d23_34 ?_
        refine own_eq (U' := (s₁.setTop (mkF m 35 #[.val (.int (-p1)), .val (.int (0 : Int32)), .val (.int (-1000 : Int32)), .val (.int (3 : Int32))] [(.int (-10000 : Int32))]))) (by rw [show ((10 : Int32) * (-1000 : Int32)) = (-10000 : Int32) by decide]) ?_
        refine own_istoreN X0 hx hby d23_35 (l' := #[.val (.int (-p1)), .val (.int (0 : Int32)), .val (.int (-10000 : Int32)), .val (.int (3 : Int32))]) rfl ?_
        refine own_iinc X0 hx hby d23_36 rfl (l' := #[.val (.int (-p1)), .val (.int (0 : Int32)), .val (.int (-10000 : Int32)), .val (.int ((3 : Int32) + (1 : Int32)))]) rfl ?_
        refine own_eq (U' := (s₁.setTop (mkF m 39 #[.val (.int (-p1)), .val (.int (0 : Int32)), .val (.int (-10000 : Int32)), .val (.int (4 : Int32))] []))) (by rw [show ((3 : Int32) + (1 : Int32)) = (4 : Int32) by decide]) ?_
        refine own_goto X0 hx hby 39 16 d23_39 (by decide) (by decide) ?_
        refine own_iloadN X0 hx hby d23_16 rfl ?_
        refine own_bipush X0 hx hby 10 d23_17 rfl ?_
        have hc19_138 : (4 : Int32) < (10 : Int32) := by decide
        refine own_icmpNo X0 hx hby d23_19 (tlt hc19_138).2.1 ?_
        refine own_iloadN X0 hx hby d23_22 rfl ?_
        refine own_iloadN X0 hx hby d23_23 rfl ?_
        by_cases hc24_139 : (-10000 : Int32) < (-p1)
        · skip
          refine own_icmpNo X0 hx hby d23_24 (tlt hc24_139).2.2.2 ?_
          refine own_iloadN X0 hx hby d23_27 rfl ?_
          refine own_iloadN X0 hx hby d23_28 rfl ?_
          refine own_iadd X0 hx hby d23_29 ?_
          refine own_eq (U' := (s₁.setTop (mkF m 30 #[.val (.int (-p1)), .val (.int (0 : Int32)), .val (.int (-10000 : Int32)), .val (.int (4 : Int32))] [(.int (4 : Int32))]))) (by rw [show ((4 : Int32) + (0 : Int32)) = (4 : Int32) by decide]) ?_
          exact own_retI X0 hx hlk Bd.returns (hb hby d23_30) (by decide) (by decide) (⟨(4 : Int32), rfl, N0, e0, by have e1 := own_dlen p1.toInt.natAbs (by have := rng32 p1; omega); have e2 := own_sgl p1; have e3 : (own_num p1).length = (own_sg p1).length + (own_dec p1.toInt.natAbs).length := (by unfold own_num; rw [List.length_append]); rw [if_neg h1] at e2; have e0 := h1; rw [own_ltI, own_i0] at e0; have ey := own_neg0 h1; have q0 := hc24_133; rw [own_ltI, show ((-10 : Int32)).toInt = -10 by decide, ey] at q0; have q1 := hc24_135; rw [own_ltI, show ((-100 : Int32)).toInt = -100 by decide, ey] at q1; have q2 := hc24_137; rw [own_ltI, show ((-1000 : Int32)).toInt = -1000 by decide, ey] at q2; have q3 := hc24_139; rw [own_ltI, show ((-10000 : Int32)).toInt = -10000 by decide, ey] at q3; repeat (first | rw [if_neg (by omega)] at e1 | rw [if_pos (by omega)] at e1); rw [e3]; rw [show ((4 : Int32) : Int32).toInt = 4 by decide]; omega⟩)
        · skip
          refine own_icmpYes X0 hx hby 24 31 d23_24 (flt hc24_139).2.2.2 (by decide) (by decide) ?_
          refine own_bipush X0 hx hby 10 d23_31 rfl ?_
          refine own_iloadN X0 hx hby d23_33 rfl ?_
          refine own_imul X0 hx hby d23_34 ?_
          refine own_eq (U' := (s₁.setTop (mkF m 35 #[.val (.int (-p1)), .val (.int (0 : Int32)), .val (.int (-10000 : Int32)), .val (.int (4 : Int32))] [(.int (-100000 : Int32))]))) (by rw [show ((10 : Int32) * (-10000 : Int32)) = (-100000 : Int32) by decide]) ?_
          refine own_istoreN X0 hx hby d23_35 (l' := #[.val (.int (-p1)), .val (.int (0 : Int32)), .val (.int (-100000 : Int32)), .val (.int (4 : Int32))]) rfl ?_
          refine own_iinc X0 hx hby d23_36 rfl (l' := #[.val (.int (-p1)), .val (.int (0 : Int32)), .val (.int (-100000 : Int32)), .val (.int ((4 : Int32) + (1 : Int32)))]) rfl ?_
          refine own_eq (U' := (s₁.setTop (mkF m 39 #[.val (.int (-p1)), .val (.int (0 : Int32)), .val (.int (-100000 : Int32)), .val (.int (5 : Int32))] []))) (by rw [show ((4 : Int32) + (1 : Int32)) = (5 : Int32) by decide]) ?_
          refine own_goto X0 hx hby 39 16 d23_39 (by decide) (by decide) ?_
          refine own_iloadN X0 hx hby d23_16 rfl ?_
          refine own_bipush X0 hx hby 10 d23_17 rfl ?_
          have hc19_140 : (5 : Int32) < (10 : Int32) := by decide
          refine own_icmpNo X0 hx hby d23_19 (tlt hc19_140).2.1 ?_
          refine own_iloadN X0 hx hby d23_22 rfl ?_
          refine own_iloadN X0 hx hby d23_23 rfl ?_
          by_cases hc24_141 : (-100000 : Int32) < (-p1)
          · skip
            refine own_icmpNo X0 hx hby d23_24 (tlt hc24_141).2.2.2 ?_
            refine own_iloadN X0 hx hby d23_27 rfl ?_
            refine own_iloadN X0 hx hby d23_28 rfl ?_
            refine own_iadd X0 hx hby d23_29 ?_
            refine own_eq (U' := (s₁.setTop (mkF m 30 #[.val (.int (-p1)), .val (.int (0 : Int32)), .val (.int (-100000 : Int32)), .val (.int (5 : Int32))] [(.int (5 : Int32))]))) (by rw [show ((5 : Int32) + (0 : Int32)) = (5 : Int32) by decide]) ?_
            exact own_retI X0 hx hlk Bd.returns (hb hby d23_30) (by decide) (by decide) (⟨(5 : Int32), rfl, N0, e0, by have e1 := own_dlen p1.toInt.natAbs (by have := rng32 p1; omega); have e2 := own_sgl p1; have e3 : (own_num p1).length = (own_sg p1).length + (own_dec p1.toInt.natAbs).length := (by unfold own_num; rw [List.length_append]); rw [if_neg h1] at e2; have e0 := h1; rw [own_ltI, own_i0] at e0; have ey := own_neg0 h1; have q0 := hc24_133; rw [own_ltI, show ((-10 : Int32)).toInt = -10 by decide, ey] at q0; have q1 := hc24_135; rw [own_ltI, show ((-100 : Int32)).toInt = -100 by decide, ey] at q1; have q2 := hc24_137; rw [own_ltI, show ((-1000 : Int32)).toInt = -1000 by decide, ey] at q2; have q3 := hc24_139; rw [own_ltI, show ((-10000 : Int32)).toInt = -10000 by decide, ey] at q3; have q4 := hc24_141; rw [own_ltI, show ((-100000 : Int32)).toInt = -100000 by decide, ey] at q4; repeat (first | rw [if_neg (by omega)] at e1 | rw [if_pos (by omega)] at e1); rw [e3]; rw [show ((5 : Int32) : Int32).toInt = 5 by decide]; omega⟩)
          · skip
            refine own_icmpYes X0 hx hby 24 31 d23_24 (flt hc24_141).2.2.2 (by decide) (by decide) ?_
            refine own_bipush X0 hx hby 10 d23_31 rfl ?_
            refine own_iloadN X0 hx hby d23_33 rfl ?_
            refine own_imul X0 hx hby d23_34 ?_
            refine own_eq (U' := (s₁.setTop (mkF m 35 #[.val (.int (-p1)), .val (.int (0 : Int32)), .val (.int (-100000 : Int32)), .val (.int (5 : Int32))] [(.int (-1000000 : Int32))]))) (by rw [show ((10 : Int32) * (-100000 : Int32)) = (-1000000 : Int32) by decide]) ?_
            refine own_istoreN X0 hx hby d23_35 (l' := #[.val (.int (-p1)), .val (.int (0 : Int32)), .val (.int (-1000000 : Int32)), .val (.int (5 : Int32))]) rfl ?_
            refine own_iinc X0 hx hby d23_36 rfl (l' := #[.val (.int (-p1)), .val (.int (0 : Int32)), .val (.int (-1000000 : Int32)), .val (.int ((5 : Int32) + (1 : Int32)))]) rfl ?_
            refine own_eq (U' := (s₁.setTop (mkF m 39 #[.val (.int (-p1)), .val (.int (0 : Int32)), .val (.int (-1000000 : Int32)), .val (.int (6 : Int32))] []))) (by rw [show ((5 : Int32) + (1 : Int32)) = (6 : Int32) by decide]) ?_
            refine own_goto X0 hx hby 39 16 d23_39 (by decide) (by decide) ?_
            refine own_iloadN X0 hx hby d23_16 rfl ?_
            refine own_bipush X0 hx hby 10 d23_17 rfl ?_
            have hc19_142 : (6 : Int32) < (10 : Int32) := by decide
            refine own_icmpNo X0 hx hby d23_19 (tlt hc19_142).2.1 ?_
            refine own_iloadN X0 hx hby d23_22 rfl ?_
            refine own_iloadN X0 hx hby d23_23 rfl ?_
            by_cases hc24_143 : (-1000000 : Int32) < (-p1)
            · skip
              refine own_icmpNo X0 hx hby d23_24 (tlt hc24_143).2.2.2 ?_
              refine own_iloadN X0 hx hby d23_27 rfl ?_
              refine own_iloadN X0 hx hby d23_28 rfl ?_
              refine own_iadd X0 hx hby d23_29 ?_
              refine own_eq (U' := (s₁.setTop (mkF m 30 #[.val (.int (-p1)), .val (.int (0 : Int32)), .val (.int (-1000000 : Int32)), .val (.int (6 : Int32))] [(.int (6 : Int32))]))) (by rw [show ((6 : Int32) + (0 : Int32)) = (6 : Int32) by decide]) ?_
              exact own_retI X0 hx hlk Bd.returns (hb hby d23_30) (by decide) (by decide) (⟨(6 : Int32), rfl, N0, e0, by have e1 := own_dlen p1.toInt.natAbs (by have := rng32 p1; omega); have e2 := own_sgl p1; have e3 : (own_num p1).length = (own_sg p1).length + (own_dec p1.toInt.natAbs).length := (by unfold own_num; rw [List.length_append]); rw [if_neg h1] at e2; have e0 := h1; rw [own_ltI, own_i0] at e0; have ey := own_neg0 h1; have q0 := hc24_133; rw [own_ltI, show ((-10 : Int32)).toInt = -10 by decide, ey] at q0; have q1 := hc24_135; rw [own_ltI, show ((-100 : Int32)).toInt = -100 by decide, ey] at q1; have q2 := hc24_137; rw [own_ltI, show ((-1000 : Int32)).toInt = -1000 by decide, ey] at q2; have q3 := hc24_139; rw [own_ltI, show ((-10000 : Int32)).toInt = -10000 by decide, ey] at q3; have q4 := hc24_141; rw [own_ltI, show ((-100000 : Int32)).toInt = -100000 by decide, ey] at q4; have q5 := hc24_143; rw [own_ltI, show ((-1000000 : Int32)).toInt = -1000000 by decide, ey] at q5; repeat (first | rw [if_neg (by omega)] at e1 | rw [if_pos (by omega)] at e1); rw [e3]; rw [show ((6 : Int32) : Int32).toInt = 6 by decide]; omega⟩)
            · skip
              refine own_icmpYes X0 hx hby 24 31 d23_24 (flt hc24_143).2.2.2 (by decide) (by decide) ?_
              refine own_bipush X0 hx hby 10 d23_31 rfl ?_
              refine own_iloadN X0 hx hby d23_33 rfl ?_
              refine own_imul X0 hx hby d23_34 ?_
              refine own_eq (U' := (s₁.setTop (mkF m 35 #[.val (.int (-p1)), .val (.int (0 : Int32)), .val (.int (-1000000 : Int32)), .val (.int (6 : Int32))] [(.int (-10000000 : Int32))]))) (by rw [show ((10 : Int32) * (-1000000 : Int32)) = (-10000000 : Int32) by decide]) ?_
              refine own_istoreN X0 hx hby d23_35 (l' := #[.val (.int (-p1)), .val (.int (0 : Int32)), .val (.int (-10000000 : Int32)), .val (.int (6 : Int32))]) rfl ?_
              refine own_iinc X0 hx hby d23_36 rfl (l' := #[.val (.int (-p1)), .val (.int (0 : Int32)), .val (.int (-10000000 : Int32)), .val (.int ((6 : Int32) + (1 : Int32)))]) rfl ?_
              refine own_eq (U' := (s₁.setTop (mkF m 39 #[.val (.int (-p1)), .val (.int (0 : Int32)), .val (.int (-10000000 : Int32)), .val (.int (7 : Int32))] []))) (by rw [show ((6 : Int32) + (1 : Int32)) = (7 : Int32) by decide]) ?_
              refine own_goto X0 hx hby 39 16 d23_39 (by decide) (by decide) ?_
              refine own_iloadN X0 hx hby d23_16 rfl ?_
              refine own_bipush X0 hx hby 10 d23_17 rfl ?_
              have hc19_144 : (7 : Int32) < (10 : Int32) := by decide
              refine own_icmpNo X0 hx hby d23_19 (tlt hc19_144).2.1 ?_
              refine own_iloadN X0 hx hby d23_22 rfl ?_
              refine own_iloadN X0 hx hby d23_23 rfl ?_
              by_cases hc24_145 : (-10000000 : Int32) < (-p1)
              · skip
                refine own_icmpNo X0 hx hby d23_24 (tlt hc24_145).2.2.2 ?_
                refine own_iloadN X0 hx hby d23_27 rfl ?_
                refine own_iloadN X0 hx hby d23_28 rfl ?_
                refine own_iadd X0 hx hby d23_29 ?_
                refine own_eq (U' := (s₁.setTop (mkF m 30 #[.val (.int (-p1)), .val (.int (0 : Int32)), .val (.int (-10000000 : Int32)), .val (.int (7 : Int32))] [(.int (7 : Int32))]))) (by rw [show ((7 : Int32) + (0 : Int32)) = (7 : Int32) by decide]) ?_
                exact own_retI X0 hx hlk Bd.returns (hb hby d23_30) (by decide) (by decide) (⟨(7 : Int32), rfl, N0, e0, by have e1 := own_dlen p1.toInt.natAbs (by have := rng32 p1; omega); have e2 := own_sgl p1; have e3 : (own_num p1).length = (own_sg p1).length + (own_dec p1.toInt.natAbs).length := (by unfold own_num; rw [List.length_append]); rw [if_neg h1] at e2; have e0 := h1; rw [own_ltI, own_i0] at e0; have ey := own_neg0 h1; have q0 := hc24_133; rw [own_ltI, show ((-10 : Int32)).toInt = -10 by decide, ey] at q0; have q1 := hc24_135; rw [own_ltI, show ((-100 : Int32)).toInt = -100 by decide, ey] at q1; have q2 := hc24_137; rw [own_ltI, show ((-1000 : Int32)).toInt = -1000 by decide, ey] at q2; have q3 := hc24_139; rw [own_ltI, show ((-10000 : Int32)).toInt = -10000 by decide, ey] at q3; have q4 := hc24_141; rw [own_ltI, show ((-100000 : Int32)).toInt = -100000 by decide, ey] at q4; have q5 := hc24_143; rw [own_ltI, show ((-1000000 : Int32)).toInt = -1000000 by decide, ey] at q5; have q6 := hc24_145; rw [own_ltI, show ((-10000000 : Int32)).toInt = -10000000 by decide, ey] at q6; repeat (first | rw [if_neg (by omega)] at e1 | rw [if_pos (by omega)] at e1); rw [e3]; rw [show ((7 : Int32) : Int32).toInt = 7 by decide]; omega⟩)
              · skip
                refine own_icmpYes X0 hx hby 24 31 d23_24 (flt hc24_145).2.2.2 (by decide) (by decide) ?_
                refine own_bipush X0 hx hby 10 d23_31 rfl ?_
                refine own_iloadN X0 hx hby d23_33 rfl ?_
                refine own_imul X0 hx hby d23_34 ?_
                refine own_eq (U' := (s₁.setTop (mkF m 35 #[.val (.int (-p1)), .val (.int (0 : Int32)), .val (.int (-10000000 : Int32)), .val (.int (7 : Int32))] [(.int (-100000000 : Int32))]))) (by rw [show ((10 : Int32) * (-10000000 : Int32)) = (-100000000 : Int32) by decide]) ?_
                refine own_istoreN X0 hx hby d23_35 (l' := #[.val (.int (-p1)), .val (.int (0 : Int32)), .val (.int (-100000000 : Int32)), .val (.int (7 : Int32))]) rfl ?_
                refine own_iinc X0 hx hby d23_36 rfl (l' := #[.val (.int (-p1)), .val (.int (0 : Int32)), .val (.int (-100000000 : Int32)), .val (.int ((7 : Int32) + (1 : Int32)))]) rfl ?_
                refine own_eq (U' := (s₁.setTop (mkF m 39 #[.val (.int (-p1)), .val (.int (0 : Int32)), .val (.int (-100000000 : Int32)), .val (.int (8 : Int32))] []))) (by rw [show ((7 : Int32) + (1 : Int32)) = (8 : Int32) by decide]) ?_
                refine own_goto X0 hx hby 39 16 d23_39 (by decide) (by decide) ?_
                refine own_iloadN X0 hx hby d23_16 rfl ?_
                refine own_bipush X0 hx hby 10 d23_17 rfl ?_
                have hc19_146 : (8 : Int32) < (10 : Int32) := by decide
                refine own_icmpNo X0 hx hby d23_19 (tlt hc19_146).2.1 ?_
                refine own_iloadN X0 hx hby d23_22 rfl ?_
                refine own_iloadN X0 hx hby d23_23 rfl ?_
                by_cases hc24_147 : (-100000000 : Int32) < (-p1)
                · skip
                  refine own_icmpNo X0 hx hby d23_24 (tlt hc24_147).2.2.2 ?_
                  refine own_iloadN X0 hx hby d23_27 rfl ?_
                  refine own_iloadN X0 hx hby d23_28 rfl ?_
                  refine own_iadd X0 hx hby d23_29 ?_
                  refine own_eq (U' := (s₁.setTop (mkF m 30 #[.val (.int (-p1)), .val (.int (0 : Int32)), .val (.int (-100000000 : Int32)), .val (.int (8 : Int32))] [(.int (8 : Int32))]))) (by rw [show ((8 : Int32) + (0 : Int32)) = (8 : Int32) by decide]) ?_
                  exact own_retI X0 hx hlk Bd.returns (hb hby d23_30) (by decide) (by decide) (⟨(8 : Int32), rfl, N0, e0, by have e1 := own_dlen p1.toInt.natAbs (by have := rng32 p1; omega); have e2 := own_sgl p1; have e3 : (own_num p1).length = (own_sg p1).length + (own_dec p1.toInt.natAbs).length := (by unfold own_num; rw [List.length_append]); rw [if_neg h1] at e2; have e0 := h1; rw [own_ltI, own_i0] at e0; have ey := own_neg0 h1; have q0 := hc24_133; rw [own_ltI, show ((-10 : Int32)).toInt = -10 by decide, ey] at q0; have q1 := hc24_135; rw [own_ltI, show ((-100 : Int32)).toInt = -100 by decide, ey] at q1; have q2 := hc24_137; rw [own_ltI, show ((-1000 : Int32)).toInt = -1000 by decide, ey] at q2; have q3 := hc24_139; rw [own_ltI, show ((-10000 : Int32)).toInt = -10000 by decide, ey] at q3; have q4 := hc24_141; rw [own_ltI, show ((-100000 : Int32)).toInt = -100000 by decide, ey] at q4; have q5 := hc24_143; rw [own_ltI, show ((-1000000 : Int32)).toInt = -1000000 by decide, ey] at q5; have q6 := hc24_145; rw [own_ltI, show ((-10000000 : Int32)).toInt = -10000000 by decide, ey] at q6; have q7 := hc24_147; rw [own_ltI, show ((-100000000 : Int32)).toInt = -100000000 by decide, ey] at q7; repeat (first | rw [if_neg (by omega)] at e1 | rw [if_pos (by omega)] at e1); rw [e3]; rw [show ((8 : Int32) : Int32).toInt = 8 by decide]; omega⟩)
                · skip
                  refine own_icmpYes X0 hx hby 24 31 d23_24 (flt hc24_147).2.2.2 (by decide) (by decide) ?_
                  refine own_bipush X0 hx hby 10 d23_31 rfl ?_
                  refine own_iloadN X0 hx hby d23_33 rfl ?_
                  refine own_imul X0 hx hby d23_34 ?_
                  refine own_eq (U' := (s₁.setTop (mkF m 35 #[.val (.int (-p1)), .val (.int (0 : Int32)), .val (.int (-100000000 : Int32)), .val (.int (8 : Int32))] [(.int (-1000000000 : Int32))]))) (by rw [show ((10 : Int32) * (-100000000 : Int32)) = (-1000000000 : Int32) by decide]) ?_
                  refine own_istoreN X0 hx hby d23_35 (l' := #[.val (.int (-p1)), .val (.int (0 : Int32)), .val (.int (-1000000000 : Int32)), .val (.int (8 : Int32))]) rfl ?_
                  refine own_iinc X0 hx hby d23_36 rfl (l' := #[.val (.int (-p1)), .val (.int (0 : Int32)), .val (.int (-1000000000 : Int32)), .val (.int ((8 : Int32) + (1 : Int32)))]) rfl ?_
                  refine own_eq (U' := (s₁.setTop (mkF m 39 #[.val (.int (-p1)), .val (.int (0 : Int32)), .val (.int (-1000000000 : Int32)), .val (.int (9 : Int32))] []))) (by rw [show ((8 : Int32) + (1 : Int32)) = (9 : Int32) by decide]) ?_
                  refine own_goto X0 hx hby 39 16 d23_39 (by decide) (by decide) ?_
                  refine own_iloadN X0 hx hby d23_16 rfl ?_
                  refine own_bipush X0 hx hby 10 d23_17 rfl ?_
                  have hc19_148 : (9 : Int32) < (10 : Int32) := by decide
                  refine own_icmpNo X0 hx hby d23_19 (tlt hc19_148).2.1 ?_
                  refine own_iloadN X0 hx hby d23_22 rfl ?_
                  refine own_iloadN X0 hx hby d23_23 rfl ?_
                  by_cases hc24_149 : (-1000000000 : Int32) < (-p1)
                  · skip
                    refine own_icmpNo X0 hx hby d23_24 (tlt hc24_149).2.2.2 ?_
                    refine own_iloadN X0 hx hby d23_27 rfl ?_
                    refine own_iloadN X0 hx hby d23_28 rfl ?_
                    refine own_iadd X0 hx hby d23_29 ?_
                    refine own_eq (U' := (s₁.setTop (mkF m 30 #[.val (.int (-p1)), .val (.int (0 : Int32)), .val (.int (-1000000000 : Int32)), .val (.int (9 : Int32))] [(.int (9 : Int32))]))) (by rw [show ((9 : Int32) + (0 : Int32)) = (9 : Int32) by decide]) ?_
                    exact own_retI X0 hx hlk Bd.returns (hb hby d23_30) (by decide) (by decide) (⟨(9 : Int32), rfl, N0, e0, by have e1 := own_dlen p1.toInt.natAbs (by have := rng32 p1; omega); have e2 := own_sgl p1; have e3 : (own_num p1).length = (own_sg p1).length + (own_dec p1.toInt.natAbs).length := (by unfold own_num; rw [List.length_append]); rw [if_neg h1] at e2; have e0 := h1; rw [own_ltI, own_i0] at e0; have ey := own_neg0 h1; have q0 := hc24_133; rw [own_ltI, show ((-10 : Int32)).toInt = -10 by decide, ey] at q0; have q1 := hc24_135; rw [own_ltI, show ((-100 : Int32)).toInt = -100 by decide, ey] at q1; have q2 := hc24_137; rw [own_ltI, show ((-1000 : Int32)).toInt = -1000 by decide, ey] at q2; have q3 := hc24_139; rw [own_ltI, show ((-10000 : Int32)).toInt = -10000 by decide, ey] at q3; have q4 := hc24_141; rw [own_ltI, show ((-100000 : Int32)).toInt = -100000 by decide, ey] at q4; have q5 := hc24_143; rw [own_ltI, show ((-1000000 : Int32)).toInt = -1000000 by decide, ey] at q5; have q6 := hc24_145; rw [own_ltI, show ((-10000000 : Int32)).toInt = -10000000 by decide, ey] at q6; have q7 := hc24_147; rw [own_ltI, show ((-100000000 : Int32)).toInt = -100000000 by decide, ey] at q7; have q8 := hc24_149; rw [own_ltI, show ((-1000000000 : Int32)).toInt = -1000000000 by decide, ey] at q8; repeat (first | rw [if_neg (by omega)] at e1 | rw [if_pos (by omega)] at e1); rw [e3]; rw [show ((9 : Int32) : Int32).toInt = 9 by decide]; omega⟩)
                  · skip
                    refine own_icmpYes X0 hx hby 24 31 d23_24 (flt hc24_149).2.2.2 (by decide) (by decide) ?_
                    refine own_bipush X0 hx hby 10 d23_31 rfl ?_
                    refine own_iloadN X0 hx hby d23_33 rfl ?_
                    refine own_imul X0 hx hby d23_34 ?_
                    refine own_eq (U' := (s₁.setTop (mkF m 35 #[.val (.int (-p1)), .val (.int (0 : Int32)), .val (.int (-1000000000 : Int32)), .val (.int (9 : Int32))] [(.int (-1410065408 : Int32))]))) (by rw [show ((10 : Int32) * (-1000000000 : Int32)) = (-1410065408 : Int32) by decide]) ?_
                    refine own_istoreN X0 hx hby d23_35 (l' := #[.val (.int (-p1)), .val (.int (0 : Int32)), .val (.int (-1410065408 : Int32)), .val (.int (9 : Int32))]) rfl ?_
                    refine own_iinc X0 hx hby d23_36 rfl (l' := #[.val (.int (-p1)), .val (.int (0 : Int32)), .val (.int (-1410065408 : Int32)), .val (.int ((9 : Int32) + (1 : Int32)))]) rfl ?_
                    refine own_eq (U' := (s₁.setTop (mkF m 39 #[.val (.int (-p1)), .val (.int (0 : Int32)), .val (.int (-1410065408 : Int32)), .val (.int (10 : Int32))] []))) (by rw [show ((9 : Int32) + (1 : Int32)) = (10 : Int32) by decide]) ?_
                    refine own_goto X0 hx hby 39 16 d23_39 (by decide) (by decide) ?_
                    refine own_iloadN X0 hx hby d23_16 rfl ?_
                    refine own_bipush X0 hx hby 10 d23_17 rfl ?_
                    have hc19_150 : ¬ ((10 : Int32) < (10 : Int32)) := by decide
                    refine own_icmpYes X0 hx hby 19 42 d23_19 (flt hc19_150).2.1 (by decide) (by decide) ?_
                    refine own_bipush X0 hx hby 10 d23_42 rfl ?_
                    refine own_iloadN X0 hx hby d23_44 rfl ?_
                    refine own_iadd X0 hx hby d23_45 ?_
                    refine own_eq (U' := (s₁.setTop (mkF m 46 #[.val (.int (-p1)), .val (.int (0 : Int32)), .val (.int (-1410065408 : Int32)), .val (.int (10 : Int32))] [(.int (10 : Int32))]))) (by rw [show ((10 : Int32) + (0 : Int32)) = (10 : Int32) by decide]) ?_
                    exact own_retI X0 hx hlk Bd.returns (hb hby d23_46) (by decide) (by decide) (⟨(10 : Int32), rfl, N0, e0, by have e1 := own_dlen p1.toInt.natAbs (by have := rng32 p1; omega); have e2 := own_sgl p1; have e3 : (own_num p1).length = (own_sg p1).length + (own_dec p1.toInt.natAbs).length := (by unfold own_num; rw [List.length_append]); rw [if_neg h1] at e2; have e0 := h1; rw [own_ltI, own_i0] at e0; have ey := own_neg0 h1; have q0 := hc24_133; rw [own_ltI, show ((-10 : Int32)).toInt = -10 by decide, ey] at q0; have q1 := hc24_135; rw [own_ltI, show ((-100 : Int32)).toInt = -100 by decide, ey] at q1; have q2 := hc24_137; rw [own_ltI, show ((-1000 : Int32)).toInt = -1000 by decide, ey] at q2; have q3 := hc24_139; rw [own_ltI, show ((-10000 : Int32)).toInt = -10000 by decide, ey] at q3; have q4 := hc24_141; rw [own_ltI, show ((-100000 : Int32)).toInt = -100000 by decide, ey] at q4; have q5 := hc24_143; rw [own_ltI, show ((-1000000 : Int32)).toInt = -1000000 by decide, ey] at q5; have q6 := hc24_145; rw [own_ltI, show ((-10000000 : Int32)).toInt = -10000000 by decide, ey] at q6; have q7 := hc24_147; rw [own_ltI, show ((-100000000 : Int32)).toInt = -100000000 by decide, ey] at q7; have q8 := hc24_149; rw [own_ltI, show ((-1000000000 : Int32)).toInt = -1000000000 by decide, ey] at q8; repeat (first | rw [if_neg (by omega)] at e1 | rw [if_pos (by omega)] at e1); rw [e3]; rw [show ((10 : Int32) : Int32).toInt = 10 by decide]; omega⟩)
set_option maxRecDepth 65536 in
theorem rmss (l : Launch) (Z : State) (a0 : Array Value) (hw : ∀ d ∈ tables_1, d.before a0 Z = true) (ws : List Jvm.Cond) (p1 : Int32) (h0 : Heap) (n0 : Nat) (Z0 : n0 ≤ h0.size)  :
    MetFree l mN_26 (head1 (Jvm.Cond.code mN_26 jdk_33_method_13_code 4 (some .int) :: ws) ({ frames := 0, cells := 0, slots := 0, locals := 0 } : Room)) (fun a U => a = #[(.int p1)] ∧ Z.Warmed39 U.vm ∧ U.heap = h0) (fun _ _ _ _ _ => True) (fun _ U o U' => ∃ v L, o = .returned v ∧ (Qss p1 h0 n0) v U'.heap L ∧ FrameEnd U o U' L ({ frames := 0, cells := 0, slots := 0, locals := 0 } : Room).cells ({ frames := 0, cells := 0, slots := 0, locals := 0 } : Room).slots) := by
  by_cases h1 : p1 < (0 : Int32)
  · exact rmss1 l Z a0 hw ws p1 h0 n0 Z0 h1
  · exact rmss0 l Z a0 hw ws p1 h0 n0 Z0 h1
abbrev mN_27 : MethodName := ⟨"java/lang/Integer", "getChars", "(II[B)I"⟩
theorem d25_0 : decode jdk_33_method_12_code 0 = .ok (.iload_n 1, 1) := by decide +kernel
theorem d25_1 : decode jdk_33_method_12_code 1 = .ok (.istore 5, 2) := by decide +kernel
theorem d25_3 : decode jdk_33_method_12_code 3 = .ok (.iload_n 0, 1) := by decide +kernel
theorem d25_4 : decode jdk_33_method_12_code 4 = .ok (.ifCond .ge 7, 3) := by decide +kernel
theorem d25_7 : decode jdk_33_method_12_code 7 = .ok (.iconst 1, 1) := by decide +kernel
theorem d25_8 : decode jdk_33_method_12_code 8 = .ok (.goto 4, 3) := by decide +kernel
theorem d25_11 : decode jdk_33_method_12_code 11 = .ok (.iconst 0, 1) := by decide +kernel
theorem d25_12 : decode jdk_33_method_12_code 12 = .ok (.istore 6, 2) := by decide +kernel
theorem d25_14 : decode jdk_33_method_12_code 14 = .ok (.iload 6, 2) := by decide +kernel
theorem d25_16 : decode jdk_33_method_12_code 16 = .ok (.ifCond .ne 6, 3) := by decide +kernel
theorem d25_19 : decode jdk_33_method_12_code 19 = .ok (.iload_n 0, 1) := by decide +kernel
theorem d25_20 : decode jdk_33_method_12_code 20 = .ok (.ineg, 1) := by decide +kernel
theorem d25_21 : decode jdk_33_method_12_code 21 = .ok (.istore_n 0, 1) := by decide +kernel
theorem d25_22 : decode jdk_33_method_12_code 22 = .ok (.iload_n 0, 1) := by decide +kernel
theorem d25_23 : decode jdk_33_method_12_code 23 = .ok (.bipush (-100), 2) := by decide +kernel
theorem d25_25 : decode jdk_33_method_12_code 25 = .ok (.if_icmp .gt 47, 3) := by decide +kernel
theorem d25_28 : decode jdk_33_method_12_code 28 = .ok (.iload_n 0, 1) := by decide +kernel
theorem d25_29 : decode jdk_33_method_12_code 29 = .ok (.bipush 100, 2) := by decide +kernel
theorem d25_31 : decode jdk_33_method_12_code 31 = .ok (.idiv, 1) := by decide +kernel
theorem d25_32 : decode jdk_33_method_12_code 32 = .ok (.istore_n 3, 1) := by decide +kernel
theorem d25_33 : decode jdk_33_method_12_code 33 = .ok (.iload_n 3, 1) := by decide +kernel
theorem d25_34 : decode jdk_33_method_12_code 34 = .ok (.bipush 100, 2) := by decide +kernel
theorem d25_36 : decode jdk_33_method_12_code 36 = .ok (.imul, 1) := by decide +kernel
theorem d25_37 : decode jdk_33_method_12_code 37 = .ok (.iload_n 0, 1) := by decide +kernel
theorem d25_38 : decode jdk_33_method_12_code 38 = .ok (.isub, 1) := by decide +kernel
theorem d25_39 : decode jdk_33_method_12_code 39 = .ok (.istore 4, 2) := by decide +kernel
theorem d25_41 : decode jdk_33_method_12_code 41 = .ok (.iload_n 3, 1) := by decide +kernel
theorem d25_42 : decode jdk_33_method_12_code 42 = .ok (.istore_n 0, 1) := by decide +kernel
theorem d25_43 : decode jdk_33_method_12_code 43 = .ok (.aload_n 2, 1) := by decide +kernel
theorem d25_44 : decode jdk_33_method_12_code 44 = .ok (.iinc 5 (-1), 3) := by decide +kernel
theorem d25_47 : decode jdk_33_method_12_code 47 = .ok (.iload 5, 2) := by decide +kernel
theorem d25_49 : decode jdk_33_method_12_code 49 = .ok (.getstatic 83, 3) := by decide +kernel
theorem d25_52 : decode jdk_33_method_12_code 52 = .ok (.iload 4, 2) := by decide +kernel
theorem d25_54 : decode jdk_33_method_12_code 54 = .ok (.baload, 1) := by decide +kernel
theorem d25_55 : decode jdk_33_method_12_code 55 = .ok (.bastore, 1) := by decide +kernel
theorem d25_56 : decode jdk_33_method_12_code 56 = .ok (.aload_n 2, 1) := by decide +kernel
theorem d25_57 : decode jdk_33_method_12_code 57 = .ok (.iinc 5 (-1), 3) := by decide +kernel
theorem d25_60 : decode jdk_33_method_12_code 60 = .ok (.iload 5, 2) := by decide +kernel
theorem d25_62 : decode jdk_33_method_12_code 62 = .ok (.getstatic 87, 3) := by decide +kernel
theorem d25_65 : decode jdk_33_method_12_code 65 = .ok (.iload 4, 2) := by decide +kernel
theorem d25_67 : decode jdk_33_method_12_code 67 = .ok (.baload, 1) := by decide +kernel
theorem d25_68 : decode jdk_33_method_12_code 68 = .ok (.bastore, 1) := by decide +kernel
theorem d25_69 : decode jdk_33_method_12_code 69 = .ok (.goto (-47), 3) := by decide +kernel
theorem d25_72 : decode jdk_33_method_12_code 72 = .ok (.aload_n 2, 1) := by decide +kernel
theorem d25_73 : decode jdk_33_method_12_code 73 = .ok (.iinc 5 (-1), 3) := by decide +kernel
theorem d25_76 : decode jdk_33_method_12_code 76 = .ok (.iload 5, 2) := by decide +kernel
theorem d25_78 : decode jdk_33_method_12_code 78 = .ok (.getstatic 83, 3) := by decide +kernel
theorem d25_81 : decode jdk_33_method_12_code 81 = .ok (.iload_n 0, 1) := by decide +kernel
theorem d25_82 : decode jdk_33_method_12_code 82 = .ok (.ineg, 1) := by decide +kernel
theorem d25_83 : decode jdk_33_method_12_code 83 = .ok (.baload, 1) := by decide +kernel
theorem d25_84 : decode jdk_33_method_12_code 84 = .ok (.bastore, 1) := by decide +kernel
theorem d25_85 : decode jdk_33_method_12_code 85 = .ok (.iload_n 0, 1) := by decide +kernel
theorem d25_86 : decode jdk_33_method_12_code 86 = .ok (.bipush (-9), 2) := by decide +kernel
theorem d25_88 : decode jdk_33_method_12_code 88 = .ok (.if_icmp .ge 16, 3) := by decide +kernel
theorem d25_91 : decode jdk_33_method_12_code 91 = .ok (.aload_n 2, 1) := by decide +kernel
theorem d25_92 : decode jdk_33_method_12_code 92 = .ok (.iinc 5 (-1), 3) := by decide +kernel
theorem d25_95 : decode jdk_33_method_12_code 95 = .ok (.iload 5, 2) := by decide +kernel
theorem d25_97 : decode jdk_33_method_12_code 97 = .ok (.getstatic 87, 3) := by decide +kernel
theorem d25_100 : decode jdk_33_method_12_code 100 = .ok (.iload_n 0, 1) := by decide +kernel
theorem d25_101 : decode jdk_33_method_12_code 101 = .ok (.ineg, 1) := by decide +kernel
theorem d25_102 : decode jdk_33_method_12_code 102 = .ok (.baload, 1) := by decide +kernel
theorem d25_103 : decode jdk_33_method_12_code 103 = .ok (.bastore, 1) := by decide +kernel
theorem d25_104 : decode jdk_33_method_12_code 104 = .ok (.iload 6, 2) := by decide +kernel
theorem d25_106 : decode jdk_33_method_12_code 106 = .ok (.ifCond .eq 12, 3) := by decide +kernel
theorem d25_109 : decode jdk_33_method_12_code 109 = .ok (.aload_n 2, 1) := by decide +kernel
theorem d25_110 : decode jdk_33_method_12_code 110 = .ok (.iinc 5 (-1), 3) := by decide +kernel
theorem d25_113 : decode jdk_33_method_12_code 113 = .ok (.iload 5, 2) := by decide +kernel
theorem d25_115 : decode jdk_33_method_12_code 115 = .ok (.bipush 45, 2) := by decide +kernel
theorem d25_117 : decode jdk_33_method_12_code 117 = .ok (.bastore, 1) := by decide +kernel
theorem d25_118 : decode jdk_33_method_12_code 118 = .ok (.iload 5, 2) := by decide +kernel
theorem d25_120 : decode jdk_33_method_12_code 120 = .ok (.ireturn, 1) := by decide +kernel
theorem ef_gc (m : MethodId) (x0 : Int32) (x1 : Int32) (x2 : Addr) : entryFrame m #[(.int x0), (.int x1), (.ref x2)] 7 = mkF m 0 #[.val (.int x0), .val (.int x1), .val (.ref x2), .unset, .unset, .unset, .unset] [] := by first | (simp [entryFrame, mkF, argsToLocals, Value.category]; done) | rfl
def Qgc (Z : State) (b : Addr) (kb : ClassId) (z x : Int32) (cs : List Int32) (h0 : Heap) (n0 : Nat) (v : Option Value) (h : Heap) (L : List Loc) : Prop := ∃ r : Int32, v = some (.int r) ∧ Fr n0 L ∧ Keep h0 h [b] ∧ Arv Z h b kb .byte z (List.map Value.int (cs ++ own_num x)) (.int (0 : Int32))
set_option maxRecDepth 65536 in
set_option maxHeartbeats 40000000 in
theorem rmgc (l : Launch) (Z : State) (a0 : Array Value) (hw : ∀ d ∈ tables_1, d.before a0 Z = true) (ws : List Jvm.Cond) (p1 p2 : Int32) (b : Addr) (kb : ClassId) (z : Int32) (cs : List Int32) (ao at_ : Addr) (ko kt : ClassId) (h0 : Heap) (n0 : Nat) (Z0 : n0 ≤ h0.size) (Vb : Arv Z h0 b kb .byte z (List.map Value.int cs) (.int (0 : Int32))) (hp : p2.toInt = (cs.length : Int) + (own_num p1).length) (hf : (cs.length : Int) + (own_num p1).length ≤ z.toInt) (hzb : z.toInt ≤ 34) (g_b : n0 ≤ b) (neo : ao ≠ b) (net : at_ ≠ b) (SO : Sta Z h0 "java/lang/Integer" "DigitOnes" "[B" (.ref ao)) (Vo : Arv Z h0 ao ko .byte (100 : Int32) (List.map Value.int own_ones) (.int (0 : Int32))) (ST : Sta Z h0 "java/lang/Integer" "DigitTens" "[B" (.ref at_)) (Vt : Arv Z h0 at_ kt .byte (100 : Int32) (List.map Value.int own_tens) (.int (0 : Int32))) :
    MetFree l mN_27 (head1 (Jvm.Cond.code mN_27 jdk_33_method_12_code 7 (some .int) :: ws) ({ frames := 0, cells := 0, slots := 0, locals := 0 } : Room)) (fun a U => a = #[(.int p1), (.int p2), (.ref b)] ∧ Z.Warmed39 U.vm ∧ U.heap = h0) (fun _ _ _ _ _ => True) (fun _ U o U' => ∃ v L, o = .returned v ∧ (Qgc Z b kb z p1 cs h0 n0) v U'.heap L ∧ FrameEnd U o U' L ({ frames := 0, cells := 0, slots := 0, locals := 0 } : Room).cells ({ frames := 0, cells := 0, slots := 0, locals := 0 } : Room).slots) := by
  refine MetFree.of_bodySF (plainFor_of_name pn_5) hisR ?_
  intro p e s m args below meth c s₁ Bd hml0 hP hK
  obtain ⟨rfl, hZ, hh⟩ := hP
  have hx := Bd.exec
  have hby := Bd.bytes
  have hml : c.maxLocals = 7 := hml0
  have hown : s.vm.findClass "java/lang/Integer" = some m.cls := findClass_of_methodNamed Bd.named
  have hnm := (name_of_methodNamed Bd.named Bd.method).1
  have hlk := Bd.notSynchronized
  have X0 : Stand p l e ({ frames := 0, cells := 0, slots := 0, locals := 0 } : Room) s m #[(.int p1), (.int p2), (.ref b)] below meth c s₁ [] 0 0 := Stand.of_body Bd
  have e0 : s₁.heap = h0 := by rw [← hh, Bd.state]; rfl
  have N0 := Fr.nil n0
  have KK := Keep.refl h0 [b]
  show own_Ends p e below s FrameEnd (Qgc Z b kb z p1 cs h0 n0) 0 0 (s₁.setTop (entryFrame m #[(.int p1), (.int p2), (.ref b)] 7))
  refine own_of (U' := (s₁.setTop (mkF m 0 #[.val (.int p1), .val (.int p2), .val (.ref b), .unset, .unset, .unset, .unset] []))) (fun _ k => castTop (ef_gc m p1 p2 b) k) ?_
  refine own_iloadN X0 hx hby d25_0 rfl ?_
  refine own_istore X0 hx hby d25_1 (l' := #[.val (.int p1), .val (.int p2), .val (.ref b), .unset, .unset, .val (.int p2), .unset]) rfl ?_
  refine own_iloadN X0 hx hby d25_3 rfl ?_
  obtain ⟨sv, hsv⟩ : ∃ z : Int32, z = (if p1 < (0 : Int32) then (1 : Int32) else (0 : Int32)) := ⟨_, rfl⟩
  suffices key4 : own_Ends p e below s FrameEnd (Qgc Z b kb z p1 cs h0 n0) 0 0 (s₁.setTop (mkF m 12 #[.val (.int p1), .val (.int p2), .val (.ref b), .unset, .unset, .val (.int p2), .unset] [(.int sv)])) by
    by_cases hc4_151 : p1 < (0 : Int32)
    · skip
      refine own_ifNo X0 hx hby d25_4 ((if0 _ _).trans (tlt hc4_151).2.1) ?_
      refine own_iconst X0 hx hby 1 d25_7 rfl ?_
      refine own_goto X0 hx hby 8 12 d25_8 (by decide) (by decide) ?_
      have tsv : sv = (1 : Int32) := by rw [hsv, if_pos hc4_151]
      exact own_eq (by rw [tsv]) key4
    · skip
      refine own_ifYes X0 hx hby 4 11 d25_4 ((if0 _ _).trans (flt hc4_151).2.1) (by decide) (by decide) ?_
      refine own_iconst X0 hx hby 0 d25_11 rfl ?_
      have tsv : sv = (0 : Int32) := by rw [hsv, if_neg hc4_151]
      exact own_eq (by rw [tsv]) key4
  refine own_istore X0 hx hby d25_12 (l' := #[.val (.int p1), .val (.int p2), .val (.ref b), .unset, .unset, .val (.int p2), .val (.int sv)]) rfl ?_
  refine own_iload X0 hx hby d25_14 rfl ?_
  obtain ⟨y0, hy0⟩ : ∃ z : Int32, z = (if sv = (0 : Int32) then (-p1) else p1) := ⟨_, rfl⟩
  suffices key16 : own_Ends p e below s FrameEnd (Qgc Z b kb z p1 cs h0 n0) 0 0 (s₁.setTop (mkF m 22 #[.val (.int y0), .val (.int p2), .val (.ref b), .unset, .unset, .val (.int p2), .val (.int sv)] [])) by
    by_cases hc16_152 : sv = (0 : Int32)
    · skip
      refine own_ifNo X0 hx hby d25_16 ((if0 _ _).trans (teq hc16_152).2) ?_
      refine own_iloadN X0 hx hby d25_19 rfl ?_
      refine own_ineg X0 hx hby d25_20 ?_
      refine own_istoreN X0 hx hby d25_21 (l' := #[.val (.int (-p1)), .val (.int p2), .val (.ref b), .unset, .unset, .val (.int p2), .val (.int sv)]) rfl ?_
      have ty0 : y0 = (-p1) := by rw [hy0, if_pos hc16_152]
      exact own_eq (by rw [ty0]) key16
    · skip
      refine own_ifYes X0 hx hby 16 22 d25_16 ((if0 _ _).trans (feq hc16_152).2) (by decide) (by decide) ?_
      have ty0 : y0 = p1 := by rw [hy0, if_neg hc16_152]
      exact own_eq (by rw [ty0]) key16
  obtain ⟨sgn, hsgn⟩ : ∃ q : Nat, q = (own_sg p1).length := ⟨_, rfl⟩
  have hnl : (own_num p1).length = sgn + (own_dec p1.toInt.natAbs).length := by rw [hsgn]; unfold own_num; rw [List.length_append]
  have hy : y0.toInt = -(p1.toInt.natAbs : Int) := own_ya hsv hy0
  replace Vb := Arv.pad Vb (own_padk cs (sgn + (own_dec p1.toInt.natAbs).length))
  replace Vb : Arv Z h0 b kb .byte z (List.map Value.int (cs ++ (List.replicate (sgn + (own_dec p1.toInt.natAbs).length) (0 : Int32) ++ ([])))) (.int (0 : Int32)) := by rw [List.append_nil]; exact Vb
  suffices key153 : ∀ (mm : Nat) (T153 : State) (L153 : List Loc) (hq153 : Heap) (y : Int32) (x3 : Slot) (x4 : Slot) (pp : Int32) (R : Nat) (ds : List Int32), Stand p l e ({ frames := 0, cells := 0, slots := 0, locals := 0 } : Room) s m #[(.int p1), (.int p2), (.ref b)] below meth c T153 L153 0 0 → T153.heap = hq153 → Fr n0 L153 → (n0 ≤ hq153.size) → (Arv Z hq153 b kb .byte z (List.map Value.int (cs ++ (List.replicate R (0 : Int32) ++ (ds)))) (.int (0 : Int32))) → (Sta Z hq153 "java/lang/Integer" "DigitOnes" "[B" (.ref ao)) → (Arv Z hq153 ao ko .byte (100 : Int32) (List.map Value.int own_ones) (.int (0 : Int32))) → (Sta Z hq153 "java/lang/Integer" "DigitTens" "[B" (.ref at_)) → (Arv Z hq153 at_ kt .byte (100 : Int32) (List.map Value.int own_tens) (.int (0 : Int32))) → (Keep h0 hq153 [b]) → (y.toInt = -(mm : Int) ∧ pp.toInt = (cs.length : Int) + (R : Nat) ∧ R = sgn + (own_dec mm).length ∧ mm ≤ 2147483648 ∧ own_dec p1.toInt.natAbs = own_dec mm ++ ds ∧ (x3 = Slot.unset ∨ ∃ v : Int32, x3 = Slot.val (Value.int v)) ∧ (x4 = Slot.unset ∨ ∃ v : Int32, x4 = Slot.val (Value.int v))) → own_Ends p e below s FrameEnd (Qgc Z b kb z p1 cs h0 n0) 0 0 (T153.setTop (mkF m 22 #[.val (.int y), .val (.int p2), .val (.ref b), x3, x4, .val (.int pp), .val (.int sv)] [])) by
    exact key153 p1.toInt.natAbs _ _ _ _ _ _ _ (sgn + (own_dec p1.toInt.natAbs).length) [] X0 e0 N0 Z0 Vb SO Vo ST Vt KK ⟨hy, by omega, rfl, by have := rng32 p1; omega, by rw [List.append_nil], Or.inl rfl, Or.inl rfl⟩
  intro mm
  induction mm using Nat.strongRecOn with
  | _ mm ih153 =>
    intro T153 L153 hq153 y x3 x4 pp R ds X153 e153 N153 Z0 Vb SO Vo ST Vt KK iv
    obtain ⟨hy, hpp, hR, hmb, hD, hs_x3, hs_x4⟩ := iv
    refine own_iloadN X153 hx hby d25_22 rfl ?_
    refine own_bipush X153 hx hby (-100) d25_23 rfl ?_
    by_cases hc25_154 : (-100 : Int32) < y
    · skip
      refine own_icmpYes X153 hx hby 25 72 d25_25 (tlt hc25_154).2.2.1 (by decide) (by decide) ?_
      have hDl := congrArg List.length hD
      rw [List.length_append] at hDl
      have lt_m : ¬ 100 ≤ mm := by have q := hc25_154; rw [own_ltI, own_im100] at q; omega
      have en : (-y).toInt = (mm : Nat) := own_negI hy (by omega)
      by_cases t_m : 10 ≤ mm
      · skip
        have d_m := own_digT lt_m t_m
        obtain rfl : R = (sgn + 1 + 1) := by rw [hR, d_m]; rfl
        refine own_aloadN X153 hx hby d25_72 rfl rfl ?_
        refine own_iinc X153 hx hby d25_73 rfl (l' := #[.val (.int y), .val (.int p2), .val (.ref b), x3, x4, .val (.int (pp + (-1 : Int32))), .val (.int sv)]) rfl ?_
        obtain ⟨pp155, hpp155⟩ : ∃ z, z = (pp + (-1 : Int32)) := ⟨_, rfl⟩
        refine own_eq (U' := (T153.setTop (mkF m 76 #[.val (.int y), .val (.int p2), .val (.ref b), x3, x4, .val (.int pp155), .val (.int sv)] [(.ref b)]))) (by rw [hpp155]) ?_
        have pp155_e : pp155.toInt = (cs.length : Int) + ((sgn + 1) : Nat) := by rw [hpp155, own_addI (by rw [own_im1, hpp]; omega) (by rw [own_im1, hpp]; omega), own_im1, hpp]; omega
        refine own_iload X153 hx hby d25_76 rfl ?_
        obtain ⟨T156, X156, e156, st156⟩ := getS2 X153 hx hZ hown (host := "") (Or.inl (own_w hw 147 rfl)) Via.refl e153 SO (g := (mkF m 78 #[.val (.int y), .val (.int p2), .val (.ref b), x3, x4, .val (.int pp155), .val (.int sv)] [(.int pp155), (.ref b)])) rfl (hb hby d25_78)
        refine own_of (U' := (T156.setTop (mkF m 81 #[.val (.int y), .val (.int p2), .val (.ref b), x3, x4, .val (.int pp155), .val (.int sv)] [(.ref ao), (.int pp155), (.ref b)]))) (st156) ?_
        refine own_iloadN X156 hx hby d25_81 rfl ?_
        refine own_ineg X156 hx hby d25_82 ?_
        obtain ⟨cl157, Ar157, qa157, Sa157, Na157, Ha157, Ga157⟩ := id Vo
        have hin157 : ¬ ((-y) < 0 ∨ cl157.slots.size ≤ ((-y)).toNatClampNeg) := inb_of Sa157 ⟨own_ge0 (by rw [en]; omega), by rw [own_ltI, own_i100, en]; omega⟩
        have hat157 : cl157.slots[((-y)).toNatClampNeg]? = some (.int (own_at own_ones (-y))) := Has.at Ha157 hin157 (own_at_eq own_ones _)
        refine own_of (U' := (T156.setTop (mkF m 84 #[.val (.int y), .val (.int p2), .val (.ref b), x3, x4, .val (.int pp155), .val (.int sv)] [(.int (own_at own_ones (-y))), (.int pp155), (.ref b)]))) (X156.baloadBytes hx (j := (-y)) (v := (.int (own_at own_ones (-y)))) (by rw [e156]; exact Ar157.1) (State.isArrayOf_alike hZ.alike Ar157.2.1) Ar157.2.2 hin157 hat157 (g := (mkF m 83 #[.val (.int y), .val (.int p2), .val (.ref b), x3, x4, .val (.int pp155), .val (.int sv)] [(.int (-y)), (.ref ao), (.int pp155), (.ref b)])) rfl rfl (hb hby d25_83)) ?_
        refine own_eq (U' := (T156.setTop (mkF m 84 #[.val (.int y), .val (.int p2), .val (.ref b), x3, x4, .val (.int pp155), .val (.int sv)] [(.int (own_o mm)), (.int pp155), (.ref b)]))) (by rw [show (own_at own_ones (-y)) = (own_o mm) from own_at_r en (by omega)]) ?_
        obtain ⟨cl158, Ar158, qa158, Sa158, Na158, Ha158, Ga158⟩ := Vb
        have hin158 : ¬ (pp155 < 0 ∨ cl158.slots.size ≤ (pp155).toNatClampNeg) := inb_of Sa158 ⟨own_ge0 (by rw [pp155_e]; omega), by rw [own_ltI, pp155_e]; omega⟩
        obtain ⟨T158, h158, X158, e158, W158, st158⟩ := stB X156 hx hZ e156 Ar158 (j := pp155) hin158 (g := (mkF m 84 #[.val (.int y), .val (.int p2), .val (.ref b), x3, x4, .val (.int pp155), .val (.int sv)] [(.int (own_o mm)), (.int pp155), (.ref b)])) rfl rfl (hb hby d25_84)
        replace Vb : Arv Z h158 b kb .byte z (List.map Value.int (cs ++ (List.replicate (sgn + 1) (0 : Int32) ++ ((own_o mm) :: ds)))) (.int (0 : Int32)) := by have q := Arv.set Ar158 qa158 Sa158 Na158 Ha158 Ga158 (fits_nar_byte _) W158 (cs.length + (sgn + 1)) (own_clamp (by rw [pp155_e]; omega)) (by rw [List.length_map, List.length_append, List.length_append, List.length_replicate]; omega); rw [own_ob, ← List.map_set, own_setR] at q; exact q
        replace Z0 := Nat.le_trans Z0 (Keep.of_wr W158).1
        replace SO := SO.wr W158
        replace Vo := Vo.other W158 neo
        replace ST := ST.wr W158
        replace Vt := Vt.other W158 net
        replace KK := KK.wr W158 (Or.inl (List.mem_of_getElem? (i := 0) rfl))
        have N158 := Fr.snoc X158 N153 g_b
        refine own_of (U' := (T158.setTop (mkF m 85 #[.val (.int y), .val (.int p2), .val (.ref b), x3, x4, .val (.int pp155), .val (.int sv)] []))) (st158) ?_
        refine own_iloadN X158 hx hby d25_85 rfl ?_
        refine own_bipush X158 hx hby (-9) d25_86 rfl ?_
        have hc88_159 : y < (-9 : Int32) := by rw [own_ltI, own_im9, hy]; omega
        refine own_icmpNo X158 hx hby d25_88 (tlt hc88_159).2.1 ?_
        refine own_aloadN X158 hx hby d25_91 rfl rfl ?_
        refine own_iinc X158 hx hby d25_92 rfl (l' := #[.val (.int y), .val (.int p2), .val (.ref b), x3, x4, .val (.int (pp155 + (-1 : Int32))), .val (.int sv)]) rfl ?_
        obtain ⟨pp160, hpp160⟩ : ∃ z, z = (pp155 + (-1 : Int32)) := ⟨_, rfl⟩
        refine own_eq (U' := (T158.setTop (mkF m 95 #[.val (.int y), .val (.int p2), .val (.ref b), x3, x4, .val (.int pp160), .val (.int sv)] [(.ref b)]))) (by rw [hpp160]) ?_
        have pp160_e : pp160.toInt = (cs.length : Int) + (sgn : Nat) := by rw [hpp160, own_addI (by rw [own_im1, pp155_e]; omega) (by rw [own_im1, pp155_e]; omega), own_im1, pp155_e]; omega
        refine own_iload X158 hx hby d25_95 rfl ?_
        obtain ⟨T161, X161, e161, st161⟩ := getS2 X158 hx hZ hown (host := "") (Or.inl (own_w hw 218 rfl)) Via.refl e158 ST (g := (mkF m 97 #[.val (.int y), .val (.int p2), .val (.ref b), x3, x4, .val (.int pp160), .val (.int sv)] [(.int pp160), (.ref b)])) rfl (hb hby d25_97)
        refine own_of (U' := (T161.setTop (mkF m 100 #[.val (.int y), .val (.int p2), .val (.ref b), x3, x4, .val (.int pp160), .val (.int sv)] [(.ref at_), (.int pp160), (.ref b)]))) (st161) ?_
        refine own_iloadN X161 hx hby d25_100 rfl ?_
        refine own_ineg X161 hx hby d25_101 ?_
        obtain ⟨cl162, Ar162, qa162, Sa162, Na162, Ha162, Ga162⟩ := id Vt
        have hin162 : ¬ ((-y) < 0 ∨ cl162.slots.size ≤ ((-y)).toNatClampNeg) := inb_of Sa162 ⟨own_ge0 (by rw [en]; omega), by rw [own_ltI, own_i100, en]; omega⟩
        have hat162 : cl162.slots[((-y)).toNatClampNeg]? = some (.int (own_at own_tens (-y))) := Has.at Ha162 hin162 (own_at_eq own_tens _)
        refine own_of (U' := (T161.setTop (mkF m 103 #[.val (.int y), .val (.int p2), .val (.ref b), x3, x4, .val (.int pp160), .val (.int sv)] [(.int (own_at own_tens (-y))), (.int pp160), (.ref b)]))) (X161.baloadBytes hx (j := (-y)) (v := (.int (own_at own_tens (-y)))) (by rw [e161]; exact Ar162.1) (State.isArrayOf_alike hZ.alike Ar162.2.1) Ar162.2.2 hin162 hat162 (g := (mkF m 102 #[.val (.int y), .val (.int p2), .val (.ref b), x3, x4, .val (.int pp160), .val (.int sv)] [(.int (-y)), (.ref at_), (.int pp160), (.ref b)])) rfl rfl (hb hby d25_102)) ?_
        refine own_eq (U' := (T161.setTop (mkF m 103 #[.val (.int y), .val (.int p2), .val (.ref b), x3, x4, .val (.int pp160), .val (.int sv)] [(.int (own_t mm)), (.int pp160), (.ref b)]))) (by rw [show (own_at own_tens (-y)) = (own_t mm) from own_at_r en (by omega)]) ?_
        obtain ⟨cl163, Ar163, qa163, Sa163, Na163, Ha163, Ga163⟩ := Vb
        have hin163 : ¬ (pp160 < 0 ∨ cl163.slots.size ≤ (pp160).toNatClampNeg) := inb_of Sa163 ⟨own_ge0 (by rw [pp160_e]; omega), by rw [own_ltI, pp160_e]; omega⟩
        obtain ⟨T163, h163, X163, e163, W163, st163⟩ := stB X161 hx hZ e161 Ar163 (j := pp160) hin163 (g := (mkF m 103 #[.val (.int y), .val (.int p2), .val (.ref b), x3, x4, .val (.int pp160), .val (.int sv)] [(.int (own_t mm)), (.int pp160), (.ref b)])) rfl rfl (hb hby d25_103)
        replace Vb : Arv Z h163 b kb .byte z (List.map Value.int (cs ++ (List.replicate sgn (0 : Int32) ++ ((own_t mm) :: (own_o mm) :: ds)))) (.int (0 : Int32)) := by have q := Arv.set Ar163 qa163 Sa163 Na163 Ha163 Ga163 (fits_nar_byte _) W163 (cs.length + sgn) (own_clamp (by rw [pp160_e]; omega)) (by rw [List.length_map, List.length_append, List.length_append, List.length_replicate]; omega); rw [own_tb, ← List.map_set, own_setR] at q; exact q
        replace Z0 := Nat.le_trans Z0 (Keep.of_wr W163).1
        replace SO := SO.wr W163
        replace Vo := Vo.other W163 neo
        replace ST := ST.wr W163
        replace Vt := Vt.other W163 net
        replace KK := KK.wr W163 (Or.inl (List.mem_of_getElem? (i := 0) rfl))
        have N163 := Fr.snoc X163 N158 g_b
        refine own_of (U' := (T163.setTop (mkF m 104 #[.val (.int y), .val (.int p2), .val (.ref b), x3, x4, .val (.int pp160), .val (.int sv)] []))) (st163) ?_
        refine own_iload X163 hx hby d25_104 rfl ?_
        by_cases hc106_164 : sv = (0 : Int32)
        · skip
          refine own_ifYes X163 hx hby 106 118 d25_106 ((if0 _ _).trans (teq hc106_164).1) (by decide) (by decide) ?_
          have sl := own_sl0 hsv hc106_164
          obtain rfl : sgn = 0 := by rw [hsgn, sl]; rfl
          refine own_iload X163 hx hby d25_118 rfl ?_
          exact own_retI X163 hx hlk Bd.returns (hb hby d25_120) (by decide) (by decide) (by rw [e163]; exact ⟨pp160, rfl, N163, KK, by rw [show cs ++ own_num p1 = (cs ++ (List.replicate 0 (0 : Int32) ++ ((own_t mm) :: (own_o mm) :: ds))) from by unfold own_num; rw [sl, hD, d_m]; rfl]; exact Vb⟩)
        · skip
          refine own_ifNo X163 hx hby d25_106 ((if0 _ _).trans (feq hc106_164).1) ?_
          have sl := own_sl1 hsv hc106_164
          obtain rfl : sgn = 0 + 1 := by rw [hsgn, sl]; rfl
          refine own_aloadN X163 hx hby d25_109 rfl rfl ?_
          refine own_iinc X163 hx hby d25_110 rfl (l' := #[.val (.int y), .val (.int p2), .val (.ref b), x3, x4, .val (.int (pp160 + (-1 : Int32))), .val (.int sv)]) rfl ?_
          obtain ⟨pp165, hpp165⟩ : ∃ z, z = (pp160 + (-1 : Int32)) := ⟨_, rfl⟩
          refine own_eq (U' := (T163.setTop (mkF m 113 #[.val (.int y), .val (.int p2), .val (.ref b), x3, x4, .val (.int pp165), .val (.int sv)] [(.ref b)]))) (by rw [hpp165]) ?_
          have pp165_e : pp165.toInt = (cs.length : Int) + (0 : Nat) := by rw [hpp165, own_addI (by rw [own_im1, pp160_e]; omega) (by rw [own_im1, pp160_e]; omega), own_im1, pp160_e]; omega
          refine own_iload X163 hx hby d25_113 rfl ?_
          refine own_bipush X163 hx hby 45 d25_115 rfl ?_
          obtain ⟨cl166, Ar166, qa166, Sa166, Na166, Ha166, Ga166⟩ := Vb
          have hin166 : ¬ (pp165 < 0 ∨ cl166.slots.size ≤ (pp165).toNatClampNeg) := inb_of Sa166 ⟨own_ge0 (by rw [pp165_e]; omega), by rw [own_ltI, pp165_e]; omega⟩
          obtain ⟨T166, h166, X166, e166, W166, st166⟩ := stB X163 hx hZ e163 Ar166 (j := pp165) hin166 (g := (mkF m 117 #[.val (.int y), .val (.int p2), .val (.ref b), x3, x4, .val (.int pp165), .val (.int sv)] [(.int (45 : Int32)), (.int pp165), (.ref b)])) rfl rfl (hb hby d25_117)
          replace Vb : Arv Z h166 b kb .byte z (List.map Value.int (cs ++ (List.replicate 0 (0 : Int32) ++ ((45 : Int32) :: (own_t mm) :: (own_o mm) :: ds)))) (.int (0 : Int32)) := by have q := Arv.set Ar166 qa166 Sa166 Na166 Ha166 Ga166 (fits_nar_byte _) W166 (cs.length + 0) (own_clamp (by rw [pp165_e]; omega)) (by rw [List.length_map, List.length_append, List.length_append, List.length_replicate]; omega); rw [own_nb 45 (Or.inl rfl), ← List.map_set, own_setR] at q; exact q
          replace Z0 := Nat.le_trans Z0 (Keep.of_wr W166).1
          replace SO := SO.wr W166
          replace Vo := Vo.other W166 neo
          replace ST := ST.wr W166
          replace Vt := Vt.other W166 net
          replace KK := KK.wr W166 (Or.inl (List.mem_of_getElem? (i := 0) rfl))
          have N166 := Fr.snoc X166 N163 g_b
          refine own_of (U' := (T166.setTop (mkF m 118 #[.val (.int y), .val (.int p2), .val (.ref b), x3, x4, .val (.int pp165), .val (.int sv)] []))) (st166) ?_
          refine own_iload X166 hx hby d25_118 rfl ?_
          exact own_retI X166 hx hlk Bd.returns (hb hby d25_120) (by decide) (by decide) (by rw [e166]; exact ⟨pp165, rfl, N166, KK, by rw [show cs ++ own_num p1 = (cs ++ (List.replicate 0 (0 : Int32) ++ ((45 : Int32) :: (own_t mm) :: (own_o mm) :: ds))) from by unfold own_num; rw [sl, hD, d_m]; rfl]; exact Vb⟩)
      · skip
        have d_m := own_digO lt_m t_m
        obtain rfl : R = (sgn + 1) := by rw [hR, d_m]; rfl
        refine own_aloadN X153 hx hby d25_72 rfl rfl ?_
        refine own_iinc X153 hx hby d25_73 rfl (l' := #[.val (.int y), .val (.int p2), .val (.ref b), x3, x4, .val (.int (pp + (-1 : Int32))), .val (.int sv)]) rfl ?_
        obtain ⟨pp167, hpp167⟩ : ∃ z, z = (pp + (-1 : Int32)) := ⟨_, rfl⟩
        refine own_eq (U' := (T153.setTop (mkF m 76 #[.val (.int y), .val (.int p2), .val (.ref b), x3, x4, .val (.int pp167), .val (.int sv)] [(.ref b)]))) (by rw [hpp167]) ?_
        have pp167_e : pp167.toInt = (cs.length : Int) + (sgn : Nat) := by rw [hpp167, own_addI (by rw [own_im1, hpp]; omega) (by rw [own_im1, hpp]; omega), own_im1, hpp]; omega
        refine own_iload X153 hx hby d25_76 rfl ?_
        obtain ⟨T168, X168, e168, st168⟩ := getS2 X153 hx hZ hown (host := "") (Or.inl (own_w hw 147 rfl)) Via.refl e153 SO (g := (mkF m 78 #[.val (.int y), .val (.int p2), .val (.ref b), x3, x4, .val (.int pp167), .val (.int sv)] [(.int pp167), (.ref b)])) rfl (hb hby d25_78)
        refine own_of (U' := (T168.setTop (mkF m 81 #[.val (.int y), .val (.int p2), .val (.ref b), x3, x4, .val (.int pp167), .val (.int sv)] [(.ref ao), (.int pp167), (.ref b)]))) (st168) ?_
        refine own_iloadN X168 hx hby d25_81 rfl ?_
        refine own_ineg X168 hx hby d25_82 ?_
        obtain ⟨cl169, Ar169, qa169, Sa169, Na169, Ha169, Ga169⟩ := id Vo
        have hin169 : ¬ ((-y) < 0 ∨ cl169.slots.size ≤ ((-y)).toNatClampNeg) := inb_of Sa169 ⟨own_ge0 (by rw [en]; omega), by rw [own_ltI, own_i100, en]; omega⟩
        have hat169 : cl169.slots[((-y)).toNatClampNeg]? = some (.int (own_at own_ones (-y))) := Has.at Ha169 hin169 (own_at_eq own_ones _)
        refine own_of (U' := (T168.setTop (mkF m 84 #[.val (.int y), .val (.int p2), .val (.ref b), x3, x4, .val (.int pp167), .val (.int sv)] [(.int (own_at own_ones (-y))), (.int pp167), (.ref b)]))) (X168.baloadBytes hx (j := (-y)) (v := (.int (own_at own_ones (-y)))) (by rw [e168]; exact Ar169.1) (State.isArrayOf_alike hZ.alike Ar169.2.1) Ar169.2.2 hin169 hat169 (g := (mkF m 83 #[.val (.int y), .val (.int p2), .val (.ref b), x3, x4, .val (.int pp167), .val (.int sv)] [(.int (-y)), (.ref ao), (.int pp167), (.ref b)])) rfl rfl (hb hby d25_83)) ?_
        refine own_eq (U' := (T168.setTop (mkF m 84 #[.val (.int y), .val (.int p2), .val (.ref b), x3, x4, .val (.int pp167), .val (.int sv)] [(.int (own_o mm)), (.int pp167), (.ref b)]))) (by rw [show (own_at own_ones (-y)) = (own_o mm) from own_at_r en (by omega)]) ?_
        obtain ⟨cl170, Ar170, qa170, Sa170, Na170, Ha170, Ga170⟩ := Vb
        have hin170 : ¬ (pp167 < 0 ∨ cl170.slots.size ≤ (pp167).toNatClampNeg) := inb_of Sa170 ⟨own_ge0 (by rw [pp167_e]; omega), by rw [own_ltI, pp167_e]; omega⟩
        obtain ⟨T170, h170, X170, e170, W170, st170⟩ := stB X168 hx hZ e168 Ar170 (j := pp167) hin170 (g := (mkF m 84 #[.val (.int y), .val (.int p2), .val (.ref b), x3, x4, .val (.int pp167), .val (.int sv)] [(.int (own_o mm)), (.int pp167), (.ref b)])) rfl rfl (hb hby d25_84)
        replace Vb : Arv Z h170 b kb .byte z (List.map Value.int (cs ++ (List.replicate sgn (0 : Int32) ++ ((own_o mm) :: ds)))) (.int (0 : Int32)) := by have q := Arv.set Ar170 qa170 Sa170 Na170 Ha170 Ga170 (fits_nar_byte _) W170 (cs.length + sgn) (own_clamp (by rw [pp167_e]; omega)) (by rw [List.length_map, List.length_append, List.length_append, List.length_replicate]; omega); rw [own_ob, ← List.map_set, own_setR] at q; exact q
        replace Z0 := Nat.le_trans Z0 (Keep.of_wr W170).1
        replace SO := SO.wr W170
        replace Vo := Vo.other W170 neo
        replace ST := ST.wr W170
        replace Vt := Vt.other W170 net
        replace KK := KK.wr W170 (Or.inl (List.mem_of_getElem? (i := 0) rfl))
        have N170 := Fr.snoc X170 N153 g_b
        refine own_of (U' := (T170.setTop (mkF m 85 #[.val (.int y), .val (.int p2), .val (.ref b), x3, x4, .val (.int pp167), .val (.int sv)] []))) (st170) ?_
        refine own_iloadN X170 hx hby d25_85 rfl ?_
        refine own_bipush X170 hx hby (-9) d25_86 rfl ?_
        have hc88_171 : ¬ (y < (-9 : Int32)) := by rw [own_ltI, own_im9, hy]; omega
        refine own_icmpYes X170 hx hby 88 104 d25_88 (flt hc88_171).2.1 (by decide) (by decide) ?_
        refine own_iload X170 hx hby d25_104 rfl ?_
        by_cases hc106_172 : sv = (0 : Int32)
        · skip
          refine own_ifYes X170 hx hby 106 118 d25_106 ((if0 _ _).trans (teq hc106_172).1) (by decide) (by decide) ?_
          have sl := own_sl0 hsv hc106_172
          obtain rfl : sgn = 0 := by rw [hsgn, sl]; rfl
          refine own_iload X170 hx hby d25_118 rfl ?_
          exact own_retI X170 hx hlk Bd.returns (hb hby d25_120) (by decide) (by decide) (by rw [e170]; exact ⟨pp167, rfl, N170, KK, by rw [show cs ++ own_num p1 = (cs ++ (List.replicate 0 (0 : Int32) ++ ((own_o mm) :: ds))) from by unfold own_num; rw [sl, hD, d_m]; rfl]; exact Vb⟩)
        · skip
          refine own_ifNo X170 hx hby d25_106 ((if0 _ _).trans (feq hc106_172).1) ?_
          have sl := own_sl1 hsv hc106_172
          obtain rfl : sgn = 0 + 1 := by rw [hsgn, sl]; rfl
          refine own_aloadN X170 hx hby d25_109 rfl rfl ?_
          refine own_iinc X170 hx hby d25_110 rfl (l' := #[.val (.int y), .val (.int p2), .val (.ref b), x3, x4, .val (.int (pp167 + (-1 : Int32))), .val (.int sv)]) rfl ?_
          obtain ⟨pp173, hpp173⟩ : ∃ z, z = (pp167 + (-1 : Int32)) := ⟨_, rfl⟩
          refine own_eq (U' := (T170.setTop (mkF m 113 #[.val (.int y), .val (.int p2), .val (.ref b), x3, x4, .val (.int pp173), .val (.int sv)] [(.ref b)]))) (by rw [hpp173]) ?_
          have pp173_e : pp173.toInt = (cs.length : Int) + (0 : Nat) := by rw [hpp173, own_addI (by rw [own_im1, pp167_e]; omega) (by rw [own_im1, pp167_e]; omega), own_im1, pp167_e]; omega
          refine own_iload X170 hx hby d25_113 rfl ?_
          refine own_bipush X170 hx hby 45 d25_115 rfl ?_
          obtain ⟨cl174, Ar174, qa174, Sa174, Na174, Ha174, Ga174⟩ := Vb
          have hin174 : ¬ (pp173 < 0 ∨ cl174.slots.size ≤ (pp173).toNatClampNeg) := inb_of Sa174 ⟨own_ge0 (by rw [pp173_e]; omega), by rw [own_ltI, pp173_e]; omega⟩
          obtain ⟨T174, h174, X174, e174, W174, st174⟩ := stB X170 hx hZ e170 Ar174 (j := pp173) hin174 (g := (mkF m 117 #[.val (.int y), .val (.int p2), .val (.ref b), x3, x4, .val (.int pp173), .val (.int sv)] [(.int (45 : Int32)), (.int pp173), (.ref b)])) rfl rfl (hb hby d25_117)
          replace Vb : Arv Z h174 b kb .byte z (List.map Value.int (cs ++ (List.replicate 0 (0 : Int32) ++ ((45 : Int32) :: (own_o mm) :: ds)))) (.int (0 : Int32)) := by have q := Arv.set Ar174 qa174 Sa174 Na174 Ha174 Ga174 (fits_nar_byte _) W174 (cs.length + 0) (own_clamp (by rw [pp173_e]; omega)) (by rw [List.length_map, List.length_append, List.length_append, List.length_replicate]; omega); rw [own_nb 45 (Or.inl rfl), ← List.map_set, own_setR] at q; exact q
          replace Z0 := Nat.le_trans Z0 (Keep.of_wr W174).1
          replace SO := SO.wr W174
          replace Vo := Vo.other W174 neo
          replace ST := ST.wr W174
          replace Vt := Vt.other W174 net
          replace KK := KK.wr W174 (Or.inl (List.mem_of_getElem? (i := 0) rfl))
          have N174 := Fr.snoc X174 N170 g_b
          refine own_of (U' := (T174.setTop (mkF m 118 #[.val (.int y), .val (.int p2), .val (.ref b), x3, x4, .val (.int pp173), .val (.int sv)] []))) (st174) ?_
          refine own_iload X174 hx hby d25_118 rfl ?_
          exact own_retI X174 hx hlk Bd.returns (hb hby d25_120) (by decide) (by decide) (by rw [e174]; exact ⟨pp173, rfl, N174, KK, by rw [show cs ++ own_num p1 = (cs ++ (List.replicate 0 (0 : Int32) ++ ((45 : Int32) :: (own_o mm) :: ds))) from by unfold own_num; rw [sl, hD, d_m]; rfl]; exact Vb⟩)
    · skip
      refine own_icmpNo X153 hx hby d25_25 (flt hc25_154).2.2.1 ?_
      have hDl := congrArg List.length hD
      rw [List.length_append] at hDl
      have ge_m : 100 ≤ mm := by have q := hc25_154; rw [own_ltI, own_im100] at q; omega
      have d_m := own_digB ge_m
      obtain ⟨R1, hR1⟩ : ∃ R : Nat, R = sgn + (own_dec (mm / 100)).length := ⟨_, rfl⟩
      obtain rfl : R = R1 + 1 + 1 := by rw [hR, d_m, hR1, List.length_append]; rfl
      refine own_iloadN X153 hx hby d25_28 rfl ?_
      refine own_bipush X153 hx hby 100 d25_29 rfl ?_
      refine own_of (U' := (T153.setTop (mkF m 32 #[.val (.int y), .val (.int p2), .val (.ref b), x3, x4, .val (.int pp), .val (.int sv)] [(.int (y / (100 : Int32)))]))) (fun _ k => XS.idiv X153.here hx rfl (hb hby d25_31) rfl (by decide) k) ?_
      obtain ⟨y1, hy1⟩ : ∃ z, z = (y / (100 : Int32)) := ⟨_, rfl⟩
      refine own_eq (U' := (T153.setTop (mkF m 32 #[.val (.int y), .val (.int p2), .val (.ref b), x3, x4, .val (.int pp), .val (.int sv)] [(.int y1)]))) (by rw [hy1]) ?_
      have hy1' : y1.toInt = -((mm / 100 : Nat) : Int) := by rw [hy1]; exact own_q100 hy ge_m
      replace hy1 := hy1'
      refine own_istoreN X153 hx hby d25_32 (l' := #[.val (.int y), .val (.int p2), .val (.ref b), .val (.int y1), x4, .val (.int pp), .val (.int sv)]) (by rcases hs_x3 with q | ⟨_, q⟩ <;> (subst q; rfl)) ?_
      refine own_iloadN X153 hx hby d25_33 rfl ?_
      refine own_bipush X153 hx hby 100 d25_34 rfl ?_
      refine own_imul X153 hx hby d25_36 ?_
      refine own_iloadN X153 hx hby d25_37 rfl ?_
      refine own_isub X153 hx hby d25_38 ?_
      obtain ⟨w0, hw0⟩ : ∃ z, z = ((y1 * (100 : Int32)) - y) := ⟨_, rfl⟩
      refine own_eq (U' := (T153.setTop (mkF m 39 #[.val (.int y), .val (.int p2), .val (.ref b), .val (.int y1), x4, .val (.int pp), .val (.int sv)] [(.int w0)]))) (by rw [hw0]) ?_
      have ew : w0.toInt = ((mm % 100 : Nat) : Int) := by rw [hw0]; exact own_r100 hy hy1 hmb
      refine own_istore X153 hx hby d25_39 (l' := #[.val (.int y), .val (.int p2), .val (.ref b), .val (.int y1), .val (.int w0), .val (.int pp), .val (.int sv)]) (by rcases hs_x4 with q | ⟨_, q⟩ <;> (subst q; rfl)) ?_
      refine own_iloadN X153 hx hby d25_41 rfl ?_
      refine own_istoreN X153 hx hby d25_42 (l' := #[.val (.int y1), .val (.int p2), .val (.ref b), .val (.int y1), .val (.int w0), .val (.int pp), .val (.int sv)]) rfl ?_
      refine own_aloadN X153 hx hby d25_43 rfl rfl ?_
      refine own_iinc X153 hx hby d25_44 rfl (l' := #[.val (.int y1), .val (.int p2), .val (.ref b), .val (.int y1), .val (.int w0), .val (.int (pp + (-1 : Int32))), .val (.int sv)]) rfl ?_
      obtain ⟨pp175, hpp175⟩ : ∃ z, z = (pp + (-1 : Int32)) := ⟨_, rfl⟩
      refine own_eq (U' := (T153.setTop (mkF m 47 #[.val (.int y1), .val (.int p2), .val (.ref b), .val (.int y1), .val (.int w0), .val (.int pp175), .val (.int sv)] [(.ref b)]))) (by rw [hpp175]) ?_
      have pp175_e : pp175.toInt = (cs.length : Int) + ((R1 + 1) : Nat) := by rw [hpp175, own_addI (by rw [own_im1, hpp]; omega) (by rw [own_im1, hpp]; omega), own_im1, hpp]; omega
      refine own_iload X153 hx hby d25_47 rfl ?_
      obtain ⟨T176, X176, e176, st176⟩ := getS2 X153 hx hZ hown (host := "") (Or.inl (own_w hw 147 rfl)) Via.refl e153 SO (g := (mkF m 49 #[.val (.int y1), .val (.int p2), .val (.ref b), .val (.int y1), .val (.int w0), .val (.int pp175), .val (.int sv)] [(.int pp175), (.ref b)])) rfl (hb hby d25_49)
      refine own_of (U' := (T176.setTop (mkF m 52 #[.val (.int y1), .val (.int p2), .val (.ref b), .val (.int y1), .val (.int w0), .val (.int pp175), .val (.int sv)] [(.ref ao), (.int pp175), (.ref b)]))) (st176) ?_
      refine own_iload X176 hx hby d25_52 rfl ?_
      obtain ⟨cl177, Ar177, qa177, Sa177, Na177, Ha177, Ga177⟩ := id Vo
      have hin177 : ¬ (w0 < 0 ∨ cl177.slots.size ≤ (w0).toNatClampNeg) := inb_of Sa177 ⟨own_ge0 (by rw [ew]; omega), by rw [own_ltI, own_i100, ew]; omega⟩
      have hat177 : cl177.slots[(w0).toNatClampNeg]? = some (.int (own_at own_ones w0)) := Has.at Ha177 hin177 (own_at_eq own_ones _)
      refine own_of (U' := (T176.setTop (mkF m 55 #[.val (.int y1), .val (.int p2), .val (.ref b), .val (.int y1), .val (.int w0), .val (.int pp175), .val (.int sv)] [(.int (own_at own_ones w0)), (.int pp175), (.ref b)]))) (X176.baloadBytes hx (j := w0) (v := (.int (own_at own_ones w0))) (by rw [e176]; exact Ar177.1) (State.isArrayOf_alike hZ.alike Ar177.2.1) Ar177.2.2 hin177 hat177 (g := (mkF m 54 #[.val (.int y1), .val (.int p2), .val (.ref b), .val (.int y1), .val (.int w0), .val (.int pp175), .val (.int sv)] [(.int w0), (.ref ao), (.int pp175), (.ref b)])) rfl rfl (hb hby d25_54)) ?_
      refine own_eq (U' := (T176.setTop (mkF m 55 #[.val (.int y1), .val (.int p2), .val (.ref b), .val (.int y1), .val (.int w0), .val (.int pp175), .val (.int sv)] [(.int (own_o mm)), (.int pp175), (.ref b)]))) (by rw [show (own_at own_ones w0) = (own_o mm) from (own_at_r ew (by omega)).trans (own_oM _)]) ?_
      obtain ⟨cl178, Ar178, qa178, Sa178, Na178, Ha178, Ga178⟩ := Vb
      have hin178 : ¬ (pp175 < 0 ∨ cl178.slots.size ≤ (pp175).toNatClampNeg) := inb_of Sa178 ⟨own_ge0 (by rw [pp175_e]; omega), by rw [own_ltI, pp175_e]; omega⟩
      obtain ⟨T178, h178, X178, e178, W178, st178⟩ := stB X176 hx hZ e176 Ar178 (j := pp175) hin178 (g := (mkF m 55 #[.val (.int y1), .val (.int p2), .val (.ref b), .val (.int y1), .val (.int w0), .val (.int pp175), .val (.int sv)] [(.int (own_o mm)), (.int pp175), (.ref b)])) rfl rfl (hb hby d25_55)
      replace Vb : Arv Z h178 b kb .byte z (List.map Value.int (cs ++ (List.replicate (R1 + 1) (0 : Int32) ++ ((own_o mm) :: ds)))) (.int (0 : Int32)) := by have q := Arv.set Ar178 qa178 Sa178 Na178 Ha178 Ga178 (fits_nar_byte _) W178 (cs.length + (R1 + 1)) (own_clamp (by rw [pp175_e]; omega)) (by rw [List.length_map, List.length_append, List.length_append, List.length_replicate]; omega); rw [own_ob, ← List.map_set, own_setR] at q; exact q
      replace Z0 := Nat.le_trans Z0 (Keep.of_wr W178).1
      replace SO := SO.wr W178
      replace Vo := Vo.other W178 neo
      replace ST := ST.wr W178
      replace Vt := Vt.other W178 net
      replace KK := KK.wr W178 (Or.inl (List.mem_of_getElem? (i := 0) rfl))
      have N178 := Fr.snoc X178 N153 g_b
      refine own_of (U' := (T178.setTop (mkF m 56 #[.val (.int y1), .val (.int p2), .val (.ref b), .val (.int y1), .val (.int w0), .val (.int pp175), .val (.int sv)] []))) (st178) ?_
      refine own_aloadN X178 hx hby d25_56 rfl rfl ?_
      refine own_iinc X178 hx hby d25_57 rfl (l' := #[.val (.int y1), .val (.int p2), .val (.ref b), .val (.int y1), .val (.int w0), .val (.int (pp175 + (-1 : Int32))), .val (.int sv)]) rfl ?_
      obtain ⟨pp179, hpp179⟩ : ∃ z, z = (pp175 + (-1 : Int32)) := ⟨_, rfl⟩
      refine own_eq (U' := (T178.setTop (mkF m 60 #[.val (.int y1), .val (.int p2), .val (.ref b), .val (.int y1), .val (.int w0), .val (.int pp179), .val (.int sv)] [(.ref b)]))) (by rw [hpp179]) ?_
      have pp179_e : pp179.toInt = (cs.length : Int) + (R1 : Nat) := by rw [hpp179, own_addI (by rw [own_im1, pp175_e]; omega) (by rw [own_im1, pp175_e]; omega), own_im1, pp175_e]; omega
      refine own_iload X178 hx hby d25_60 rfl ?_
      obtain ⟨T180, X180, e180, st180⟩ := getS2 X178 hx hZ hown (host := "") (Or.inl (own_w hw 218 rfl)) Via.refl e178 ST (g := (mkF m 62 #[.val (.int y1), .val (.int p2), .val (.ref b), .val (.int y1), .val (.int w0), .val (.int pp179), .val (.int sv)] [(.int pp179), (.ref b)])) rfl (hb hby d25_62)
      refine own_of (U' := (T180.setTop (mkF m 65 #[.val (.int y1), .val (.int p2), .val (.ref b), .val (.int y1), .val (.int w0), .val (.int pp179), .val (.int sv)] [(.ref at_), (.int pp179), (.ref b)]))) (st180) ?_
      refine own_iload X180 hx hby d25_65 rfl ?_
      obtain ⟨cl181, Ar181, qa181, Sa181, Na181, Ha181, Ga181⟩ := id Vt
      have hin181 : ¬ (w0 < 0 ∨ cl181.slots.size ≤ (w0).toNatClampNeg) := inb_of Sa181 ⟨own_ge0 (by rw [ew]; omega), by rw [own_ltI, own_i100, ew]; omega⟩
      have hat181 : cl181.slots[(w0).toNatClampNeg]? = some (.int (own_at own_tens w0)) := Has.at Ha181 hin181 (own_at_eq own_tens _)
      refine own_of (U' := (T180.setTop (mkF m 68 #[.val (.int y1), .val (.int p2), .val (.ref b), .val (.int y1), .val (.int w0), .val (.int pp179), .val (.int sv)] [(.int (own_at own_tens w0)), (.int pp179), (.ref b)]))) (X180.baloadBytes hx (j := w0) (v := (.int (own_at own_tens w0))) (by rw [e180]; exact Ar181.1) (State.isArrayOf_alike hZ.alike Ar181.2.1) Ar181.2.2 hin181 hat181 (g := (mkF m 67 #[.val (.int y1), .val (.int p2), .val (.ref b), .val (.int y1), .val (.int w0), .val (.int pp179), .val (.int sv)] [(.int w0), (.ref at_), (.int pp179), (.ref b)])) rfl rfl (hb hby d25_67)) ?_
      refine own_eq (U' := (T180.setTop (mkF m 68 #[.val (.int y1), .val (.int p2), .val (.ref b), .val (.int y1), .val (.int w0), .val (.int pp179), .val (.int sv)] [(.int (own_t mm)), (.int pp179), (.ref b)]))) (by rw [show (own_at own_tens w0) = (own_t mm) from (own_at_r ew (by omega)).trans (own_tM _)]) ?_
      obtain ⟨cl182, Ar182, qa182, Sa182, Na182, Ha182, Ga182⟩ := Vb
      have hin182 : ¬ (pp179 < 0 ∨ cl182.slots.size ≤ (pp179).toNatClampNeg) := inb_of Sa182 ⟨own_ge0 (by rw [pp179_e]; omega), by rw [own_ltI, pp179_e]; omega⟩
      obtain ⟨T182, h182, X182, e182, W182, st182⟩ := stB X180 hx hZ e180 Ar182 (j := pp179) hin182 (g := (mkF m 68 #[.val (.int y1), .val (.int p2), .val (.ref b), .val (.int y1), .val (.int w0), .val (.int pp179), .val (.int sv)] [(.int (own_t mm)), (.int pp179), (.ref b)])) rfl rfl (hb hby d25_68)
      replace Vb : Arv Z h182 b kb .byte z (List.map Value.int (cs ++ (List.replicate R1 (0 : Int32) ++ ((own_t mm) :: (own_o mm) :: ds)))) (.int (0 : Int32)) := by have q := Arv.set Ar182 qa182 Sa182 Na182 Ha182 Ga182 (fits_nar_byte _) W182 (cs.length + R1) (own_clamp (by rw [pp179_e]; omega)) (by rw [List.length_map, List.length_append, List.length_append, List.length_replicate]; omega); rw [own_tb, ← List.map_set, own_setR] at q; exact q
      replace Z0 := Nat.le_trans Z0 (Keep.of_wr W182).1
      replace SO := SO.wr W182
      replace Vo := Vo.other W182 neo
      replace ST := ST.wr W182
      replace Vt := Vt.other W182 net
      replace KK := KK.wr W182 (Or.inl (List.mem_of_getElem? (i := 0) rfl))
      have N182 := Fr.snoc X182 N178 g_b
      refine own_of (U' := (T182.setTop (mkF m 69 #[.val (.int y1), .val (.int p2), .val (.ref b), .val (.int y1), .val (.int w0), .val (.int pp179), .val (.int sv)] []))) (st182) ?_
      refine own_goto X182 hx hby 69 22 d25_69 (by decide) (by decide) ?_
      exact ih153 (mm / 100) (by omega) _ _ _ _ _ _ _ R1 ((own_t mm) :: (own_o mm) :: ds) X182 e182 N182 Z0 Vb SO Vo ST Vt KK ⟨hy1, pp179_e, hR1, by omega, by rw [hD, d_m, List.append_assoc]; rfl, Or.inr ⟨_, rfl⟩, Or.inr ⟨_, rfl⟩⟩
abbrev mN_28 : MethodName := ⟨"java/lang/AbstractStringBuilder", "append", "(I)Ljava/lang/AbstractStringBuilder;"⟩
theorem pd_18 : parseMethodDescriptor "(II[B)I" = some ⟨[.int, .int, (.array .byte)], some .int⟩ := by decide +kernel
theorem d22_0 : decode jdk_68_method_32_code 0 = .ok (.aload_n 0, 1) := by decide +kernel
theorem d22_1 : decode jdk_68_method_32_code 1 = .ok (.getfield 79, 3) := by decide +kernel
theorem d22_4 : decode jdk_68_method_32_code 4 = .ok (.istore_n 2, 1) := by decide +kernel
theorem d22_5 : decode jdk_68_method_32_code 5 = .ok (.iload_n 2, 1) := by decide +kernel
theorem d22_6 : decode jdk_68_method_32_code 6 = .ok (.iload_n 1, 1) := by decide +kernel
theorem d22_7 : decode jdk_68_method_32_code 7 = .ok (.invokestatic 245, 3) := by decide +kernel
theorem d22_10 : decode jdk_68_method_32_code 10 = .ok (.iadd, 1) := by decide +kernel
theorem d22_11 : decode jdk_68_method_32_code 11 = .ok (.istore_n 3, 1) := by decide +kernel
theorem d22_12 : decode jdk_68_method_32_code 12 = .ok (.aload_n 0, 1) := by decide +kernel
theorem d22_13 : decode jdk_68_method_32_code 13 = .ok (.iload_n 3, 1) := by decide +kernel
theorem d22_14 : decode jdk_68_method_32_code 14 = .ok (.invokevirtual 100, 3) := by decide +kernel
theorem d22_17 : decode jdk_68_method_32_code 17 = .ok (.aload_n 0, 1) := by decide +kernel
theorem d22_18 : decode jdk_68_method_32_code 18 = .ok (.invokevirtual 83, 3) := by decide +kernel
theorem d22_21 : decode jdk_68_method_32_code 21 = .ok (.ifCond .eq 16, 3) := by decide +kernel
theorem d22_24 : decode jdk_68_method_32_code 24 = .ok (.iload_n 1, 1) := by decide +kernel
theorem d22_25 : decode jdk_68_method_32_code 25 = .ok (.iload_n 3, 1) := by decide +kernel
theorem d22_26 : decode jdk_68_method_32_code 26 = .ok (.aload_n 0, 1) := by decide +kernel
theorem d22_27 : decode jdk_68_method_32_code 27 = .ok (.getfield 15, 3) := by decide +kernel
theorem d22_30 : decode jdk_68_method_32_code 30 = .ok (.invokestatic 248, 3) := by decide +kernel
theorem d22_33 : decode jdk_68_method_32_code 33 = .ok (.pop, 1) := by decide +kernel
theorem d22_34 : decode jdk_68_method_32_code 34 = .ok (.goto 14, 3) := by decide +kernel
theorem d22_48 : decode jdk_68_method_32_code 48 = .ok (.aload_n 0, 1) := by decide +kernel
theorem d22_49 : decode jdk_68_method_32_code 49 = .ok (.iload_n 3, 1) := by decide +kernel
theorem d22_50 : decode jdk_68_method_32_code 50 = .ok (.putfield 79, 3) := by decide +kernel
theorem d22_53 : decode jdk_68_method_32_code 53 = .ok (.aload_n 0, 1) := by decide +kernel
theorem d22_54 : decode jdk_68_method_32_code 54 = .ok (.areturn, 1) := by decide +kernel
theorem ef_ap (m : MethodId) (x0 : Addr) (x1 : Int32) : entryFrame m #[(.ref x0), (.int x1)] 4 = mkF m 0 #[.val (.ref x0), .val (.int x1), .unset, .unset] [] := by first | (simp [entryFrame, mkF, argsToLocals, Value.category]; done) | rfl
set_option maxRecDepth 65536 in
set_option maxHeartbeats 40000000 in
theorem rmap (l : Launch) (Z : State) (a0 : Array Value) (hw : ∀ d ∈ tables_1, d.before a0 Z = true) (ws : List Jvm.Cond) (a1 b : Addr) (kb : ClassId) (z n : Int32) (cs : List Int32) (p2 g1 : Int32) (ao at_ : Addr) (ko kt : ClassId) (h0 : Heap) (n0 : Nat) (Z0 : n0 ≤ h0.size) (B1 : own_SB Z h0 a1 b kb z n cs) (hmax : cs.length + (own_num p2).length ≤ 34) (g_a1 : n0 ≤ a1) (g_b : n0 ≤ b) (neab : a1 ≠ b) (neo : ao ≠ b) (net : at_ ≠ b) (n1o : a1 ≠ ao) (n1t : a1 ≠ at_) (SO : Sta Z h0 "java/lang/Integer" "DigitOnes" "[B" (.ref ao)) (Vo : Arv Z h0 ao ko .byte (100 : Int32) (List.map Value.int own_ones) (.int (0 : Int32))) (ST : Sta Z h0 "java/lang/Integer" "DigitTens" "[B" (.ref at_)) (Vt : Arv Z h0 at_ kt .byte (100 : Int32) (List.map Value.int own_tens) (.int (0 : Int32))) (SC : Sta Z h0 "java/lang/String" "COMPACT_STRINGS" "Z" (.int g1)) (hg1 : ¬ (g1 = (0 : Int32))) :
    MetFree l mN_28 (head1 (Jvm.Cond.code mN_28 jdk_68_method_32_code 4 (some (.object "java/lang/AbstractStringBuilder")) :: ws) ({ frames := 4, cells := 1, slots := 34, locals := 62 } : Room)) (fun a U => a = #[(.ref a1), (.int p2)] ∧ Z.Warmed39 U.vm ∧ U.heap = h0) (fun _ _ _ _ _ => True) (fun _ U o U' => ∃ v L, o = .returned v ∧ (Qai Z a1 b (cs ++ own_num p2) h0 n0) v U'.heap L ∧ FrameEnd U o U' L ({ frames := 4, cells := 1, slots := 34, locals := 62 } : Room).cells ({ frames := 4, cells := 1, slots := 34, locals := 62 } : Room).slots) := by
  refine MetFree.of_bodySF (plainFor_of_name pn_1) hisR ?_
  intro p e s m args below meth c s₁ Bd hml0 hP hK
  obtain ⟨rfl, hZ, hh⟩ := hP
  have hx := Bd.exec
  have hby := Bd.bytes
  have hml : c.maxLocals = 4 := hml0
  have hown : s.vm.findClass "java/lang/AbstractStringBuilder" = some m.cls := findClass_of_methodNamed Bd.named
  have hnm := (name_of_methodNamed Bd.named Bd.method).1
  have hlk := Bd.notSynchronized
  have X0 : Stand p l e ({ frames := 4, cells := 1, slots := 34, locals := 62 } : Room) s m #[(.ref a1), (.int p2)] below meth c s₁ [] 0 0 := Stand.of_body Bd
  have e0 : s₁.heap = h0 := by rw [← hh, Bd.state]; rfl
  have N0 := Fr.nil n0
  have KK := Keep.refl h0 [a1, b]
  show own_Ends p e below s FrameEnd (Qai Z a1 b (cs ++ own_num p2) h0 n0) 1 34 (s₁.setTop (entryFrame m #[(.ref a1), (.int p2)] 4))
  refine own_of (U' := (s₁.setTop (mkF m 0 #[.val (.ref a1), .val (.int p2), .unset, .unset] []))) (fun _ k => castTop (ef_ap m a1 p2) k) ?_
  obtain ⟨E1, Fv, Fc, Fn, Eb, Vb, hz, hn, hle⟩ := B1
  have hng := rng32 n
  refine own_aloadN X0 hx hby d22_0 rfl rfl ?_
  obtain ⟨T183, X183, e183, st183⟩ := getF X0 hx hZ hown (host := "") (Or.inl (own_w hw 98 rfl)) Via.refl e0 Fn (g := (mkF m 1 #[.val (.ref a1), .val (.int p2), .unset, .unset] [(.ref a1)])) rfl rfl (hb hby d22_1)
  refine own_of (U' := (T183.setTop (mkF m 4 #[.val (.ref a1), .val (.int p2), .unset, .unset] [(.int n)]))) (st183) ?_
  refine own_istoreN X183 hx hby d22_4 (l' := #[.val (.ref a1), .val (.int p2), .val (.int n), .unset]) rfl ?_
  refine own_iloadN X183 hx hby d22_5 rfl ?_
  refine own_iloadN X183 hx hby d22_6 rfl ?_
  obtain ⟨_, _, ⟨T184, L184, k184, n184⟩, -, X184, ⟨Lc184, hQ184, l184, y184, z184⟩, st184⟩ := Jvm.LawKit.callS X183 hx (y := mN_26) hown (mvT hZ (own_w hw 135 rfl)) (mvT hZ (own_w hw 136 rfl)) (mvT hZ (own_w hw 137 rfl)) (mvT hZ (own_w hw 138 rfl)) (by decide) (backOf (W := 1) (rmss l Z a0 hw [] p2 h0 n0 Z0 ) hZ (own_w hw 138 rfl) (own_w hw 137 rfl) (by decide) (by decide)) (g := (mkF m 7 #[.val (.ref a1), .val (.int p2), .val (.int n), .unset] [(.int p2), (.int n)])) rfl (by rw [hml]; rfl) (argsL := [(.int p2)]) (rest := [(.int n)]) (lenOf pd_4 rfl) rfl (by show 2 * 0 + _ ≤ _; exact Nat.le_of_eq rfl) (hb hby d22_7) (fun _ _ => ⟨rfl, e183, (by decide : 0 + 0 ≤ _), (by decide : 0 + 0 ≤ _)⟩)
  dsimp only [Pt.U, Pt.locs, Pt.cells, Pt.slots] at X184 l184 y184 z184 st184 hQ184
  rw [l184, y184, z184] at X184
  obtain ⟨r184, rfl, Nq184, e184, hr184⟩ := hQ184
  have N184 := Fr.app N0 Nq184
  refine own_of (U' := (T184.setTop (mkF m 10 #[.val (.ref a1), .val (.int p2), .val (.int n), .unset] [(.int r184), (.int n)]))) (st184) ?_
  refine own_iadd X184 hx hby d22_10 ?_
  refine own_istoreN X184 hx hby d22_11 (l' := #[.val (.ref a1), .val (.int p2), .val (.int n), .val (.int (n + r184))]) rfl ?_
  refine own_aloadN X184 hx hby d22_12 rfl rfl ?_
  refine own_iloadN X184 hx hby d22_13 rfl ?_
  obtain ⟨cq185, q185, q185'⟩ := E1.cell
  obtain ⟨_, _, ⟨T185, L185, k185, n185⟩, -, X185, ⟨Lc185, hQ185, l185, y185, z185⟩, st185⟩ := X184.privateBack hx (y := mN_6) hown (mvT hZ (own_w hw 100 rfl)) (mvT hZ (own_w hw 101 rfl)) (mvT hZ (own_selQ (y := mN_6) (own_w hw 103 rfl) (own_w hw 102 rfl) (own_w hw 101 rfl) (by decide))) (Cond.privateMethod_at (mvP hZ (own_w hw 102 rfl) (args := #[]))) (mvT hZ (own_w hw 104 rfl)) (by decide) (backOf (W := 0) (rmec l Z a0 hw [] a1 (n + r184) b kb z n cs h0 n0 Z0 ⟨E1, Fv, Fc, Fn, Eb, Vb, hz, hn, hle⟩ (by rw [own_addI (by omega) (by omega)]; omega) (by rw [own_addI (by omega) (by omega)]; omega) g_a1 neab) hZ (own_w hw 104 rfl) (own_w hw 70 rfl) (by decide) (by decide)) (g := (mkF m 14 #[.val (.ref a1), .val (.int p2), .val (.int n), .val (.int (n + r184))] [(.int (n + r184)), (.ref a1)])) rfl (by rw [hml]; rfl) (Steps.refl _) (a := a1) (by rw [e184]; exact q185) q185' (argsL := [(.int (n + r184))]) (rest := []) (lenOf pd_8 rfl) rfl (by show 2 * 0 + _ ≤ _; exact Nat.le_of_eq rfl) (hb hby d22_14) (fun _ _ => ⟨rfl, e184, (by decide : 0 + 1 ≤ _), (by decide : 0 + 34 ≤ _)⟩)
  dsimp only [Pt.U, Pt.locs, Pt.cells, Pt.slots] at X185 l185 y185 z185 st185 hQ185
  rw [l185, y185, z185] at X185
  obtain ⟨rfl, Nq185, Kp185, u185, ku185, zu185, ho185, Bq185, hp185⟩ := hQ185
  have ne_a1_u185 : a1 ≠ u185 := own_neor ho185 neab E1.lt
  have ne_ao_u185 : ao ≠ u185 := own_neor ho185 neo Vo.lt
  have ne_at__u185 : at_ ≠ u185 := own_neor ho185 net Vt.lt
  have g_u185 : n0 ≤ u185 := ho185.elim (fun q => by rw [← q]; exact g_b) (fun q => Nat.le_trans Z0 q)
  have mk_u185 : u185 ∈ ([a1, b] : List Addr) ∨ h0.size ≤ u185 := ho185.elim (fun q => by rw [← q]; exact (Or.inl (List.mem_of_getElem? (i := 1) rfl))) (fun q => Or.inr (Nat.le_trans KK.1 q))
  have N185 := Fr.app N184 Nq185
  have nst_a1 := E1.nostat
  replace Z0 := Nat.le_trans Z0 Kp185.1
  replace E1 := E1.keep Kp185
  replace Eb := Eb.keep Kp185
  replace Vb := Vb.keep Kp185 (ninS (Ne.symm neab) nin0)
  replace SO := own_staKeep SO Kp185 (nsS nst_a1 ns0)
  replace Vo := Vo.keep Kp185 (ninS (Ne.symm n1o) nin0)
  replace ST := own_staKeep ST Kp185 (nsS nst_a1 ns0)
  replace Vt := Vt.keep Kp185 (ninS (Ne.symm n1t) nin0)
  replace SC := own_staKeep SC Kp185 (nsS nst_a1 ns0)
  replace KK := KK.trans Kp185 (allS (Or.inl (List.mem_of_getElem? (i := 0) rfl)) all0)
  obtain ⟨Es185, Fv185, Fc185, Fn185, Eb185, Vb185, hz185, hn185, hle185⟩ := Bq185
  refine own_of (U' := (T185.setTop (mkF m 17 #[.val (.ref a1), .val (.int p2), .val (.int n), .val (.int (n + r184))] []))) (fun _ k => st185.trans k) ?_
  refine own_aloadN X185 hx hby d22_17 rfl rfl ?_
  obtain ⟨cq186, kq186, q186a, q186b, q186c⟩ := isOf hZ rfl Es185
  obtain ⟨_, _, ⟨T186, L186, k186, n186⟩, -, X186, ⟨Lc186, hQ186, l186, y186, z186⟩, st186⟩ := X185.virtualBack hx (y := mN_2) (z := mN_2) hown (mvT hZ (own_w hw 139 rfl)) (mvT hZ (own_w hw 140 rfl)) (notFace_of_selects (args := #[]) (mvT hZ (own_w hw 142 rfl))) (mvT hZ (own_w hw 142 rfl)) (mvT hZ (own_w hw 141 rfl)) (by decide) (backOf (W := 0) (rmab l Z a0 hw [] a1 g1 T185.heap n0 Z0 Fc185 SC hg1) hZ (own_w hw 143 rfl) (own_w hw 70 rfl) (by decide) (by decide)) q186a q186c (g := (mkF m 18 #[.val (.ref a1), .val (.int p2), .val (.int n), .val (.int (n + r184))] [(.ref a1)])) rfl (by rw [hml]; rfl) (Steps.refl _) (argsL := []) (rest := []) (lenOf pd_10 rfl) rfl (by show 2 * 0 + _ ≤ _; exact Nat.le_of_eq rfl) (hb hby d22_18) (fun _ _ => ⟨rfl, rfl, (by decide : 1 + 0 ≤ _), (by decide : 34 + 0 ≤ _)⟩)
  dsimp only [Pt.U, Pt.locs, Pt.cells, Pt.slots] at X186 l186 y186 z186 st186 hQ186
  rw [l186, y186, z186] at X186
  obtain ⟨rfl, Nq186, e186⟩ := hQ186
  have N186 := Fr.app N185 Nq186
  refine own_of (U' := (T186.setTop (mkF m 21 #[.val (.ref a1), .val (.int p2), .val (.int n), .val (.int (n + r184))] [(.int (1 : Int32))]))) (fun _ k => st186.trans k) ?_
  have hc21_187 : ¬ ((1 : Int32) = (0 : Int32)) := by decide
  refine own_ifNo X186 hx hby d22_21 ((if0 _ _).trans (feq hc21_187).1) ?_
  refine own_iloadN X186 hx hby d22_24 rfl ?_
  refine own_iloadN X186 hx hby d22_25 rfl ?_
  refine own_aloadN X186 hx hby d22_26 rfl rfl ?_
  obtain ⟨T188, X188, e188, st188⟩ := getF X186 hx hZ hown (host := "") (Or.inl (own_w hw 74 rfl)) Via.refl e186 Fv185 (g := (mkF m 27 #[.val (.ref a1), .val (.int p2), .val (.int n), .val (.int (n + r184))] [(.ref a1), (.int (n + r184)), (.int p2)])) rfl rfl (hb hby d22_27)
  refine own_of (U' := (T188.setTop (mkF m 30 #[.val (.ref a1), .val (.int p2), .val (.int n), .val (.int (n + r184))] [(.ref u185), (.int (n + r184)), (.int p2)]))) (st188) ?_
  obtain ⟨_, _, ⟨T189, L189, k189, n189⟩, -, X189, ⟨Lc189, hQ189, l189, y189, z189⟩, st189⟩ := Jvm.LawKit.callS X188 hx (y := mN_27) hown (mvT hZ (own_w hw 144 rfl)) (mvT hZ (own_w hw 145 rfl)) (mvT hZ (own_w hw 137 rfl)) (mvT hZ (own_w hw 146 rfl)) (by decide) (backOf (W := 0) (rmgc l Z a0 hw [] p2 (n + r184) u185 ku185 zu185 cs ao at_ ko kt T185.heap n0 Z0 Vb185 (by rw [own_addI (by omega) (by omega)]; omega) (by have q := hp185; rw [own_addI (by omega) (by omega)] at q; omega) (by rcases hz185 with q | q <;> rw [q] <;> decide) g_u185 ne_ao_u185 ne_at__u185 SO Vo ST Vt) hZ (own_w hw 146 rfl) (own_w hw 137 rfl) (by decide) (by decide)) (g := (mkF m 30 #[.val (.ref a1), .val (.int p2), .val (.int n), .val (.int (n + r184))] [(.ref u185), (.int (n + r184)), (.int p2)])) rfl (by rw [hml]; rfl) (argsL := [(.int p2), (.int (n + r184)), (.ref u185)]) (rest := []) (lenOf pd_18 rfl) rfl (by show 2 * 0 + _ ≤ _; exact Nat.le_of_eq rfl) (hb hby d22_30) (fun _ _ => ⟨rfl, e188, (by decide : 1 + 0 ≤ _), (by decide : 34 + 0 ≤ _)⟩)
  dsimp only [Pt.U, Pt.locs, Pt.cells, Pt.slots] at X189 l189 y189 z189 st189 hQ189
  rw [l189, y189, z189] at X189
  obtain ⟨r189, rfl, Nq189, Kp189, Vq189⟩ := hQ189
  have N189 := Fr.app N186 Nq189
  have nst_u185 := Eb185.nostat
  replace Z0 := Nat.le_trans Z0 Kp189.1
  replace SO := own_staKeep SO Kp189 (nsS nst_u185 ns0)
  replace Vo := Vo.keep Kp189 (ninS ne_ao_u185 nin0)
  replace ST := own_staKeep ST Kp189 (nsS nst_u185 ns0)
  replace Vt := Vt.keep Kp189 (ninS ne_at__u185 nin0)
  replace SC := own_staKeep SC Kp189 (nsS nst_u185 ns0)
  replace KK := KK.trans Kp189 (allS mk_u185 all0)
  replace Es185 := Es185.keep Kp189
  replace Fv185 := Fv185.keep Kp189 (ninS ne_a1_u185 nin0)
  replace Fc185 := Fc185.keep Kp189 (ninS ne_a1_u185 nin0)
  replace Fn185 := Fn185.keep Kp189 (ninS ne_a1_u185 nin0)
  replace Eb185 := Eb185.keep Kp189
  refine own_of (U' := (T189.setTop (mkF m 33 #[.val (.ref a1), .val (.int p2), .val (.int n), .val (.int (n + r184))] [(.int r189)]))) (st189) ?_
  refine own_pop X189 hx hby d22_33 rfl ?_
  refine own_goto X189 hx hby 34 48 d22_34 (by decide) (by decide) ?_
  refine own_aloadN X189 hx hby d22_48 rfl rfl ?_
  refine own_iloadN X189 hx hby d22_49 rfl ?_
  obtain ⟨T190, h190, X190, e190, W190, st190⟩ := putF X189 hx hZ hown (host := "") (Or.inl (own_w hw 98 rfl)) Via.refl rfl Fn185 Es185 (Or.inl (own_w hw 99 rfl)) (own_w hw 61 rfl) (ty := .int) (by decide) rfl rfl (g := (mkF m 50 #[.val (.ref a1), .val (.int p2), .val (.int n), .val (.int (n + r184))] [(.int (n + r184)), (.ref a1)])) rfl rfl (hb hby d22_50)
  replace Z0 := Nat.le_trans Z0 (Keep.of_wr W190).1
  replace SO := SO.wr W190
  replace Vo := Vo.other W190 (Ne.symm n1o)
  replace ST := ST.wr W190
  replace Vt := Vt.other W190 (Ne.symm n1t)
  replace SC := SC.wr W190
  replace KK := KK.wr W190 (Or.inl (List.mem_of_getElem? (i := 0) rfl))
  replace Es185 := Es185.wr W190
  replace Fv185 := Fv185.other W190 (Or.inr (slot_ne (Or.inl (own_w hw 75 rfl)) (Or.inl (own_w hw 99 rfl)) (by decide) (t := (.array .byte)) (t' := .int) (by decide) (by decide)))
  replace Fc185 := Fc185.other W190 (Or.inr (slot_ne (Or.inl (own_w hw 77 rfl)) (Or.inl (own_w hw 99 rfl)) (by decide) (t := .byte) (t' := .int) (by decide) (by decide)))
  replace Fn185 := Fn185.same W190
  replace Eb185 := Eb185.wr W190
  replace Vq189 := Vq189.other W190 (Ne.symm ne_a1_u185)
  have N190 := Fr.snoc X190 N189 g_a1
  refine own_of (U' := (T190.setTop (mkF m 53 #[.val (.ref a1), .val (.int p2), .val (.int n), .val (.int (n + r184))] []))) (st190) ?_
  refine own_aloadN X190 hx hby d22_53 rfl rfl ?_
  exact own_retA X190 hx hlk Bd.returns rfl rfl (hb hby d22_54) (by decide) (by decide) (by rw [e190]; exact ⟨rfl, N190, KK, u185, ku185, zu185, (n + r184), ho185, ⟨Es185, Fv185, Fc185, Fn185, Eb185, Vq189, hz185, (by rw [own_addI (by omega) (by omega), List.length_append]; omega), (by rw [List.length_append]; have q := hp185; rw [own_addI (by omega) (by omega)] at q; omega)⟩⟩)
abbrev mN_29 : MethodName := ⟨"java/lang/StringBuilder", "append", "(I)Ljava/lang/StringBuilder;"⟩
theorem pd_19 : parseMethodDescriptor "(I)Ljava/lang/AbstractStringBuilder;" = some ⟨[.int], some (.object "java/lang/AbstractStringBuilder")⟩ := by decide +kernel
theorem d21_0 : decode jdk_67_method_15_code 0 = .ok (.aload_n 0, 1) := by decide +kernel
theorem d21_1 : decode jdk_67_method_15_code 1 = .ok (.iload_n 1, 1) := by decide +kernel
theorem d21_2 : decode jdk_67_method_15_code 2 = .ok (.invokespecial 53, 3) := by decide +kernel
theorem d21_5 : decode jdk_67_method_15_code 5 = .ok (.pop, 1) := by decide +kernel
theorem d21_6 : decode jdk_67_method_15_code 6 = .ok (.aload_n 0, 1) := by decide +kernel
theorem d21_7 : decode jdk_67_method_15_code 7 = .ok (.areturn, 1) := by decide +kernel
theorem ef_aq (m : MethodId) (x0 : Addr) (x1 : Int32) : entryFrame m #[(.ref x0), (.int x1)] 2 = mkF m 0 #[.val (.ref x0), .val (.int x1)] [] := by first | (simp [entryFrame, mkF, argsToLocals, Value.category]; done) | rfl
set_option maxRecDepth 65536 in
set_option maxHeartbeats 40000000 in
theorem rmaq (l : Launch) (Z : State) (a0 : Array Value) (hw : ∀ d ∈ tables_1, d.before a0 Z = true) (ws : List Jvm.Cond) (a1 b : Addr) (kb : ClassId) (z n : Int32) (cs : List Int32) (p2 g1 : Int32) (ao at_ : Addr) (ko kt : ClassId) (h0 : Heap) (n0 : Nat) (Z0 : n0 ≤ h0.size) (B1 : own_SB Z h0 a1 b kb z n cs) (hmax : cs.length + (own_num p2).length ≤ 34) (g_a1 : n0 ≤ a1) (g_b : n0 ≤ b) (neab : a1 ≠ b) (neo : ao ≠ b) (net : at_ ≠ b) (n1o : a1 ≠ ao) (n1t : a1 ≠ at_) (SO : Sta Z h0 "java/lang/Integer" "DigitOnes" "[B" (.ref ao)) (Vo : Arv Z h0 ao ko .byte (100 : Int32) (List.map Value.int own_ones) (.int (0 : Int32))) (ST : Sta Z h0 "java/lang/Integer" "DigitTens" "[B" (.ref at_)) (Vt : Arv Z h0 at_ kt .byte (100 : Int32) (List.map Value.int own_tens) (.int (0 : Int32))) (SC : Sta Z h0 "java/lang/String" "COMPACT_STRINGS" "Z" (.int g1)) (hg1 : ¬ (g1 = (0 : Int32))) :
    MetFree l mN_29 (head1 (Jvm.Cond.code mN_29 jdk_67_method_15_code 2 (some (.object "java/lang/StringBuilder")) :: ws) ({ frames := 5, cells := 1, slots := 34, locals := 77 } : Room)) (fun a U => a = #[(.ref a1), (.int p2)] ∧ Z.Warmed39 U.vm ∧ U.heap = h0) (fun _ _ _ _ _ => True) (fun _ U o U' => ∃ v L, o = .returned v ∧ (Qai Z a1 b (cs ++ own_num p2) h0 n0) v U'.heap L ∧ FrameEnd U o U' L ({ frames := 5, cells := 1, slots := 34, locals := 77 } : Room).cells ({ frames := 5, cells := 1, slots := 34, locals := 77 } : Room).slots) := by
  refine MetFree.of_bodySF (plainFor_of_name pn_2) hisR ?_
  intro p e s m args below meth c s₁ Bd hml0 hP hK
  obtain ⟨rfl, hZ, hh⟩ := hP
  have hx := Bd.exec
  have hby := Bd.bytes
  have hml : c.maxLocals = 2 := hml0
  have hown : s.vm.findClass "java/lang/StringBuilder" = some m.cls := findClass_of_methodNamed Bd.named
  have hnm := (name_of_methodNamed Bd.named Bd.method).1
  have hlk := Bd.notSynchronized
  have X0 : Stand p l e ({ frames := 5, cells := 1, slots := 34, locals := 77 } : Room) s m #[(.ref a1), (.int p2)] below meth c s₁ [] 0 0 := Stand.of_body Bd
  have e0 : s₁.heap = h0 := by rw [← hh, Bd.state]; rfl
  have N0 := Fr.nil n0
  have KK := Keep.refl h0 [a1, b]
  show own_Ends p e below s FrameEnd (Qai Z a1 b (cs ++ own_num p2) h0 n0) 1 34 (s₁.setTop (entryFrame m #[(.ref a1), (.int p2)] 2))
  refine own_of (U' := (s₁.setTop (mkF m 0 #[.val (.ref a1), .val (.int p2)] []))) (fun _ k => castTop (ef_aq m a1 p2) k) ?_
  obtain ⟨E1, Fv, Fc, Fn, Eb, Vb, hz, hn, hle⟩ := B1
  refine own_aloadN X0 hx hby d21_0 rfl rfl ?_
  refine own_iloadN X0 hx hby d21_1 rfl ?_
  obtain ⟨_, _, ⟨T191, L191, k191, n191⟩, -, X191, ⟨Lc191, hQ191, l191, y191, z191⟩, st191⟩ := superBack X0 hx hZ (y := mN_28) hown (own_w hw 131 rfl) (own_sameM (y := mN_28) (w := mN_6) (own_w hw 133 rfl) (own_w hw 103 rfl) rfl (by decide)) (own_w hw 132 rfl) (own_w hw 85 rfl) (by decide) (backOf (W := 0) (rmap l Z a0 hw [] a1 b kb z n cs p2 g1 ao at_ ko kt h0 n0 Z0 ⟨E1, Fv, Fc, Fn, Eb, Vb, hz, hn, hle⟩ hmax g_a1 g_b neab neo net n1o n1t SO Vo ST Vt SC hg1) hZ (own_w hw 134 rfl) (own_w hw 70 rfl) (by decide) (by decide)) e0 (Ins.self E1) (g := (mkF m 2 #[.val (.ref a1), .val (.int p2)] [(.int p2), (.ref a1)])) rfl (by rw [hml]; rfl) (own_w hw 134 rfl) (argsL := [(.int p2)]) (rest := []) (lenOf pd_19 rfl) rfl (by show 2 * 0 + _ ≤ _; exact Nat.le_of_eq rfl) (hb hby d21_2) (fun _ _ => ⟨rfl, e0, (by decide : 0 + 1 ≤ _), (by decide : 0 + 34 ≤ _)⟩)
  dsimp only [Pt.U, Pt.locs, Pt.cells, Pt.slots] at X191 l191 y191 z191 st191 hQ191
  rw [l191, y191, z191] at X191
  obtain ⟨rfl, Nq191, Kp191, u191, ku191, zu191, nu191, ho191, Bq191⟩ := hQ191
  have ne_a1_u191 : a1 ≠ u191 := own_neor ho191 neab E1.lt
  have ne_ao_u191 : ao ≠ u191 := own_neor ho191 neo Vo.lt
  have ne_at__u191 : at_ ≠ u191 := own_neor ho191 net Vt.lt
  have g_u191 : n0 ≤ u191 := ho191.elim (fun q => by rw [← q]; exact g_b) (fun q => Nat.le_trans Z0 q)
  have mk_u191 : u191 ∈ ([a1, b] : List Addr) ∨ h0.size ≤ u191 := ho191.elim (fun q => by rw [← q]; exact (Or.inl (List.mem_of_getElem? (i := 1) rfl))) (fun q => Or.inr (Nat.le_trans KK.1 q))
  have N191 := Fr.app N0 Nq191
  have nst_a1 := E1.nostat
  have nst_b := Eb.nostat
  replace Z0 := Nat.le_trans Z0 Kp191.1
  replace E1 := E1.keep Kp191
  replace Eb := Eb.keep Kp191
  replace SO := own_staKeep SO Kp191 (nsS nst_a1 (nsS nst_b ns0))
  replace Vo := Vo.keep Kp191 (ninS (Ne.symm n1o) (ninS neo nin0))
  replace ST := own_staKeep ST Kp191 (nsS nst_a1 (nsS nst_b ns0))
  replace Vt := Vt.keep Kp191 (ninS (Ne.symm n1t) (ninS net nin0))
  replace SC := own_staKeep SC Kp191 (nsS nst_a1 (nsS nst_b ns0))
  replace KK := KK.trans Kp191 (allS (Or.inl (List.mem_of_getElem? (i := 0) rfl)) (allS (Or.inl (List.mem_of_getElem? (i := 1) rfl)) all0))
  obtain ⟨Es191, Fv191, Fc191, Fn191, Eb191, Vb191, hz191, hn191, hle191⟩ := Bq191
  refine own_of (U' := (T191.setTop (mkF m 5 #[.val (.ref a1), .val (.int p2)] [(.ref a1)]))) (fun _ k => st191.trans k) ?_
  refine own_pop X191 hx hby d21_5 rfl ?_
  refine own_aloadN X191 hx hby d21_6 rfl rfl ?_
  exact own_retA X191 hx hlk Bd.returns rfl rfl (hb hby d21_7) (by decide) (by decide) (⟨rfl, N191, KK, u191, ku191, zu191, nu191, ho191, ⟨Es191, Fv191, Fc191, Fn191, Eb191, Vb191, hz191, hn191, hle191⟩⟩)
abbrev mN_30 : MethodName := ⟨"java/lang/StringUTF16", "compress", "([CI[BII)I"⟩
theorem d6_0 : decode jdk_52_method_21_code 0 = .ok (.iconst 0, 1) := by decide +kernel
theorem d6_1 : decode jdk_52_method_21_code 1 = .ok (.istore 5, 2) := by decide +kernel
theorem d6_3 : decode jdk_52_method_21_code 3 = .ok (.iload 5, 2) := by decide +kernel
theorem d6_5 : decode jdk_52_method_21_code 5 = .ok (.iload 4, 2) := by decide +kernel
theorem d6_7 : decode jdk_52_method_21_code 7 = .ok (.if_icmp .ge 37, 3) := by decide +kernel
theorem d6_10 : decode jdk_52_method_21_code 10 = .ok (.aload_n 0, 1) := by decide +kernel
theorem d6_11 : decode jdk_52_method_21_code 11 = .ok (.iload_n 1, 1) := by decide +kernel
theorem d6_12 : decode jdk_52_method_21_code 12 = .ok (.caload, 1) := by decide +kernel
theorem d6_13 : decode jdk_52_method_21_code 13 = .ok (.istore 6, 2) := by decide +kernel
theorem d6_15 : decode jdk_52_method_21_code 15 = .ok (.iload 6, 2) := by decide +kernel
theorem d6_17 : decode jdk_52_method_21_code 17 = .ok (.sipush 255, 3) := by decide +kernel
theorem d6_20 : decode jdk_52_method_21_code 20 = .ok (.if_icmp .le 6, 3) := by decide +kernel
theorem d6_26 : decode jdk_52_method_21_code 26 = .ok (.aload_n 2, 1) := by decide +kernel
theorem d6_27 : decode jdk_52_method_21_code 27 = .ok (.iload_n 3, 1) := by decide +kernel
theorem d6_28 : decode jdk_52_method_21_code 28 = .ok (.iload 6, 2) := by decide +kernel
theorem d6_30 : decode jdk_52_method_21_code 30 = .ok (.i2b, 1) := by decide +kernel
theorem d6_31 : decode jdk_52_method_21_code 31 = .ok (.bastore, 1) := by decide +kernel
theorem d6_32 : decode jdk_52_method_21_code 32 = .ok (.iinc 1 1, 3) := by decide +kernel
theorem d6_35 : decode jdk_52_method_21_code 35 = .ok (.iinc 3 1, 3) := by decide +kernel
theorem d6_38 : decode jdk_52_method_21_code 38 = .ok (.iinc 5 1, 3) := by decide +kernel
theorem d6_41 : decode jdk_52_method_21_code 41 = .ok (.goto (-38), 3) := by decide +kernel
theorem d6_44 : decode jdk_52_method_21_code 44 = .ok (.iload 4, 2) := by decide +kernel
theorem d6_46 : decode jdk_52_method_21_code 46 = .ok (.ireturn, 1) := by decide +kernel
theorem pn_6 : plainName "java/lang/StringUTF16" = true := by first | (simp [plainName, overriddenIn]; done) | decide +kernel
theorem ef_cl (m : MethodId) (x0 : Addr) (x2 : Addr) (x4 : Int32) : entryFrame m #[(.ref x0), (.int (0 : Int32)), (.ref x2), (.int (0 : Int32)), (.int x4)] 7 = mkF m 0 #[.val (.ref x0), .val (.int (0 : Int32)), .val (.ref x2), .val (.int (0 : Int32)), .val (.int x4), .unset, .unset] [] := by first | (simp [entryFrame, mkF, argsToLocals, Value.category]; done) | rfl
def Qcl (Z : State) (a3 : Addr) (kd : ClassId) (z : Int32) (cs : List Int32) (h0 : Heap) (n0 : Nat) (v : Option Value) (h : Heap) (L : List Loc) : Prop := v = some (.int z) ∧ Fr n0 L ∧ Keep h0 h [a3] ∧ Arv Z h a3 kd .byte z (List.map Value.int (List.map own_b8 cs)) (.int (0 : Int32))
set_option maxRecDepth 65536 in
set_option maxHeartbeats 40000000 in
theorem rmcl (l : Launch) (Z : State) (a0 : Array Value) (hw : ∀ d ∈ tables_1, d.before a0 Z = true) (ws : List Jvm.Cond) (a1 a3 : Addr) (kc kd : ClassId) (z : Int32) (cs : List Int32) (h0 : Heap) (n0 : Nat) (Z0 : n0 ≤ h0.size) (Vc : Arv Z h0 a1 kc .char z (List.map Value.int cs) (.int (0 : Int32))) (Vd : Arv Z h0 a3 kd .byte z (List.map Value.int ([] : List Int32)) (.int (0 : Int32))) (g_a3 : n0 ≤ a3) (nea : a1 ≠ a3) (hz : z.toInt = cs.length) (hl : cs.length ≤ 34) (hall : ∀ c ∈ cs, ¬ ((255 : Int32) < c)) :
    MetFree l mN_30 (head1 (Jvm.Cond.code mN_30 jdk_52_method_21_code 7 (some .int) :: ws) ({ frames := 0, cells := 0, slots := 0, locals := 0 } : Room)) (fun a U => a = #[(.ref a1), (.int (0 : Int32)), (.ref a3), (.int (0 : Int32)), (.int z)] ∧ Z.Warmed39 U.vm ∧ U.heap = h0) (fun _ _ _ _ _ => True) (fun _ U o U' => ∃ v L, o = .returned v ∧ (Qcl Z a3 kd z cs h0 n0) v U'.heap L ∧ FrameEnd U o U' L ({ frames := 0, cells := 0, slots := 0, locals := 0 } : Room).cells ({ frames := 0, cells := 0, slots := 0, locals := 0 } : Room).slots) := by
  refine MetFree.of_bodySF (plainFor_of_name pn_6) hisR ?_
  intro p e s m args below meth c s₁ Bd hml0 hP hK
  obtain ⟨rfl, hZ, hh⟩ := hP
  have hx := Bd.exec
  have hby := Bd.bytes
  have hml : c.maxLocals = 7 := hml0
  have hown : s.vm.findClass "java/lang/StringUTF16" = some m.cls := findClass_of_methodNamed Bd.named
  have hnm := (name_of_methodNamed Bd.named Bd.method).1
  have hlk := Bd.notSynchronized
  have X0 : Stand p l e ({ frames := 0, cells := 0, slots := 0, locals := 0 } : Room) s m #[(.ref a1), (.int (0 : Int32)), (.ref a3), (.int (0 : Int32)), (.int z)] below meth c s₁ [] 0 0 := Stand.of_body Bd
  have e0 : s₁.heap = h0 := by rw [← hh, Bd.state]; rfl
  have N0 := Fr.nil n0
  have KK := Keep.refl h0 [a3]
  show own_Ends p e below s FrameEnd (Qcl Z a3 kd z cs h0 n0) 0 0 (s₁.setTop (entryFrame m #[(.ref a1), (.int (0 : Int32)), (.ref a3), (.int (0 : Int32)), (.int z)] 7))
  refine own_of (U' := (s₁.setTop (mkF m 0 #[.val (.ref a1), .val (.int (0 : Int32)), .val (.ref a3), .val (.int (0 : Int32)), .val (.int z), .unset, .unset] []))) (fun _ k => castTop (ef_cl m a1 a3 z) k) ?_
  refine own_iconst X0 hx hby 0 d6_0 rfl ?_
  refine own_istore X0 hx hby d6_1 (l' := #[.val (.ref a1), .val (.int (0 : Int32)), .val (.ref a3), .val (.int (0 : Int32)), .val (.int z), .val (.int (0 : Int32)), .unset]) rfl ?_
  suffices key192 : ∀ (f : Nat) (T192 : State) (L192 : List Loc) (hq192 : Heap) (si : Int32) (di : Int32) (i : Int32) (x6 : Slot) (j : Nat) (ds : List Int32), Stand p l e ({ frames := 0, cells := 0, slots := 0, locals := 0 } : Room) s m #[(.ref a1), (.int (0 : Int32)), (.ref a3), (.int (0 : Int32)), (.int z)] below meth c T192 L192 0 0 → T192.heap = hq192 → Fr n0 L192 → (n0 ≤ hq192.size) → (Arv Z hq192 a1 kc .char z (List.map Value.int cs) (.int (0 : Int32))) → (Arv Z hq192 a3 kd .byte z (List.map Value.int ds) (.int (0 : Int32))) → (Keep h0 hq192 [a3]) → (si.toInt = j ∧ di.toInt = j ∧ i.toInt = j ∧ ds = List.map own_b8 (cs.take j) ∧ j + f = cs.length ∧ (x6 = Slot.unset ∨ ∃ v : Int32, x6 = Slot.val (Value.int v))) → own_Ends p e below s FrameEnd (Qcl Z a3 kd z cs h0 n0) 0 0 (T192.setTop (mkF m 3 #[.val (.ref a1), .val (.int si), .val (.ref a3), .val (.int di), .val (.int z), .val (.int i), x6] [])) by
    exact key192 cs.length _ _ _ _ _ _ _ 0 [] X0 e0 N0 Z0 Vc Vd KK ⟨own_i0, own_i0, own_i0, rfl, by omega, Or.inl rfl⟩
  intro f
  induction f using Nat.strongRecOn with
  | _ f ih192 =>
    intro T192 L192 hq192 si di i x6 j ds X192 e192 N192 Z0 Vc Vd KK iv
    obtain ⟨hsi, hdi, hi, hds, hjf, hs_x6⟩ := iv
    refine own_iload X192 hx hby d6_3 rfl ?_
    refine own_iload X192 hx hby d6_5 rfl ?_
    by_cases hc7_193 : i < z
    · skip
      refine own_icmpNo X192 hx hby d6_7 (tlt hc7_193).2.1 ?_
      have hjl : j < cs.length := by have q := hc7_193; rw [own_ltI, hz, hi] at q; omega
      obtain ⟨g, rfl⟩ : ∃ g, f = g + 1 := ⟨f - 1, by omega⟩
      refine own_aloadN X192 hx hby d6_10 rfl rfl ?_
      refine own_iloadN X192 hx hby d6_11 rfl ?_
      obtain ⟨cl194, Ar194, qa194, Sa194, Na194, Ha194, Ga194⟩ := id Vc
      have hin194 : ¬ (si < 0 ∨ cl194.slots.size ≤ (si).toNatClampNeg) := inb_of Sa194 ⟨own_ge0 (by omega), by rw [own_ltI, hz, hsi]; omega⟩
      have hat194 : cl194.slots[(si).toNatClampNeg]? = some (.int (own_at cs si)) := Has.at Ha194 hin194 (own_at_eq cs _)
      refine own_of (U' := (T192.setTop (mkF m 13 #[.val (.ref a1), .val (.int si), .val (.ref a3), .val (.int di), .val (.int z), .val (.int i), x6] [(.int (own_at cs si))]))) (X192.caload hx (j := si) (v := (.int (own_at cs si))) (by rw [e192]; exact Ar194.1) (State.isArrayOf_alike hZ.alike Ar194.2.1) Ar194.2.2 hin194 hat194 (g := (mkF m 12 #[.val (.ref a1), .val (.int si), .val (.ref a3), .val (.int di), .val (.int z), .val (.int i), x6] [(.int si), (.ref a1)])) rfl rfl (hb hby d6_12)) ?_
      obtain ⟨ch, hch⟩ : ∃ z, z = (own_at cs si) := ⟨_, rfl⟩
      refine own_eq (U' := (T192.setTop (mkF m 13 #[.val (.ref a1), .val (.int si), .val (.ref a3), .val (.int di), .val (.int z), .val (.int i), x6] [(.int ch)]))) (by rw [hch]) ?_
      refine own_istore X192 hx hby d6_13 (l' := #[.val (.ref a1), .val (.int si), .val (.ref a3), .val (.int di), .val (.int z), .val (.int i), .val (.int ch)]) (by rcases hs_x6 with q | ⟨_, q⟩ <;> (subst q; rfl)) ?_
      refine own_iload X192 hx hby d6_15 rfl ?_
      refine own_sipush X192 hx hby 255 d6_17 rfl ?_
      have hc20_195 : ¬ ((255 : Int32) < ch) := by rw [hch]; exact hall _ (own_at_mem hsi hjl)
      refine own_icmpYes X192 hx hby 20 26 d6_20 (flt hc20_195).2.2.2 (by decide) (by decide) ?_
      have hdl : ds.length = j := by rw [hds, List.length_map, List.length_take]; omega
      replace Vd := Arv.pad Vd (own_padk ds 1)
      replace Vd : Arv Z hq192 a3 kd .byte z (List.map Value.int (ds ++ (List.replicate (0 + 1) (0 : Int32) ++ []))) (.int (0 : Int32)) := by rw [List.append_nil]; exact Vd
      refine own_aloadN X192 hx hby d6_26 rfl rfl ?_
      refine own_iloadN X192 hx hby d6_27 rfl ?_
      refine own_iload X192 hx hby d6_28 rfl ?_
      refine own_i2b X192 hx hby d6_30 ?_
      obtain ⟨cl196, Ar196, qa196, Sa196, Na196, Ha196, Ga196⟩ := Vd
      have hin196 : ¬ (di < 0 ∨ cl196.slots.size ≤ (di).toNatClampNeg) := inb_of Sa196 ⟨own_ge0 (by omega), by rw [own_ltI, hz, hdi]; omega⟩
      obtain ⟨T196, h196, X196, e196, W196, st196⟩ := stB X192 hx hZ e192 Ar196 (j := di) hin196 (g := (mkF m 31 #[.val (.ref a1), .val (.int si), .val (.ref a3), .val (.int di), .val (.int z), .val (.int i), .val (.int ch)] [(.int (ch.toInt8.toInt32)), (.int di), (.ref a3)])) rfl rfl (hb hby d6_31)
      replace Vd : Arv Z h196 a3 kd .byte z (List.map Value.int (ds ++ (List.replicate 0 (0 : Int32) ++ own_b8 ch :: []))) (.int (0 : Int32)) := by have q := Arv.set Ar196 qa196 Sa196 Na196 Ha196 Ga196 (fits_nar_byte _) W196 (ds.length + 0) (own_clamp (by rw [hdi, hdl]; rfl)) (by rw [List.length_map, List.length_append, List.length_append, List.length_replicate]; simp); rw [← List.map_set, own_setR] at q; exact q
      replace Z0 := Nat.le_trans Z0 (Keep.of_wr W196).1
      replace Vc := Vc.other W196 nea
      replace KK := KK.wr W196 (Or.inl (List.mem_of_getElem? (i := 0) rfl))
      have N196 := Fr.snoc X196 N192 g_a3
      refine own_of (U' := (T196.setTop (mkF m 32 #[.val (.ref a1), .val (.int si), .val (.ref a3), .val (.int di), .val (.int z), .val (.int i), .val (.int ch)] []))) (st196) ?_
      refine own_iinc X196 hx hby d6_32 rfl (l' := #[.val (.ref a1), .val (.int (si + (1 : Int32))), .val (.ref a3), .val (.int di), .val (.int z), .val (.int i), .val (.int ch)]) rfl ?_
      refine own_iinc X196 hx hby d6_35 rfl (l' := #[.val (.ref a1), .val (.int (si + (1 : Int32))), .val (.ref a3), .val (.int (di + (1 : Int32))), .val (.int z), .val (.int i), .val (.int ch)]) rfl ?_
      refine own_iinc X196 hx hby d6_38 rfl (l' := #[.val (.ref a1), .val (.int (si + (1 : Int32))), .val (.ref a3), .val (.int (di + (1 : Int32))), .val (.int z), .val (.int (i + (1 : Int32))), .val (.int ch)]) rfl ?_
      refine own_goto X196 hx hby 41 3 d6_41 (by decide) (by decide) ?_
      exact ih192 g (Nat.lt_succ_self g) _ _ _ _ _ _ _ (j + 1) (ds ++ (List.replicate 0 (0 : Int32) ++ own_b8 ch :: [])) X196 e196 N196 Z0 Vc Vd KK ⟨own_inc hsi (by omega), own_inc hdi (by omega), own_inc hi (by omega), by rw [hds, hch]; exact own_take1 hsi hjl, by omega, Or.inr ⟨_, rfl⟩⟩
    · skip
      refine own_icmpYes X192 hx hby 7 44 d6_7 (flt hc7_193).2.1 (by decide) (by decide) ?_
      refine own_iload X192 hx hby d6_44 rfl ?_
      exact own_retI X192 hx hlk Bd.returns (hb hby d6_46) (by decide) (by decide) (by rw [e192]; exact ⟨rfl, N192, KK, (by rw [show List.map own_b8 cs = ds from by rw [hds, show j = cs.length by have q := hc7_193; rw [own_ltI, hz, hi] at q; omega, List.take_length]]; exact Vd)⟩)
abbrev mN_31 : MethodName := ⟨"java/lang/StringUTF16", "compress", "([CII)[B"⟩
theorem pd_20 : parseMethodDescriptor "([CI[BII)I" = some ⟨[(.array .char), .int, (.array .byte), .int, .int], some .int⟩ := by decide +kernel
theorem d5_0 : decode jdk_52_method_16_code 0 = .ok (.iload_n 2, 1) := by decide +kernel
theorem d5_1 : decode jdk_52_method_16_code 1 = .ok (.newarray .byte, 2) := by decide +kernel
theorem d5_3 : decode jdk_52_method_16_code 3 = .ok (.astore_n 3, 1) := by decide +kernel
theorem d5_4 : decode jdk_52_method_16_code 4 = .ok (.aload_n 0, 1) := by decide +kernel
theorem d5_5 : decode jdk_52_method_16_code 5 = .ok (.iload_n 1, 1) := by decide +kernel
theorem d5_6 : decode jdk_52_method_16_code 6 = .ok (.aload_n 3, 1) := by decide +kernel
theorem d5_7 : decode jdk_52_method_16_code 7 = .ok (.iconst 0, 1) := by decide +kernel
theorem d5_8 : decode jdk_52_method_16_code 8 = .ok (.iload_n 2, 1) := by decide +kernel
theorem d5_9 : decode jdk_52_method_16_code 9 = .ok (.invokestatic 115, 3) := by decide +kernel
theorem d5_12 : decode jdk_52_method_16_code 12 = .ok (.istore 4, 2) := by decide +kernel
theorem d5_14 : decode jdk_52_method_16_code 14 = .ok (.iload 4, 2) := by decide +kernel
theorem d5_16 : decode jdk_52_method_16_code 16 = .ok (.iload_n 2, 1) := by decide +kernel
theorem d5_17 : decode jdk_52_method_16_code 17 = .ok (.if_icmp .eq 40, 3) := by decide +kernel
theorem d5_57 : decode jdk_52_method_16_code 57 = .ok (.aload_n 3, 1) := by decide +kernel
theorem d5_58 : decode jdk_52_method_16_code 58 = .ok (.areturn, 1) := by decide +kernel
theorem ef_cp (m : MethodId) (x0 : Addr) (x2 : Int32) : entryFrame m #[(.ref x0), (.int (0 : Int32)), (.int x2)] 6 = mkF m 0 #[.val (.ref x0), .val (.int (0 : Int32)), .val (.int x2), .unset, .unset, .unset] [] := by first | (simp [entryFrame, mkF, argsToLocals, Value.category]; done) | rfl
def Qcp (Z : State) (z : Int32) (cs : List Int32) (h0 : Heap) (n0 : Nat) (v : Option Value) (h : Heap) (L : List Loc) : Prop := ∃ (b : Addr) (kb : ClassId), v = some (.ref b) ∧ Fr n0 L ∧ Keep h0 h [] ∧ h0.size ≤ b ∧ Arv Z h b kb .byte z (List.map Value.int (List.map own_b8 cs)) (.int (0 : Int32))
set_option maxRecDepth 65536 in
set_option maxHeartbeats 40000000 in
theorem rmcp (l : Launch) (Z : State) (a0 : Array Value) (hw : ∀ d ∈ tables_1, d.before a0 Z = true) (ws : List Jvm.Cond) (a1 : Addr) (kc : ClassId) (z : Int32) (cs : List Int32) (h0 : Heap) (n0 : Nat) (Z0 : n0 ≤ h0.size) (Vc : Arv Z h0 a1 kc .char z (List.map Value.int cs) (.int (0 : Int32))) (hz : z.toInt = cs.length) (hl : cs.length ≤ 34) (hall : ∀ c ∈ cs, ¬ ((255 : Int32) < c)) :
    MetFree l mN_31 (head1 (Jvm.Cond.code mN_31 jdk_52_method_16_code 6 (some (.array .byte)) :: ws) ({ frames := 1, cells := 1, slots := 34, locals := 18 } : Room)) (fun a U => a = #[(.ref a1), (.int (0 : Int32)), (.int z)] ∧ Z.Warmed39 U.vm ∧ U.heap = h0) (fun _ _ _ _ _ => True) (fun _ U o U' => ∃ v L, o = .returned v ∧ (Qcp Z z cs h0 n0) v U'.heap L ∧ FrameEnd U o U' L ({ frames := 1, cells := 1, slots := 34, locals := 18 } : Room).cells ({ frames := 1, cells := 1, slots := 34, locals := 18 } : Room).slots) := by
  refine MetFree.of_bodySF (plainFor_of_name pn_6) hisR ?_
  intro p e s m args below meth c s₁ Bd hml0 hP hK
  obtain ⟨rfl, hZ, hh⟩ := hP
  have hx := Bd.exec
  have hby := Bd.bytes
  have hml : c.maxLocals = 6 := hml0
  have hown : s.vm.findClass "java/lang/StringUTF16" = some m.cls := findClass_of_methodNamed Bd.named
  have hnm := (name_of_methodNamed Bd.named Bd.method).1
  have hlk := Bd.notSynchronized
  have X0 : Stand p l e ({ frames := 1, cells := 1, slots := 34, locals := 18 } : Room) s m #[(.ref a1), (.int (0 : Int32)), (.int z)] below meth c s₁ [] 0 0 := Stand.of_body Bd
  have e0 : s₁.heap = h0 := by rw [← hh, Bd.state]; rfl
  have N0 := Fr.nil n0
  have KK := Keep.refl h0 []
  show own_Ends p e below s FrameEnd (Qcp Z z cs h0 n0) 1 34 (s₁.setTop (entryFrame m #[(.ref a1), (.int (0 : Int32)), (.int z)] 6))
  refine own_of (U' := (s₁.setTop (mkF m 0 #[.val (.ref a1), .val (.int (0 : Int32)), .val (.int z), .unset, .unset, .unset] []))) (fun _ k => castTop (ef_cp m a1 z) k) ?_
  refine own_iloadN X0 hx hby d5_0 rfl ?_
  obtain ⟨T197, h197, k197, X197, e197, E197, A197, st197⟩ := newP X0 hx hZ (own_w hw 23 rfl) e0 (g := (mkF m 1 #[.val (.ref a1), .val (.int (0 : Int32)), .val (.int z), .unset, .unset, .unset] [(.int z)])) rfl (hb hby d5_1) rfl (own_ge0 (by omega)) (cap := 34) (by rw [own_clamp hz]; exact hl) (by decide) (by decide) (by decide)
  obtain ⟨b197, gz197⟩ : ∃ z, z = h0.size := ⟨_, rfl⟩
  rw [← gz197] at A197 st197
  have g_b197 : n0 ≤ b197 := Nat.le_trans Z0 (Nat.le_of_eq gz197.symm)
  have sz_b197 : h0.size ≤ b197 := Nat.le_trans KK.1 (Nat.le_of_eq gz197.symm)
  have ne_a1_b197 : a1 ≠ b197 := Nat.ne_of_lt (Nat.lt_of_lt_of_le Vc.lt (Nat.le_of_eq gz197.symm))
  replace Z0 := Nat.le_trans Z0 E197.1
  replace Vc := Vc.ext E197
  replace KK := KK.ext E197
  have V197 : Arv Z h197 b197 k197 .byte z (List.map Value.int ([] : List Int32)) (.int (0 : Int32)) := Arv.new A197 (own_ge0 (by omega))
  refine own_of (U' := (T197.setTop (mkF m 3 #[.val (.ref a1), .val (.int (0 : Int32)), .val (.int z), .unset, .unset, .unset] [(.ref b197)]))) (st197) ?_
  refine own_astoreN X197 hx hby d5_3 rfl (l' := #[.val (.ref a1), .val (.int (0 : Int32)), .val (.int z), .val (.ref b197), .unset, .unset]) rfl ?_
  refine own_aloadN X197 hx hby d5_4 rfl rfl ?_
  refine own_iloadN X197 hx hby d5_5 rfl ?_
  refine own_aloadN X197 hx hby d5_6 rfl rfl ?_
  refine own_iconst X197 hx hby 0 d5_7 rfl ?_
  refine own_iloadN X197 hx hby d5_8 rfl ?_
  obtain ⟨_, _, ⟨T198, L198, k198, n198⟩, -, X198, ⟨Lc198, hQ198, l198, y198, z198⟩, st198⟩ := Jvm.LawKit.callS X197 hx (y := mN_30) hown (mvT hZ (own_w hw 24 rfl)) (mvT hZ (own_w hw 25 rfl)) (mvT hZ (own_w hw 21 rfl)) (mvT hZ (own_w hw 26 rfl)) (by decide) (backOf (W := 0) (rmcl l Z a0 hw [] a1 b197 kc k197 z cs h197 n0 Z0 Vc V197 g_b197 ne_a1_b197 hz hl hall) hZ (own_w hw 26 rfl) (own_w hw 21 rfl) (by decide) (by decide)) (g := (mkF m 9 #[.val (.ref a1), .val (.int (0 : Int32)), .val (.int z), .val (.ref b197), .unset, .unset] [(.int z), (.int (0 : Int32)), (.ref b197), (.int (0 : Int32)), (.ref a1)])) rfl (by rw [hml]; rfl) (argsL := [(.ref a1), (.int (0 : Int32)), (.ref b197), (.int (0 : Int32)), (.int z)]) (rest := []) (lenOf pd_20 rfl) rfl (by show 2 * 0 + _ ≤ _; exact Nat.le_of_eq rfl) (hb hby d5_9) (fun _ _ => ⟨rfl, e197, (by decide : 1 + 0 ≤ _), (by decide : 34 + 0 ≤ _)⟩)
  dsimp only [Pt.U, Pt.locs, Pt.cells, Pt.slots] at X198 l198 y198 z198 st198 hQ198
  rw [l198, y198, z198] at X198
  obtain ⟨rfl, Nq198, Kp198, Vq198⟩ := hQ198
  have N198 := Fr.app N0 Nq198
  replace Z0 := Nat.le_trans Z0 Kp198.1
  replace Vc := Vc.keep Kp198 (ninS ne_a1_b197 nin0)
  replace KK := KK.trans Kp198 (allS (Or.inr sz_b197) all0)
  refine own_of (U' := (T198.setTop (mkF m 12 #[.val (.ref a1), .val (.int (0 : Int32)), .val (.int z), .val (.ref b197), .unset, .unset] [(.int z)]))) (st198) ?_
  refine own_istore X198 hx hby d5_12 (l' := #[.val (.ref a1), .val (.int (0 : Int32)), .val (.int z), .val (.ref b197), .val (.int z), .unset]) rfl ?_
  refine own_iload X198 hx hby d5_14 rfl ?_
  refine own_iloadN X198 hx hby d5_16 rfl ?_
  have hc17_199 : z = z := rfl
  refine own_icmpYes X198 hx hby 17 57 d5_17 (teq hc17_199).1 (by decide) (by decide) ?_
  refine own_aloadN X198 hx hby d5_57 rfl rfl ?_
  exact own_retA X198 hx hlk Bd.returns rfl rfl (hb hby d5_58) (by decide) (by decide) (⟨b197, k197, rfl, N198, KK, sz_b197, Vq198⟩)
abbrev mN_32 : MethodName := ⟨"java/lang/StringUTF16", "coderFromArrayLen", "([BI)B"⟩
theorem d7_0 : decode jdk_52_method_15_code 0 = .ok (.iload_n 1, 1) := by decide +kernel
theorem d7_1 : decode jdk_52_method_15_code 1 = .ok (.aload_n 0, 1) := by decide +kernel
theorem d7_2 : decode jdk_52_method_15_code 2 = .ok (.arraylength, 1) := by decide +kernel
theorem d7_3 : decode jdk_52_method_15_code 3 = .ok (.isub, 1) := by decide +kernel
theorem d7_4 : decode jdk_52_method_15_code 4 = .ok (.bipush 31, 2) := by decide +kernel
theorem d7_6 : decode jdk_52_method_15_code 6 = .ok (.iushr, 1) := by decide +kernel
theorem d7_7 : decode jdk_52_method_15_code 7 = .ok (.i2b, 1) := by decide +kernel
theorem d7_8 : decode jdk_52_method_15_code 8 = .ok (.ireturn, 1) := by decide +kernel
theorem ef_cf (m : MethodId) (x0 : Addr) (x1 : Int32) : entryFrame m #[(.ref x0), (.int x1)] 2 = mkF m 0 #[.val (.ref x0), .val (.int x1)] [] := by first | (simp [entryFrame, mkF, argsToLocals, Value.category]; done) | rfl
set_option maxRecDepth 65536 in
set_option maxHeartbeats 40000000 in
theorem rmcf (l : Launch) (Z : State) (a0 : Array Value) (hw : ∀ d ∈ tables_1, d.before a0 Z = true) (ws : List Jvm.Cond) (b : Addr) (kb : ClassId) (z : Int32) (cs : List Int32) (h0 : Heap) (n0 : Nat) (Z0 : n0 ≤ h0.size) (Vb : Arv Z h0 b kb .byte z (cs.map Value.int) (.int (0 : Int32))) :
    MetFree l mN_32 (head1 (Jvm.Cond.code mN_32 jdk_52_method_15_code 2 (some .byte) :: ws) ({ frames := 0, cells := 0, slots := 0, locals := 0 } : Room)) (fun a U => a = #[(.ref b), (.int z)] ∧ Z.Warmed39 U.vm ∧ U.heap = h0) (fun _ _ _ _ _ => True) (fun _ U o U' => ∃ v L, o = .returned v ∧ (Qv 0 h0 n0) v U'.heap L ∧ FrameEnd U o U' L ({ frames := 0, cells := 0, slots := 0, locals := 0 } : Room).cells ({ frames := 0, cells := 0, slots := 0, locals := 0 } : Room).slots) := by
  refine MetFree.of_bodySF (plainFor_of_name pn_6) hisR ?_
  intro p e s m args below meth c s₁ Bd hml0 hP hK
  obtain ⟨rfl, hZ, hh⟩ := hP
  have hx := Bd.exec
  have hby := Bd.bytes
  have hml : c.maxLocals = 2 := hml0
  have hown : s.vm.findClass "java/lang/StringUTF16" = some m.cls := findClass_of_methodNamed Bd.named
  have hnm := (name_of_methodNamed Bd.named Bd.method).1
  have hlk := Bd.notSynchronized
  have X0 : Stand p l e ({ frames := 0, cells := 0, slots := 0, locals := 0 } : Room) s m #[(.ref b), (.int z)] below meth c s₁ [] 0 0 := Stand.of_body Bd
  have e0 : s₁.heap = h0 := by rw [← hh, Bd.state]; rfl
  have N0 := Fr.nil n0
  show own_Ends p e below s FrameEnd (Qv 0 h0 n0) 0 0 (s₁.setTop (entryFrame m #[(.ref b), (.int z)] 2))
  refine own_of (U' := (s₁.setTop (mkF m 0 #[.val (.ref b), .val (.int z)] []))) (fun _ k => castTop (ef_cf m b z) k) ?_
  refine own_iloadN X0 hx hby d7_0 rfl ?_
  refine own_aloadN X0 hx hby d7_1 rfl rfl ?_
  obtain ⟨cl200, Ar200, qa200, Sa200, Na200, -, -⟩ := id Vb
  have al200 := X0.arraylength hx (by rw [e0]; exact Ar200.1) (State.isArrayOf_alike hZ.alike Ar200.2.1) (g := (mkF m 2 #[.val (.ref b), .val (.int z)] [(.ref b), (.int z)])) rfl rfl (hb hby d7_2)
  rw [len_of Sa200 Na200] at al200
  refine own_of (U' := (s₁.setTop (mkF m 3 #[.val (.ref b), .val (.int z)] [(.int z), (.int z)]))) (al200) ?_
  refine own_isub X0 hx hby d7_3 ?_
  refine own_bipush X0 hx hby 31 d7_4 rfl ?_
  refine own_iushr X0 hx hby d7_6 ?_
  refine own_i2b X0 hx hby d7_7 ?_
  exact own_retN X0 hx hlk (t := .byte) Bd.returns (by simp) (hb hby d7_8) (by decide) (by decide) (⟨congrArg (fun z => some (Value.int z)) (own_cfz z), N0, e0⟩)
abbrev mN_33 : MethodName := ⟨"java/lang/String", "<init>", "([CIILjava/lang/Void;)V"⟩
theorem pd_21 : parseMethodDescriptor "([CII)[B" = some ⟨[(.array .char), .int, .int], some (.array .byte)⟩ := by decide +kernel
theorem pd_22 : parseMethodDescriptor "([BI)B" = some ⟨[(.array .byte), .int], some .byte⟩ := by decide +kernel
theorem d3_0 : decode jdk_42_method_149_code 0 = .ok (.aload_n 0, 1) := by decide +kernel
theorem d3_1 : decode jdk_42_method_149_code 1 = .ok (.invokespecial 1, 3) := by decide +kernel
theorem d3_4 : decode jdk_42_method_149_code 4 = .ok (.iload_n 3, 1) := by decide +kernel
theorem d3_5 : decode jdk_42_method_149_code 5 = .ok (.ifCond .ne 22, 3) := by decide +kernel
theorem d3_27 : decode jdk_42_method_149_code 27 = .ok (.getstatic 38, 3) := by decide +kernel
theorem d3_30 : decode jdk_42_method_149_code 30 = .ok (.ifCond .eq 28, 3) := by decide +kernel
theorem d3_33 : decode jdk_42_method_149_code 33 = .ok (.aload_n 1, 1) := by decide +kernel
theorem d3_34 : decode jdk_42_method_149_code 34 = .ok (.iload_n 2, 1) := by decide +kernel
theorem d3_35 : decode jdk_42_method_149_code 35 = .ok (.iload_n 3, 1) := by decide +kernel
theorem d3_36 : decode jdk_42_method_149_code 36 = .ok (.invokestatic 177, 3) := by decide +kernel
theorem d3_39 : decode jdk_42_method_149_code 39 = .ok (.astore 5, 2) := by decide +kernel
theorem d3_41 : decode jdk_42_method_149_code 41 = .ok (.aload_n 0, 1) := by decide +kernel
theorem d3_42 : decode jdk_42_method_149_code 42 = .ok (.aload 5, 2) := by decide +kernel
theorem d3_44 : decode jdk_42_method_149_code 44 = .ok (.iload_n 3, 1) := by decide +kernel
theorem d3_45 : decode jdk_42_method_149_code 45 = .ok (.invokestatic 47, 3) := by decide +kernel
theorem d3_48 : decode jdk_42_method_149_code 48 = .ok (.putfield 15, 3) := by decide +kernel
theorem d3_51 : decode jdk_42_method_149_code 51 = .ok (.aload_n 0, 1) := by decide +kernel
theorem d3_52 : decode jdk_42_method_149_code 52 = .ok (.aload 5, 2) := by decide +kernel
theorem d3_54 : decode jdk_42_method_149_code 54 = .ok (.putfield 9, 3) := by decide +kernel
theorem d3_57 : decode jdk_42_method_149_code 57 = .ok (.return_, 1) := by decide +kernel
theorem ef_sv (m : MethodId) (x0 : Addr) (x1 : Addr) (x3 : Int32) : entryFrame m #[(.ref x0), (.ref x1), (.int (0 : Int32)), (.int x3), .null] 6 = mkF m 0 #[.val (.ref x0), .val (.ref x1), .val (.int (0 : Int32)), .val (.int x3), .val .null, .unset] [] := by first | (simp [entryFrame, mkF, argsToLocals, Value.category]; done) | rfl
def Qsv (Z : State) (a1 : Addr) (z : Int32) (cs : List Int32) (h0 : Heap) (n0 : Nat) (v : Option Value) (h : Heap) (L : List Loc) : Prop := v = none ∧ Fr n0 L ∧ Keep h0 h [a1] ∧ ∃ (b : Addr) (kb : ClassId), h0.size ≤ b ∧ Fld Z h a1 "java/lang/String" "coder" "B" (.int (0 : Int32)) ∧ Fld Z h a1 "java/lang/String" "value" "[B" (.ref b) ∧ Arv Z h b kb .byte z (List.map Value.int (List.map own_b8 cs)) (.int (0 : Int32))
set_option maxRecDepth 65536 in
set_option maxHeartbeats 40000000 in
theorem rmsv (l : Launch) (Z : State) (a0 : Array Value) (hw : ∀ d ∈ tables_1, d.before a0 Z = true) (ws : List Jvm.Cond) (a1 a2 : Addr) (kc : ClassId) (z : Int32) (cs : List Int32) (g1 : Int32) (h0 : Heap) (n0 : Nat) (Z0 : n0 ≤ h0.size) (E1 : Exa Z h0 a1 "java/lang/String") (Fc : Fld Z h0 a1 "java/lang/String" "coder" "B" (.int (0 : Int32))) (Fv : Fld Z h0 a1 "java/lang/String" "value" "[B" .null) (Vc : Arv Z h0 a2 kc .char z (List.map Value.int cs) (.int (0 : Int32))) (g_a1 : n0 ≤ a1) (h1z : 1 ≤ cs.length) (hz : z.toInt = cs.length) (hl : cs.length ≤ 34) (hall : ∀ c ∈ cs, ¬ ((255 : Int32) < c)) (SC : Sta Z h0 "java/lang/String" "COMPACT_STRINGS" "Z" (.int g1)) (hg1 : ¬ (g1 = (0 : Int32))) :
    MetFree l mN_33 (head1 (Jvm.Cond.code mN_33 jdk_42_method_149_code 6 none :: ws) ({ frames := 2, cells := 1, slots := 34, locals := 35 } : Room)) (fun a U => a = #[(.ref a1), (.ref a2), (.int (0 : Int32)), (.int z), .null] ∧ Z.Warmed39 U.vm ∧ U.heap = h0) (fun _ _ _ _ _ => True) (fun _ U o U' => ∃ v L, o = .returned v ∧ (Qsv Z a1 z cs h0 n0) v U'.heap L ∧ FrameEnd U o U' L ({ frames := 2, cells := 1, slots := 34, locals := 35 } : Room).cells ({ frames := 2, cells := 1, slots := 34, locals := 35 } : Room).slots) := by
  refine MetFree.of_bodySF (plainFor_of_name pn_0) hisR ?_
  intro p e s m args below meth c s₁ Bd hml0 hP hK
  obtain ⟨rfl, hZ, hh⟩ := hP
  have hx := Bd.exec
  have hby := Bd.bytes
  have hml : c.maxLocals = 6 := hml0
  have hown : s.vm.findClass "java/lang/String" = some m.cls := findClass_of_methodNamed Bd.named
  have hnm := (name_of_methodNamed Bd.named Bd.method).1
  have hlk := Bd.notSynchronized
  have X0 : Stand p l e ({ frames := 2, cells := 1, slots := 34, locals := 35 } : Room) s m #[(.ref a1), (.ref a2), (.int (0 : Int32)), (.int z), .null] below meth c s₁ [] 0 0 := Stand.of_body Bd
  have e0 : s₁.heap = h0 := by rw [← hh, Bd.state]; rfl
  have N0 := Fr.nil n0
  have KK := Keep.refl h0 [a1]
  show own_Ends p e below s FrameEnd (Qsv Z a1 z cs h0 n0) 1 34 (s₁.setTop (entryFrame m #[(.ref a1), (.ref a2), (.int (0 : Int32)), (.int z), .null] 6))
  refine own_of (U' := (s₁.setTop (mkF m 0 #[.val (.ref a1), .val (.ref a2), .val (.int (0 : Int32)), .val (.int z), .val .null, .unset] []))) (fun _ k => castTop (ef_sv m a1 a2 z) k) ?_
  refine own_aloadN X0 hx hby d3_0 rfl rfl ?_
  obtain ⟨T201, X201, e201, st201⟩ := initO X0 hx hZ hown (own_w hw 15 rfl) (own_w hw 16 rfl) (own_w hw 17 rfl) e0 (g := (mkF m 1 #[.val (.ref a1), .val (.ref a2), .val (.int (0 : Int32)), .val (.int z), .val .null, .unset] [(.ref a1)])) rfl (by rw [hml]; rfl) rfl (hb hby d3_1) (by decide) (W := 0) (by show 2 * 0 + _ ≤ _; exact Nat.le_of_eq rfl) (by decide)
  refine own_of (U' := (T201.setTop (mkF m 4 #[.val (.ref a1), .val (.ref a2), .val (.int (0 : Int32)), .val (.int z), .val .null, .unset] []))) (st201) ?_
  refine own_iloadN X201 hx hby d3_4 rfl ?_
  have hc5_202 : ¬ (z = (0 : Int32)) := fun q => by rw [q, own_i0] at hz; omega
  refine own_ifYes X201 hx hby 5 27 d3_5 ((if0 _ _).trans (feq hc5_202).2) (by decide) (by decide) ?_
  obtain ⟨T203, X203, e203, st203⟩ := getS2 X201 hx hZ hown (host := "") (Or.inl (own_w hw 18 rfl)) Via.refl e201 SC (g := (mkF m 27 #[.val (.ref a1), .val (.ref a2), .val (.int (0 : Int32)), .val (.int z), .val .null, .unset] [])) rfl (hb hby d3_27)
  refine own_of (U' := (T203.setTop (mkF m 30 #[.val (.ref a1), .val (.ref a2), .val (.int (0 : Int32)), .val (.int z), .val .null, .unset] [(.int g1)]))) (st203) ?_
  have hc30_204 : ¬ (g1 = (0 : Int32)) := hg1
  refine own_ifNo X203 hx hby d3_30 ((if0 _ _).trans (feq hc30_204).1) ?_
  refine own_aloadN X203 hx hby d3_33 rfl rfl ?_
  refine own_iloadN X203 hx hby d3_34 rfl ?_
  refine own_iloadN X203 hx hby d3_35 rfl ?_
  obtain ⟨_, _, ⟨T205, L205, k205, n205⟩, -, X205, ⟨Lc205, hQ205, l205, y205, z205⟩, st205⟩ := Jvm.LawKit.callS X203 hx (y := mN_31) hown (mvT hZ (own_w hw 19 rfl)) (mvT hZ (own_w hw 20 rfl)) (mvT hZ (own_w hw 21 rfl)) (mvT hZ (own_w hw 22 rfl)) (by decide) (backOf (W := 0) (rmcp l Z a0 hw [] a2 kc z cs h0 n0 Z0 Vc hz hl hall) hZ (own_w hw 22 rfl) (own_w hw 21 rfl) (by decide) (by decide)) (g := (mkF m 36 #[.val (.ref a1), .val (.ref a2), .val (.int (0 : Int32)), .val (.int z), .val .null, .unset] [(.int z), (.int (0 : Int32)), (.ref a2)])) rfl (by rw [hml]; rfl) (argsL := [(.ref a2), (.int (0 : Int32)), (.int z)]) (rest := []) (lenOf pd_21 rfl) rfl (by show 2 * 0 + _ ≤ _; exact Nat.le_of_eq rfl) (hb hby d3_36) (fun _ _ => ⟨rfl, e203, (by decide : 0 + 1 ≤ _), (by decide : 0 + 34 ≤ _)⟩)
  dsimp only [Pt.U, Pt.locs, Pt.cells, Pt.slots] at X205 l205 y205 z205 st205 hQ205
  rw [l205, y205, z205] at X205
  obtain ⟨u205, ku205, rfl, Nq205, Kp205, gq205, Vq205⟩ := hQ205
  have g_u205 : n0 ≤ u205 := Nat.le_trans Z0 gq205
  have sz_u205 : h0.size ≤ u205 := Nat.le_trans KK.1 gq205
  have ne_a1_u205 : a1 ≠ u205 := Nat.ne_of_lt (Nat.lt_of_lt_of_le E1.lt gq205)
  have ne_a2_u205 : a2 ≠ u205 := Nat.ne_of_lt (Nat.lt_of_lt_of_le Vc.lt gq205)
  have N205 := Fr.app N0 Nq205
  replace Z0 := Nat.le_trans Z0 Kp205.1
  replace E1 := E1.keep Kp205
  replace Fc := Fc.keep Kp205 nin0
  replace Fv := Fv.keep Kp205 nin0
  replace Vc := Vc.keep Kp205 nin0
  replace SC := own_staKeep SC Kp205 ns0
  replace KK := KK.trans Kp205 all0
  refine own_of (U' := (T205.setTop (mkF m 39 #[.val (.ref a1), .val (.ref a2), .val (.int (0 : Int32)), .val (.int z), .val .null, .unset] [(.ref u205)]))) (st205) ?_
  refine own_astore X205 hx hby d3_39 rfl (l' := #[.val (.ref a1), .val (.ref a2), .val (.int (0 : Int32)), .val (.int z), .val .null, .val (.ref u205)]) rfl ?_
  refine own_aloadN X205 hx hby d3_41 rfl rfl ?_
  refine own_aload X205 hx hby d3_42 rfl rfl ?_
  refine own_iloadN X205 hx hby d3_44 rfl ?_
  obtain ⟨_, _, ⟨T206, L206, k206, n206⟩, -, X206, ⟨Lc206, hQ206, l206, y206, z206⟩, st206⟩ := Jvm.LawKit.callS X205 hx (y := mN_32) hown (mvT hZ (own_w hw 27 rfl)) (mvT hZ (own_w hw 28 rfl)) (mvT hZ (own_w hw 21 rfl)) (mvT hZ (own_w hw 29 rfl)) (by decide) (backOf (W := 1) (rmcf l Z a0 hw [] u205 ku205 z (List.map own_b8 cs) T205.heap n0 Z0 Vq205) hZ (own_w hw 29 rfl) (own_w hw 21 rfl) (by decide) (by decide)) (g := (mkF m 45 #[.val (.ref a1), .val (.ref a2), .val (.int (0 : Int32)), .val (.int z), .val .null, .val (.ref u205)] [(.int z), (.ref u205), (.ref a1)])) rfl (by rw [hml]; rfl) (argsL := [(.ref u205), (.int z)]) (rest := [(.ref a1)]) (lenOf pd_22 rfl) rfl (by show 2 * 0 + _ ≤ _; exact Nat.le_of_eq rfl) (hb hby d3_45) (fun _ _ => ⟨rfl, rfl, (by decide : 1 + 0 ≤ _), (by decide : 34 + 0 ≤ _)⟩)
  dsimp only [Pt.U, Pt.locs, Pt.cells, Pt.slots] at X206 l206 y206 z206 st206 hQ206
  rw [l206, y206, z206] at X206
  obtain ⟨rfl, Nq206, e206⟩ := hQ206
  have N206 := Fr.app N205 Nq206
  refine own_of (U' := (T206.setTop (mkF m 48 #[.val (.ref a1), .val (.ref a2), .val (.int (0 : Int32)), .val (.int z), .val .null, .val (.ref u205)] [(.int (0 : Int32)), (.ref a1)]))) (st206) ?_
  obtain ⟨T207, h207, X207, e207, W207, st207⟩ := putFN X206 hx hZ hown (own_w hw 30 rfl) Via.refl e206 Fc E1 (Or.inr ⟨(own_w hw 31 rfl), rfl, hnm⟩) (own_w hw 6 rfl) (ty := .byte) (v' := (.int (0 : Int32))) (by decide) rfl (by decide) (g := (mkF m 48 #[.val (.ref a1), .val (.ref a2), .val (.int (0 : Int32)), .val (.int z), .val .null, .val (.ref u205)] [(.int (0 : Int32)), (.ref a1)])) rfl rfl (hb hby d3_48)
  replace Z0 := Nat.le_trans Z0 (Keep.of_wr W207).1
  replace E1 := E1.wr W207
  replace Fc := Fc.same W207
  replace Fv := Fv.other W207 (Or.inr (slot_ne (Or.inr (own_w hw 33 rfl)) (Or.inr (own_w hw 31 rfl)) (by decide) (t := (.array .byte)) (t' := .byte) (by decide) (by decide)))
  replace SC := SC.wr W207
  replace KK := KK.wr W207 (Or.inl (List.mem_of_getElem? (i := 0) rfl))
  replace Vq205 := Vq205.other W207 (Ne.symm ne_a1_u205)
  have N207 := Fr.snoc X207 N206 g_a1
  refine own_of (U' := (T207.setTop (mkF m 51 #[.val (.ref a1), .val (.ref a2), .val (.int (0 : Int32)), .val (.int z), .val .null, .val (.ref u205)] []))) (st207) ?_
  refine own_aloadN X207 hx hby d3_51 rfl rfl ?_
  refine own_aload X207 hx hby d3_52 rfl rfl ?_
  obtain ⟨T208, h208, X208, e208, W208, st208⟩ := putF X207 hx hZ hown (host := "") (Or.inl (own_w hw 32 rfl)) Via.refl e207 Fv E1 (Or.inr ⟨(own_w hw 33 rfl), rfl, hnm⟩) (own_w hw 6 rfl) (ty := (.array .byte)) (by decide) rfl rfl (g := (mkF m 54 #[.val (.ref a1), .val (.ref a2), .val (.int (0 : Int32)), .val (.int z), .val .null, .val (.ref u205)] [(.ref u205), (.ref a1)])) rfl rfl (hb hby d3_54)
  replace Z0 := Nat.le_trans Z0 (Keep.of_wr W208).1
  replace E1 := E1.wr W208
  replace Fc := Fc.other W208 (Or.inr (slot_ne (Or.inr (own_w hw 31 rfl)) (Or.inr (own_w hw 33 rfl)) (by decide) (t := .byte) (t' := (.array .byte)) (by decide) (by decide)))
  replace Fv := Fv.same W208
  replace SC := SC.wr W208
  replace KK := KK.wr W208 (Or.inl (List.mem_of_getElem? (i := 0) rfl))
  replace Vq205 := Vq205.other W208 (Ne.symm ne_a1_u205)
  have N208 := Fr.snoc X208 N207 g_a1
  refine own_of (U' := (T208.setTop (mkF m 57 #[.val (.ref a1), .val (.ref a2), .val (.int (0 : Int32)), .val (.int z), .val .null, .val (.ref u205)] []))) (st208) ?_
  exact own_ret0 X208 hx hlk Bd.returns (hb hby d3_57) (by decide) (by decide) (by rw [e208]; exact ⟨rfl, N208, KK, u205, ku205, sz_u205, Fc, Fv, Vq205⟩)
abbrev mN_34 : MethodName := ⟨"java/lang/String", "<init>", "([C)V"⟩
theorem pd_23 : parseMethodDescriptor "([CIILjava/lang/Void;)V" = some ⟨[(.array .char), .int, .int, (.object "java/lang/Void")], none⟩ := by decide +kernel
theorem d2_0 : decode jdk_42_method_3_code 0 = .ok (.aload_n 0, 1) := by decide +kernel
theorem d2_1 : decode jdk_42_method_3_code 1 = .ok (.aload_n 1, 1) := by decide +kernel
theorem d2_2 : decode jdk_42_method_3_code 2 = .ok (.iconst 0, 1) := by decide +kernel
theorem d2_3 : decode jdk_42_method_3_code 3 = .ok (.aload_n 1, 1) := by decide +kernel
theorem d2_4 : decode jdk_42_method_3_code 4 = .ok (.arraylength, 1) := by decide +kernel
theorem d2_5 : decode jdk_42_method_3_code 5 = .ok (.aconst_null, 1) := by decide +kernel
theorem d2_6 : decode jdk_42_method_3_code 6 = .ok (.invokespecial 27, 3) := by decide +kernel
theorem d2_9 : decode jdk_42_method_3_code 9 = .ok (.return_, 1) := by decide +kernel
theorem ef_si (m : MethodId) (x0 : Addr) (x1 : Addr) : entryFrame m #[(.ref x0), (.ref x1)] 2 = mkF m 0 #[.val (.ref x0), .val (.ref x1)] [] := by first | (simp [entryFrame, mkF, argsToLocals, Value.category]; done) | rfl
set_option maxRecDepth 65536 in
set_option maxHeartbeats 40000000 in
theorem rmsi (l : Launch) (Z : State) (a0 : Array Value) (hw : ∀ d ∈ tables_1, d.before a0 Z = true) (ws : List Jvm.Cond) (a1 a2 : Addr) (kc : ClassId) (z : Int32) (cs : List Int32) (g1 : Int32) (h0 : Heap) (n0 : Nat) (Z0 : n0 ≤ h0.size) (E1 : Exa Z h0 a1 "java/lang/String") (Fc : Fld Z h0 a1 "java/lang/String" "coder" "B" (.int (0 : Int32))) (Fv : Fld Z h0 a1 "java/lang/String" "value" "[B" .null) (Vc : Arv Z h0 a2 kc .char z (List.map Value.int cs) (.int (0 : Int32))) (g_a1 : n0 ≤ a1) (h1z : 1 ≤ cs.length) (hz : z.toInt = cs.length) (hl : cs.length ≤ 34) (hall : ∀ c ∈ cs, ¬ ((255 : Int32) < c)) (SC : Sta Z h0 "java/lang/String" "COMPACT_STRINGS" "Z" (.int g1)) (hg1 : ¬ (g1 = (0 : Int32))) :
    MetFree l mN_34 (head1 (Jvm.Cond.code mN_34 jdk_42_method_3_code 2 none :: ws) ({ frames := 3, cells := 1, slots := 34, locals := 52 } : Room)) (fun a U => a = #[(.ref a1), (.ref a2)] ∧ Z.Warmed39 U.vm ∧ U.heap = h0) (fun _ _ _ _ _ => True) (fun _ U o U' => ∃ v L, o = .returned v ∧ (Qsv Z a1 z cs h0 n0) v U'.heap L ∧ FrameEnd U o U' L ({ frames := 3, cells := 1, slots := 34, locals := 52 } : Room).cells ({ frames := 3, cells := 1, slots := 34, locals := 52 } : Room).slots) := by
  refine MetFree.of_bodySF (plainFor_of_name pn_0) hisR ?_
  intro p e s m args below meth c s₁ Bd hml0 hP hK
  obtain ⟨rfl, hZ, hh⟩ := hP
  have hx := Bd.exec
  have hby := Bd.bytes
  have hml : c.maxLocals = 2 := hml0
  have hown : s.vm.findClass "java/lang/String" = some m.cls := findClass_of_methodNamed Bd.named
  have hnm := (name_of_methodNamed Bd.named Bd.method).1
  have hlk := Bd.notSynchronized
  have X0 : Stand p l e ({ frames := 3, cells := 1, slots := 34, locals := 52 } : Room) s m #[(.ref a1), (.ref a2)] below meth c s₁ [] 0 0 := Stand.of_body Bd
  have e0 : s₁.heap = h0 := by rw [← hh, Bd.state]; rfl
  have N0 := Fr.nil n0
  have KK := Keep.refl h0 [a1]
  show own_Ends p e below s FrameEnd (Qsv Z a1 z cs h0 n0) 1 34 (s₁.setTop (entryFrame m #[(.ref a1), (.ref a2)] 2))
  refine own_of (U' := (s₁.setTop (mkF m 0 #[.val (.ref a1), .val (.ref a2)] []))) (fun _ k => castTop (ef_si m a1 a2) k) ?_
  refine own_aloadN X0 hx hby d2_0 rfl rfl ?_
  refine own_aloadN X0 hx hby d2_1 rfl rfl ?_
  refine own_iconst X0 hx hby 0 d2_2 rfl ?_
  refine own_aloadN X0 hx hby d2_3 rfl rfl ?_
  obtain ⟨cl209, Ar209, qa209, Sa209, Na209, -, -⟩ := id Vc
  have al209 := X0.arraylength hx (by rw [e0]; exact Ar209.1) (State.isArrayOf_alike hZ.alike Ar209.2.1) (g := (mkF m 4 #[.val (.ref a1), .val (.ref a2)] [(.ref a2), (.int (0 : Int32)), (.ref a2), (.ref a1)])) rfl rfl (hb hby d2_4)
  rw [len_of Sa209 Na209] at al209
  refine own_of (U' := (s₁.setTop (mkF m 5 #[.val (.ref a1), .val (.ref a2)] [(.int z), (.int (0 : Int32)), (.ref a2), (.ref a1)]))) (al209) ?_
  refine own_aconstNull X0 hx hby d2_5 ?_
  obtain ⟨_, _, ⟨T210, L210, k210, n210⟩, -, X210, ⟨Lc210, hQ210, l210, y210, z210⟩, st210⟩ := X0.specialBack hx (y := mN_33) rfl hown (mvT hZ (own_w hw 11 rfl)) (mvT hZ (own_w hw 12 rfl)) (mvT hZ (own_w hw 14 rfl)) (by decide) (backOf (W := 0) (rmsv l Z a0 hw [] a1 a2 kc z cs g1 h0 n0 Z0 E1 Fc Fv Vc g_a1 h1z hz hl hall SC hg1) hZ (own_w hw 14 rfl) (own_w hw 7 rfl) (by decide) (by decide)) (g := (mkF m 6 #[.val (.ref a1), .val (.ref a2)] [.null, (.int z), (.int (0 : Int32)), (.ref a2), (.ref a1)])) rfl (by rw [hml]; rfl) (Steps.refl _) (a := a1) (argsL := [(.ref a2), (.int (0 : Int32)), (.int z), .null]) (rest := []) (lenOf pd_23 rfl) rfl (by show 2 * 0 + _ ≤ _; exact Nat.le_of_eq rfl) (hb hby d2_6) (fun _ _ => ⟨rfl, e0, (by decide : 0 + 1 ≤ _), (by decide : 0 + 34 ≤ _)⟩)
  dsimp only [Pt.U, Pt.locs, Pt.cells, Pt.slots] at X210 l210 y210 z210 st210 hQ210
  rw [l210, y210, z210] at X210
  obtain ⟨rfl, Nq210, Kp210, u210, ku210, gq210, Cq210, Fq210, Vq210⟩ := hQ210
  have g_u210 : n0 ≤ u210 := Nat.le_trans Z0 gq210
  have sz_u210 : h0.size ≤ u210 := Nat.le_trans KK.1 gq210
  have ne_a1_u210 : a1 ≠ u210 := Nat.ne_of_lt (Nat.lt_of_lt_of_le E1.lt gq210)
  have ne_a2_u210 : a2 ≠ u210 := Nat.ne_of_lt (Nat.lt_of_lt_of_le Vc.lt gq210)
  have N210 := Fr.app N0 Nq210
  have nst_a1 := E1.nostat
  replace Z0 := Nat.le_trans Z0 Kp210.1
  replace E1 := E1.keep Kp210
  replace SC := own_staKeep SC Kp210 (nsS nst_a1 ns0)
  replace KK := KK.trans Kp210 (allS (Or.inl (List.mem_of_getElem? (i := 0) rfl)) all0)
  refine own_of (U' := (T210.setTop (mkF m 9 #[.val (.ref a1), .val (.ref a2)] []))) (fun _ k => st210.trans k) ?_
  exact own_ret0 X210 hx hlk Bd.returns (hb hby d2_9) (by decide) (by decide) (⟨rfl, N210, KK, u210, ku210, sz_u210, Cq210, Fq210, Vq210⟩)
abbrev mN_35 : MethodName := ⟨"java/lang/StringLatin1", "equals", "([B[B)Z"⟩
theorem d40_0 : decode jdk_43_method_13_code 0 = .ok (.aload_n 0, 1) := by decide +kernel
theorem d40_1 : decode jdk_43_method_13_code 1 = .ok (.arraylength, 1) := by decide +kernel
theorem d40_2 : decode jdk_43_method_13_code 2 = .ok (.aload_n 1, 1) := by decide +kernel
theorem d40_3 : decode jdk_43_method_13_code 3 = .ok (.arraylength, 1) := by decide +kernel
theorem d40_4 : decode jdk_43_method_13_code 4 = .ok (.if_icmp .ne 30, 3) := by decide +kernel
theorem d40_7 : decode jdk_43_method_13_code 7 = .ok (.iconst 0, 1) := by decide +kernel
theorem d40_8 : decode jdk_43_method_13_code 8 = .ok (.istore_n 2, 1) := by decide +kernel
theorem d40_9 : decode jdk_43_method_13_code 9 = .ok (.iload_n 2, 1) := by decide +kernel
theorem d40_10 : decode jdk_43_method_13_code 10 = .ok (.aload_n 0, 1) := by decide +kernel
theorem d40_11 : decode jdk_43_method_13_code 11 = .ok (.arraylength, 1) := by decide +kernel
theorem d40_12 : decode jdk_43_method_13_code 12 = .ok (.if_icmp .ge 20, 3) := by decide +kernel
theorem d40_15 : decode jdk_43_method_13_code 15 = .ok (.aload_n 0, 1) := by decide +kernel
theorem d40_16 : decode jdk_43_method_13_code 16 = .ok (.iload_n 2, 1) := by decide +kernel
theorem d40_17 : decode jdk_43_method_13_code 17 = .ok (.baload, 1) := by decide +kernel
theorem d40_18 : decode jdk_43_method_13_code 18 = .ok (.aload_n 1, 1) := by decide +kernel
theorem d40_19 : decode jdk_43_method_13_code 19 = .ok (.iload_n 2, 1) := by decide +kernel
theorem d40_20 : decode jdk_43_method_13_code 20 = .ok (.baload, 1) := by decide +kernel
theorem d40_21 : decode jdk_43_method_13_code 21 = .ok (.if_icmp .eq 5, 3) := by decide +kernel
theorem d40_26 : decode jdk_43_method_13_code 26 = .ok (.iinc 2 1, 3) := by decide +kernel
theorem d40_29 : decode jdk_43_method_13_code 29 = .ok (.goto (-20), 3) := by decide +kernel
theorem d40_32 : decode jdk_43_method_13_code 32 = .ok (.iconst 1, 1) := by decide +kernel
theorem d40_33 : decode jdk_43_method_13_code 33 = .ok (.ireturn, 1) := by decide +kernel
theorem pn_7 : plainName "java/lang/StringLatin1" = true := by first | (simp [plainName, overriddenIn]; done) | decide +kernel
theorem ef_le (m : MethodId) (x0 : Addr) (x1 : Addr) : entryFrame m #[(.ref x0), (.ref x1)] 3 = mkF m 0 #[.val (.ref x0), .val (.ref x1), .unset] [] := by first | (simp [entryFrame, mkF, argsToLocals, Value.category]; done) | rfl
set_option maxRecDepth 65536 in
set_option maxHeartbeats 40000000 in
theorem rmle (l : Launch) (Z : State) (a0 : Array Value) (hw : ∀ d ∈ tables_1, d.before a0 Z = true) (ws : List Jvm.Cond) (b b2 : Addr) (kb kb2 : ClassId) (z : Int32) (cs : List Int32) (h0 : Heap) (n0 : Nat) (Z0 : n0 ≤ h0.size) (Vb : Arv Z h0 b kb .byte z (cs.map Value.int) (.int (0 : Int32))) (V2 : Arv Z h0 b2 kb2 .byte z (List.map Value.int cs) (.int (0 : Int32))) (hz : z.toInt = cs.length) :
    MetFree l mN_35 (head1 (Jvm.Cond.code mN_35 jdk_43_method_13_code 3 (some .boolean) :: ws) ({ frames := 0, cells := 0, slots := 0, locals := 0 } : Room)) (fun a U => a = #[(.ref b), (.ref b2)] ∧ Z.Warmed39 U.vm ∧ U.heap = h0) (fun _ _ _ _ _ => True) (fun _ U o U' => ∃ v L, o = .returned v ∧ (Qv 1 h0 n0) v U'.heap L ∧ FrameEnd U o U' L ({ frames := 0, cells := 0, slots := 0, locals := 0 } : Room).cells ({ frames := 0, cells := 0, slots := 0, locals := 0 } : Room).slots) := by
  refine MetFree.of_bodySF (plainFor_of_name pn_7) hisR ?_
  intro p e s m args below meth c s₁ Bd hml0 hP hK
  obtain ⟨rfl, hZ, hh⟩ := hP
  have hx := Bd.exec
  have hby := Bd.bytes
  have hml : c.maxLocals = 3 := hml0
  have hown : s.vm.findClass "java/lang/StringLatin1" = some m.cls := findClass_of_methodNamed Bd.named
  have hnm := (name_of_methodNamed Bd.named Bd.method).1
  have hlk := Bd.notSynchronized
  have X0 : Stand p l e ({ frames := 0, cells := 0, slots := 0, locals := 0 } : Room) s m #[(.ref b), (.ref b2)] below meth c s₁ [] 0 0 := Stand.of_body Bd
  have e0 : s₁.heap = h0 := by rw [← hh, Bd.state]; rfl
  have N0 := Fr.nil n0
  show own_Ends p e below s FrameEnd (Qv 1 h0 n0) 0 0 (s₁.setTop (entryFrame m #[(.ref b), (.ref b2)] 3))
  refine own_of (U' := (s₁.setTop (mkF m 0 #[.val (.ref b), .val (.ref b2), .unset] []))) (fun _ k => castTop (ef_le m b b2) k) ?_
  refine own_aloadN X0 hx hby d40_0 rfl rfl ?_
  obtain ⟨cl211, Ar211, qa211, Sa211, Na211, -, -⟩ := id Vb
  have al211 := X0.arraylength hx (by rw [e0]; exact Ar211.1) (State.isArrayOf_alike hZ.alike Ar211.2.1) (g := (mkF m 1 #[.val (.ref b), .val (.ref b2), .unset] [(.ref b)])) rfl rfl (hb hby d40_1)
  rw [len_of Sa211 Na211] at al211
  refine own_of (U' := (s₁.setTop (mkF m 2 #[.val (.ref b), .val (.ref b2), .unset] [(.int z)]))) (al211) ?_
  refine own_aloadN X0 hx hby d40_2 rfl rfl ?_
  obtain ⟨cl212, Ar212, qa212, Sa212, Na212, -, -⟩ := id V2
  have al212 := X0.arraylength hx (by rw [e0]; exact Ar212.1) (State.isArrayOf_alike hZ.alike Ar212.2.1) (g := (mkF m 3 #[.val (.ref b), .val (.ref b2), .unset] [(.ref b2), (.int z)])) rfl rfl (hb hby d40_3)
  rw [len_of Sa212 Na212] at al212
  refine own_of (U' := (s₁.setTop (mkF m 4 #[.val (.ref b), .val (.ref b2), .unset] [(.int z), (.int z)]))) (al212) ?_
  have hc4_213 : z = z := rfl
  refine own_icmpNo X0 hx hby d40_4 (teq hc4_213).2 ?_
  refine own_iconst X0 hx hby 0 d40_7 rfl ?_
  refine own_istoreN X0 hx hby d40_8 (l' := #[.val (.ref b), .val (.ref b2), .val (.int (0 : Int32))]) rfl ?_
  suffices key214 : ∀ (f : Nat) (T214 : State) (L214 : List Loc) (i : Int32), Stand p l e ({ frames := 0, cells := 0, slots := 0, locals := 0 } : Room) s m #[(.ref b), (.ref b2)] below meth c T214 L214 0 0 → T214.heap = h0 → Fr n0 L214 → (0 ≤ i.toInt ∧ i.toInt + (f : Int) = (cs.length : Int)) → own_Ends p e below s FrameEnd (Qv 1 h0 n0) 0 0 (T214.setTop (mkF m 9 #[.val (.ref b), .val (.ref b2), .val (.int i)] [])) by
    exact key214 cs.length _ _ _ X0 e0 N0 ⟨by decide, by rw [own_i0]; omega⟩
  intro f
  induction f using Nat.strongRecOn with
  | _ f ih214 =>
    intro T214 L214 i X214 e214 N214 iv
    obtain ⟨i0, hif⟩ := iv
    refine own_iloadN X214 hx hby d40_9 rfl ?_
    refine own_aloadN X214 hx hby d40_10 rfl rfl ?_
    obtain ⟨cl215, Ar215, qa215, Sa215, Na215, -, -⟩ := id Vb
    have al215 := X214.arraylength hx (by rw [e214]; exact Ar215.1) (State.isArrayOf_alike hZ.alike Ar215.2.1) (g := (mkF m 11 #[.val (.ref b), .val (.ref b2), .val (.int i)] [(.ref b), (.int i)])) rfl rfl (hb hby d40_11)
    rw [len_of Sa215 Na215] at al215
    refine own_of (U' := (T214.setTop (mkF m 12 #[.val (.ref b), .val (.ref b2), .val (.int i)] [(.int z), (.int i)]))) (al215) ?_
    by_cases hc12_216 : i < z
    · skip
      refine own_icmpNo X214 hx hby d40_12 (tlt hc12_216).2.1 ?_
      have hjl : i.toInt < cs.length := by have q := hc12_216; rw [own_ltI, hz] at q; omega
      obtain ⟨g, rfl⟩ : ∃ g, f = g + 1 := ⟨f - 1, by omega⟩
      have hi1 : (i + (1 : Int32)).toInt = i.toInt + 1 := by rw [own_addI (by rw [show (1 : Int32).toInt = 1 by decide]; omega) (by rw [show (1 : Int32).toInt = 1 by decide]; have := rng32 z; omega)]; rfl
      refine own_aloadN X214 hx hby d40_15 rfl rfl ?_
      refine own_iloadN X214 hx hby d40_16 rfl ?_
      obtain ⟨cl217, Ar217, qa217, Sa217, Na217, Ha217, Ga217⟩ := id Vb
      have hin217 : ¬ (i < 0 ∨ cl217.slots.size ≤ (i).toNatClampNeg) := inb_of Sa217 ⟨own_ge0 (by omega), by rw [own_ltI, hz]; omega⟩
      have hat217 : cl217.slots[(i).toNatClampNeg]? = some (.int (own_at cs i)) := Has.at Ha217 hin217 (own_at_eq cs _)
      refine own_of (U' := (T214.setTop (mkF m 18 #[.val (.ref b), .val (.ref b2), .val (.int i)] [(.int (own_at cs i))]))) (X214.baloadBytes hx (j := i) (v := (.int (own_at cs i))) (by rw [e214]; exact Ar217.1) (State.isArrayOf_alike hZ.alike Ar217.2.1) Ar217.2.2 hin217 hat217 (g := (mkF m 17 #[.val (.ref b), .val (.ref b2), .val (.int i)] [(.int i), (.ref b)])) rfl rfl (hb hby d40_17)) ?_
      refine own_aloadN X214 hx hby d40_18 rfl rfl ?_
      refine own_iloadN X214 hx hby d40_19 rfl ?_
      obtain ⟨cl218, Ar218, qa218, Sa218, Na218, Ha218, Ga218⟩ := id V2
      have hin218 : ¬ (i < 0 ∨ cl218.slots.size ≤ (i).toNatClampNeg) := inb_of Sa218 ⟨own_ge0 (by omega), by rw [own_ltI, hz]; omega⟩
      have hat218 : cl218.slots[(i).toNatClampNeg]? = some (.int (own_at cs i)) := Has.at Ha218 hin218 (own_at_eq cs _)
      refine own_of (U' := (T214.setTop (mkF m 21 #[.val (.ref b), .val (.ref b2), .val (.int i)] [(.int (own_at cs i)), (.int (own_at cs i))]))) (X214.baloadBytes hx (j := i) (v := (.int (own_at cs i))) (by rw [e214]; exact Ar218.1) (State.isArrayOf_alike hZ.alike Ar218.2.1) Ar218.2.2 hin218 hat218 (g := (mkF m 20 #[.val (.ref b), .val (.ref b2), .val (.int i)] [(.int i), (.ref b2), (.int (own_at cs i))])) rfl rfl (hb hby d40_20)) ?_
      have hc21_219 : (own_at cs i) = (own_at cs i) := rfl
      refine own_icmpYes X214 hx hby 21 26 d40_21 (teq hc21_219).1 (by decide) (by decide) ?_
      refine own_iinc X214 hx hby d40_26 rfl (l' := #[.val (.ref b), .val (.ref b2), .val (.int (i + (1 : Int32)))]) rfl ?_
      refine own_goto X214 hx hby 29 9 d40_29 (by decide) (by decide) ?_
      exact ih214 g (Nat.lt_succ_self g) _ _ _ X214 e214 N214 ⟨by omega, by omega⟩
    · skip
      refine own_icmpYes X214 hx hby 12 32 d40_12 (flt hc12_216).2.1 (by decide) (by decide) ?_
      refine own_iconst X214 hx hby 1 d40_32 rfl ?_
      exact own_retN X214 hx hlk (t := .boolean) Bd.returns (by simp) (hb hby d40_33) (by decide) (by decide) (⟨rfl, N214, e214⟩)
abbrev mN_36 : MethodName := ⟨"java/lang/String", "equals", "(Ljava/lang/Object;)Z"⟩
theorem pd_24 : parseMethodDescriptor "([B[B)Z" = some ⟨[(.array .byte), (.array .byte)], some .boolean⟩ := by decide +kernel
theorem d39_0 : decode jdk_42_method_66_code 0 = .ok (.aload_n 0, 1) := by decide +kernel
theorem d39_1 : decode jdk_42_method_66_code 1 = .ok (.aload_n 1, 1) := by decide +kernel
theorem d39_2 : decode jdk_42_method_66_code 2 = .ok (.if_acmp .ne 5, 3) := by decide +kernel
theorem d39_7 : decode jdk_42_method_66_code 7 = .ok (.aload_n 1, 1) := by decide +kernel
theorem d39_8 : decode jdk_42_method_66_code 8 = .ok (.instanceof 10, 3) := by decide +kernel
theorem d39_11 : decode jdk_42_method_66_code 11 = .ok (.ifCond .eq 43, 3) := by decide +kernel
theorem d39_14 : decode jdk_42_method_66_code 14 = .ok (.aload_n 1, 1) := by decide +kernel
theorem d39_15 : decode jdk_42_method_66_code 15 = .ok (.checkcast 10, 3) := by decide +kernel
theorem d39_18 : decode jdk_42_method_66_code 18 = .ok (.astore_n 2, 1) := by decide +kernel
theorem d39_19 : decode jdk_42_method_66_code 19 = .ok (.getstatic 38, 3) := by decide +kernel
theorem d39_22 : decode jdk_42_method_66_code 22 = .ok (.ifCond .eq 14, 3) := by decide +kernel
theorem d39_25 : decode jdk_42_method_66_code 25 = .ok (.aload_n 0, 1) := by decide +kernel
theorem d39_26 : decode jdk_42_method_66_code 26 = .ok (.getfield 15, 3) := by decide +kernel
theorem d39_29 : decode jdk_42_method_66_code 29 = .ok (.aload_n 2, 1) := by decide +kernel
theorem d39_30 : decode jdk_42_method_66_code 30 = .ok (.getfield 15, 3) := by decide +kernel
theorem d39_33 : decode jdk_42_method_66_code 33 = .ok (.if_icmp .ne 21, 3) := by decide +kernel
theorem d39_36 : decode jdk_42_method_66_code 36 = .ok (.aload_n 0, 1) := by decide +kernel
theorem d39_37 : decode jdk_42_method_66_code 37 = .ok (.getfield 9, 3) := by decide +kernel
theorem d39_40 : decode jdk_42_method_66_code 40 = .ok (.aload_n 2, 1) := by decide +kernel
theorem d39_41 : decode jdk_42_method_66_code 41 = .ok (.getfield 9, 3) := by decide +kernel
theorem d39_44 : decode jdk_42_method_66_code 44 = .ok (.invokestatic 541, 3) := by decide +kernel
theorem d39_47 : decode jdk_42_method_66_code 47 = .ok (.ifCond .eq 7, 3) := by decide +kernel
theorem d39_50 : decode jdk_42_method_66_code 50 = .ok (.iconst 1, 1) := by decide +kernel
theorem d39_51 : decode jdk_42_method_66_code 51 = .ok (.goto 4, 3) := by decide +kernel
theorem d39_55 : decode jdk_42_method_66_code 55 = .ok (.ireturn, 1) := by decide +kernel
theorem ef_eq (m : MethodId) (x0 : Addr) (x1 : Addr) : entryFrame m #[(.ref x0), (.ref x1)] 3 = mkF m 0 #[.val (.ref x0), .val (.ref x1), .unset] [] := by first | (simp [entryFrame, mkF, argsToLocals, Value.category]; done) | rfl
set_option maxRecDepth 65536 in
set_option maxHeartbeats 40000000 in
theorem rmeq (l : Launch) (Z : State) (a0 : Array Value) (hw : ∀ d ∈ tables_1, d.before a0 Z = true) (ws : List Jvm.Cond) (a1 a2 : Addr) (g1 : Int32) (b b2 : Addr) (kb kb2 : ClassId) (z : Int32) (cs : List Int32) (h0 : Heap) (n0 : Nat) (Z0 : n0 ≤ h0.size) (E1 : Exa Z h0 a1 "java/lang/String") (Fc : Fld Z h0 a1 "java/lang/String" "coder" "B" (.int (0 : Int32))) (Fv : Fld Z h0 a1 "java/lang/String" "value" "[B" (.ref b)) (E2 : Exa Z h0 a2 "java/lang/String") (Gc : Fld Z h0 a2 "java/lang/String" "coder" "B" (.int (0 : Int32))) (Gv : Fld Z h0 a2 "java/lang/String" "value" "[B" (.ref b2)) (Vb : Arv Z h0 b kb .byte z (cs.map Value.int) (.int (0 : Int32))) (V2 : Arv Z h0 b2 kb2 .byte z (List.map Value.int cs) (.int (0 : Int32))) (hz : z.toInt = cs.length) (SC : Sta Z h0 "java/lang/String" "COMPACT_STRINGS" "Z" (.int g1)) (hg1 : ¬ (g1 = (0 : Int32))) (n12 : a1 ≠ a2) :
    MetFree l mN_36 (head1 (Jvm.Cond.code mN_36 jdk_42_method_66_code 3 (some .boolean) :: ws) ({ frames := 1, cells := 0, slots := 0, locals := 14 } : Room)) (fun a U => a = #[(.ref a1), (.ref a2)] ∧ Z.Warmed39 U.vm ∧ U.heap = h0) (fun _ _ _ _ _ => True) (fun _ U o U' => ∃ v L, o = .returned v ∧ (Qv 1 h0 n0) v U'.heap L ∧ FrameEnd U o U' L ({ frames := 1, cells := 0, slots := 0, locals := 14 } : Room).cells ({ frames := 1, cells := 0, slots := 0, locals := 14 } : Room).slots) := by
  refine MetFree.of_bodySF (plainFor_of_name pn_0) hisR ?_
  intro p e s m args below meth c s₁ Bd hml0 hP hK
  obtain ⟨rfl, hZ, hh⟩ := hP
  have hx := Bd.exec
  have hby := Bd.bytes
  have hml : c.maxLocals = 3 := hml0
  have hown : s.vm.findClass "java/lang/String" = some m.cls := findClass_of_methodNamed Bd.named
  have hnm := (name_of_methodNamed Bd.named Bd.method).1
  have hlk := Bd.notSynchronized
  have X0 : Stand p l e ({ frames := 1, cells := 0, slots := 0, locals := 14 } : Room) s m #[(.ref a1), (.ref a2)] below meth c s₁ [] 0 0 := Stand.of_body Bd
  have e0 : s₁.heap = h0 := by rw [← hh, Bd.state]; rfl
  have N0 := Fr.nil n0
  show own_Ends p e below s FrameEnd (Qv 1 h0 n0) 0 0 (s₁.setTop (entryFrame m #[(.ref a1), (.ref a2)] 3))
  refine own_of (U' := (s₁.setTop (mkF m 0 #[.val (.ref a1), .val (.ref a2), .unset] []))) (fun _ k => castTop (ef_eq m a1 a2) k) ?_
  refine own_aloadN X0 hx hby d39_0 rfl rfl ?_
  refine own_aloadN X0 hx hby d39_1 rfl rfl ?_
  refine own_of (U' := (s₁.setTop (mkF m 7 #[.val (.ref a1), .val (.ref a2), .unset] []))) (fun _ k => Jvm.RoadKit.acmp (g := (mkF m 2 #[.val (.ref a1), .val (.ref a2), .unset] [(.ref a2), (.ref a1)])) X0 hx rfl rfl rfl (pc0 := 2) (pc' := 7) (same := false) rfl (hb hby d39_2) rfl (decide_eq_false fun q => n12 (Value.ref.inj q)) (by decide) (by decide) k) ?_
  refine own_aloadN X0 hx hby d39_7 rfl rfl ?_
  obtain ⟨T220, X220, e220, st220⟩ := instY X0 hx hZ hown (own_w hw 213 rfl) e0 (Ins.self E2) (g := (mkF m 8 #[.val (.ref a1), .val (.ref a2), .unset] [(.ref a2)])) rfl rfl (hb hby d39_8)
  refine own_of (U' := (T220.setTop (mkF m 11 #[.val (.ref a1), .val (.ref a2), .unset] [(.int (1 : Int32))]))) (st220) ?_
  have hc11_221 : ¬ ((1 : Int32) = (0 : Int32)) := by decide
  refine own_ifNo X220 hx hby d39_11 ((if0 _ _).trans (feq hc11_221).1) ?_
  refine own_aloadN X220 hx hby d39_14 rfl rfl ?_
  obtain ⟨T222, X222, e222, st222⟩ := castY X220 hx hZ hown (own_w hw 213 rfl) e220 (Ins.self E2) (g := (mkF m 15 #[.val (.ref a1), .val (.ref a2), .unset] [(.ref a2)])) rfl rfl (hb hby d39_15)
  refine own_of (U' := (T222.setTop (mkF m 18 #[.val (.ref a1), .val (.ref a2), .unset] [(.ref a2)]))) (st222) ?_
  refine own_astoreN X222 hx hby d39_18 rfl (l' := #[.val (.ref a1), .val (.ref a2), .val (.ref a2)]) rfl ?_
  obtain ⟨T223, X223, e223, st223⟩ := getS2 X222 hx hZ hown (host := "") (Or.inl (own_w hw 18 rfl)) Via.refl e222 SC (g := (mkF m 19 #[.val (.ref a1), .val (.ref a2), .val (.ref a2)] [])) rfl (hb hby d39_19)
  refine own_of (U' := (T223.setTop (mkF m 22 #[.val (.ref a1), .val (.ref a2), .val (.ref a2)] [(.int g1)]))) (st223) ?_
  have hc22_224 : ¬ (g1 = (0 : Int32)) := hg1
  refine own_ifNo X223 hx hby d39_22 ((if0 _ _).trans (feq hc22_224).1) ?_
  refine own_aloadN X223 hx hby d39_25 rfl rfl ?_
  obtain ⟨T225, X225, e225, st225⟩ := getF X223 hx hZ hown (host := "") (Or.inl (own_w hw 30 rfl)) Via.refl e223 Fc (g := (mkF m 26 #[.val (.ref a1), .val (.ref a2), .val (.ref a2)] [(.ref a1)])) rfl rfl (hb hby d39_26)
  refine own_of (U' := (T225.setTop (mkF m 29 #[.val (.ref a1), .val (.ref a2), .val (.ref a2)] [(.int (0 : Int32))]))) (st225) ?_
  refine own_aloadN X225 hx hby d39_29 rfl rfl ?_
  obtain ⟨T226, X226, e226, st226⟩ := getF X225 hx hZ hown (host := "") (Or.inl (own_w hw 30 rfl)) Via.refl e225 Gc (g := (mkF m 30 #[.val (.ref a1), .val (.ref a2), .val (.ref a2)] [(.ref a2), (.int (0 : Int32))])) rfl rfl (hb hby d39_30)
  refine own_of (U' := (T226.setTop (mkF m 33 #[.val (.ref a1), .val (.ref a2), .val (.ref a2)] [(.int (0 : Int32)), (.int (0 : Int32))]))) (st226) ?_
  have hc33_227 : (0 : Int32) = (0 : Int32) := by decide
  refine own_icmpNo X226 hx hby d39_33 (teq hc33_227).2 ?_
  refine own_aloadN X226 hx hby d39_36 rfl rfl ?_
  obtain ⟨T228, X228, e228, st228⟩ := getF X226 hx hZ hown (host := "") (Or.inl (own_w hw 32 rfl)) Via.refl e226 Fv (g := (mkF m 37 #[.val (.ref a1), .val (.ref a2), .val (.ref a2)] [(.ref a1)])) rfl rfl (hb hby d39_37)
  refine own_of (U' := (T228.setTop (mkF m 40 #[.val (.ref a1), .val (.ref a2), .val (.ref a2)] [(.ref b)]))) (st228) ?_
  refine own_aloadN X228 hx hby d39_40 rfl rfl ?_
  obtain ⟨T229, X229, e229, st229⟩ := getF X228 hx hZ hown (host := "") (Or.inl (own_w hw 32 rfl)) Via.refl e228 Gv (g := (mkF m 41 #[.val (.ref a1), .val (.ref a2), .val (.ref a2)] [(.ref a2), (.ref b)])) rfl rfl (hb hby d39_41)
  refine own_of (U' := (T229.setTop (mkF m 44 #[.val (.ref a1), .val (.ref a2), .val (.ref a2)] [(.ref b2), (.ref b)]))) (st229) ?_
  obtain ⟨_, _, ⟨T230, L230, k230, n230⟩, -, X230, ⟨Lc230, hQ230, l230, y230, z230⟩, st230⟩ := Jvm.LawKit.callS X229 hx (y := mN_35) hown (mvT hZ (own_w hw 214 rfl)) (mvT hZ (own_w hw 215 rfl)) (mvT hZ (own_w hw 216 rfl)) (mvT hZ (own_w hw 217 rfl)) (by decide) (backOf (W := 0) (rmle l Z a0 hw [] b b2 kb kb2 z cs h0 n0 Z0 Vb V2 hz) hZ (own_w hw 217 rfl) (own_w hw 216 rfl) (by decide) (by decide)) (g := (mkF m 44 #[.val (.ref a1), .val (.ref a2), .val (.ref a2)] [(.ref b2), (.ref b)])) rfl (by rw [hml]; rfl) (argsL := [(.ref b), (.ref b2)]) (rest := []) (lenOf pd_24 rfl) rfl (by show 2 * 0 + _ ≤ _; exact Nat.le_of_eq rfl) (hb hby d39_44) (fun _ _ => ⟨rfl, e229, (by decide : 0 + 0 ≤ _), (by decide : 0 + 0 ≤ _)⟩)
  dsimp only [Pt.U, Pt.locs, Pt.cells, Pt.slots] at X230 l230 y230 z230 st230 hQ230
  rw [l230, y230, z230] at X230
  obtain ⟨rfl, Nq230, e230⟩ := hQ230
  have N230 := Fr.app N0 Nq230
  refine own_of (U' := (T230.setTop (mkF m 47 #[.val (.ref a1), .val (.ref a2), .val (.ref a2)] [(.int (1 : Int32))]))) (st230) ?_
  have hc47_231 : ¬ ((1 : Int32) = (0 : Int32)) := by decide
  refine own_ifNo X230 hx hby d39_47 ((if0 _ _).trans (feq hc47_231).1) ?_
  refine own_iconst X230 hx hby 1 d39_50 rfl ?_
  refine own_goto X230 hx hby 51 55 d39_51 (by decide) (by decide) ?_
  exact own_retN X230 hx hlk (t := .boolean) Bd.returns (by simp) (hb hby d39_55) (by decide) (by decide) (⟨rfl, N230, e230⟩)
def own_co : List Int32 := [58]
def own_cs : List Int32 := [58, 32]
abbrev mN_37 : MethodName := ⟨"java/lang/Record", "<init>", "()V"⟩
theorem d9_0 : decode jdk_30_method_1_code 0 = .ok (.aload_n 0, 1) := by decide +kernel
theorem d9_1 : decode jdk_30_method_1_code 1 = .ok (.invokespecial 1, 3) := by decide +kernel
theorem d9_4 : decode jdk_30_method_1_code 4 = .ok (.return_, 1) := by decide +kernel
theorem pn_8 : plainName "java/lang/Record" = true := by first | (simp [plainName, overriddenIn]; done) | decide +kernel
theorem ef_rc (m : MethodId) (x0 : Addr) : entryFrame m #[(.ref x0)] 1 = mkF m 0 #[.val (.ref x0)] [] := by first | (simp [entryFrame, mkF, argsToLocals, Value.category]; done) | rfl
set_option maxRecDepth 65536 in
set_option maxHeartbeats 40000000 in
theorem rmrc (l : Launch) (Z : State) (a0 : Array Value) (hw : ∀ d ∈ tables_1, d.before a0 Z = true) (ws : List Jvm.Cond) (a1 : Addr) (h0 : Heap) (n0 : Nat) (Z0 : n0 ≤ h0.size)  :
    MetFree l mN_37 (head1 (Jvm.Cond.code mN_37 jdk_30_method_1_code 1 none :: ws) ({ frames := 1, cells := 0, slots := 0, locals := 12 } : Room)) (fun a U => a = #[(.ref a1)] ∧ Z.Warmed39 U.vm ∧ U.heap = h0) (fun _ _ _ _ _ => True) (fun _ U o U' => ∃ v L, o = .returned v ∧ (Qn h0 n0) v U'.heap L ∧ FrameEnd U o U' L ({ frames := 1, cells := 0, slots := 0, locals := 12 } : Room).cells ({ frames := 1, cells := 0, slots := 0, locals := 12 } : Room).slots) := by
  refine MetFree.of_bodySF (plainFor_of_name pn_8) hisR ?_
  intro p e s m args below meth c s₁ Bd hml0 hP hK
  obtain ⟨rfl, hZ, hh⟩ := hP
  have hx := Bd.exec
  have hby := Bd.bytes
  have hml : c.maxLocals = 1 := hml0
  have hown : s.vm.findClass "java/lang/Record" = some m.cls := findClass_of_methodNamed Bd.named
  have hnm := (name_of_methodNamed Bd.named Bd.method).1
  have hlk := Bd.notSynchronized
  have X0 : Stand p l e ({ frames := 1, cells := 0, slots := 0, locals := 12 } : Room) s m #[(.ref a1)] below meth c s₁ [] 0 0 := Stand.of_body Bd
  have e0 : s₁.heap = h0 := by rw [← hh, Bd.state]; rfl
  have N0 := Fr.nil n0
  show own_Ends p e below s FrameEnd (Qn h0 n0) 0 0 (s₁.setTop (entryFrame m #[(.ref a1)] 1))
  refine own_of (U' := (s₁.setTop (mkF m 0 #[.val (.ref a1)] []))) (fun _ k => castTop (ef_rc m a1) k) ?_
  refine own_aloadN X0 hx hby d9_0 rfl rfl ?_
  obtain ⟨T232, X232, e232, st232⟩ := initO X0 hx hZ hown (own_w hw 48 rfl) (own_w hw 16 rfl) (own_w hw 17 rfl) e0 (g := (mkF m 1 #[.val (.ref a1)] [(.ref a1)])) rfl (by rw [hml]; rfl) rfl (hb hby d9_1) (by decide) (W := 0) (by show 2 * 0 + _ ≤ _; exact Nat.le_of_eq rfl) (by decide)
  refine own_of (U' := (T232.setTop (mkF m 4 #[.val (.ref a1)] []))) (st232) ?_
  exact own_ret0 X232 hx hlk Bd.returns (hb hby d9_4) (by decide) (by decide) (⟨rfl, N0, e232⟩)
abbrev mN_38 : MethodName := ⟨"com/example/handover/handover/ConfigException$Problem", "<init>", "(Ljava/lang/String;ILjava/lang/String;)V"⟩
theorem pd_25 : parseMethodDescriptor "()V" = some ⟨[], none⟩ := by decide +kernel
theorem d8_0 : decode prog_2_method_1_code 0 = .ok (.aload_n 0, 1) := by decide +kernel
theorem d8_1 : decode prog_2_method_1_code 1 = .ok (.invokespecial 1, 3) := by decide +kernel
theorem d8_4 : decode prog_2_method_1_code 4 = .ok (.aload_n 0, 1) := by decide +kernel
theorem d8_5 : decode prog_2_method_1_code 5 = .ok (.aload_n 1, 1) := by decide +kernel
theorem d8_6 : decode prog_2_method_1_code 6 = .ok (.putfield 7, 3) := by decide +kernel
theorem d8_9 : decode prog_2_method_1_code 9 = .ok (.aload_n 0, 1) := by decide +kernel
theorem d8_10 : decode prog_2_method_1_code 10 = .ok (.iload_n 2, 1) := by decide +kernel
theorem d8_11 : decode prog_2_method_1_code 11 = .ok (.putfield 13, 3) := by decide +kernel
theorem d8_14 : decode prog_2_method_1_code 14 = .ok (.aload_n 0, 1) := by decide +kernel
theorem d8_15 : decode prog_2_method_1_code 15 = .ok (.aload_n 3, 1) := by decide +kernel
theorem d8_16 : decode prog_2_method_1_code 16 = .ok (.putfield 17, 3) := by decide +kernel
theorem d8_19 : decode prog_2_method_1_code 19 = .ok (.return_, 1) := by decide +kernel
theorem pn_9 : plainName "com/example/handover/handover/ConfigException$Problem" = true := by first | (simp [plainName, overriddenIn]; done) | decide +kernel
theorem ef_pirr (m : MethodId) (x0 : Addr) (x1 : Addr) (x2 : Int32) (x3 : Addr) : entryFrame m #[(.ref x0), (.ref x1), (.int x2), (.ref x3)] 4 = mkF m 0 #[.val (.ref x0), .val (.ref x1), .val (.int x2), .val (.ref x3)] [] := by first | (simp [entryFrame, mkF, argsToLocals, Value.category]; done) | rfl
def Qpi (Z : State) (a1 : Addr) (w2 w4 : Value) (p3 : Int32) (h0 : Heap) (n0 : Nat) (v : Option Value) (h : Heap) (L : List Loc) : Prop := v = none ∧ Fr n0 L ∧ Keep h0 h [a1] ∧ Fld Z h a1 "com/example/handover/handover/ConfigException$Problem" "file" "Ljava/lang/String;" w2 ∧ Fld Z h a1 "com/example/handover/handover/ConfigException$Problem" "line" "I" (.int p3) ∧ Fld Z h a1 "com/example/handover/handover/ConfigException$Problem" "message" "Ljava/lang/String;" w4
set_option maxRecDepth 65536 in
set_option maxHeartbeats 40000000 in
theorem rmpirr (l : Launch) (Z : State) (a0 : Array Value) (hw : ∀ d ∈ tables_1, d.before a0 Z = true) (ws : List Jvm.Cond) (a1 : Addr) (f2 : Addr) (f4 : Addr) (p3 : Int32) (h0 : Heap) (n0 : Nat) (Z0 : n0 ≤ h0.size) (E1 : Exa Z h0 a1 "com/example/handover/handover/ConfigException$Problem") (G_file : Fld Z h0 a1 "com/example/handover/handover/ConfigException$Problem" "file" "Ljava/lang/String;" .null) (G_line : Fld Z h0 a1 "com/example/handover/handover/ConfigException$Problem" "line" "I" (.int (0 : Int32))) (G_message : Fld Z h0 a1 "com/example/handover/handover/ConfigException$Problem" "message" "Ljava/lang/String;" .null) (g_a1 : n0 ≤ a1) :
    MetFree l mN_38 (head1 (Jvm.Cond.code mN_38 prog_2_method_1_code 4 none :: ws) ({ frames := 2, cells := 0, slots := 0, locals := 24 } : Room)) (fun a U => a = #[(.ref a1), (.ref f2), (.int p3), (.ref f4)] ∧ Z.Warmed39 U.vm ∧ U.heap = h0) (fun _ _ _ _ _ => True) (fun _ U o U' => ∃ v L, o = .returned v ∧ (Qpi Z a1 (.ref f2) (.ref f4) p3 h0 n0) v U'.heap L ∧ FrameEnd U o U' L ({ frames := 2, cells := 0, slots := 0, locals := 24 } : Room).cells ({ frames := 2, cells := 0, slots := 0, locals := 24 } : Room).slots) := by
  refine MetFree.of_bodySF (plainFor_of_name pn_9) hisR ?_
  intro p e s m args below meth c s₁ Bd hml0 hP hK
  obtain ⟨rfl, hZ, hh⟩ := hP
  have hx := Bd.exec
  have hby := Bd.bytes
  have hml : c.maxLocals = 4 := hml0
  have hown : s.vm.findClass "com/example/handover/handover/ConfigException$Problem" = some m.cls := findClass_of_methodNamed Bd.named
  have hnm := (name_of_methodNamed Bd.named Bd.method).1
  have hlk := Bd.notSynchronized
  have X0 : Stand p l e ({ frames := 2, cells := 0, slots := 0, locals := 24 } : Room) s m #[(.ref a1), (.ref f2), (.int p3), (.ref f4)] below meth c s₁ [] 0 0 := Stand.of_body Bd
  have e0 : s₁.heap = h0 := by rw [← hh, Bd.state]; rfl
  have N0 := Fr.nil n0
  have KK := Keep.refl h0 [a1]
  show own_Ends p e below s FrameEnd (Qpi Z a1 (.ref f2) (.ref f4) p3 h0 n0) 0 0 (s₁.setTop (entryFrame m #[(.ref a1), (.ref f2), (.int p3), (.ref f4)] 4))
  refine own_of (U' := (s₁.setTop (mkF m 0 #[.val (.ref a1), .val (.ref f2), .val (.int p3), .val (.ref f4)] []))) (fun _ k => castTop (ef_pirr m a1 f2 p3 f4) k) ?_
  refine own_aloadN X0 hx hby d8_0 rfl rfl ?_
  obtain ⟨_, _, ⟨T233, L233, k233, n233⟩, -, X233, ⟨Lc233, hQ233, l233, y233, z233⟩, st233⟩ := X0.specialBack hx (y := mN_37) rfl hown (mvT hZ (own_w hw 43 rfl)) (mvT hZ (own_w hw 44 rfl)) (mvT hZ (own_w hw 47 rfl)) (by decide) (backOf (W := 0) (rmrc l Z a0 hw [] a1 h0 n0 Z0 ) hZ (own_w hw 47 rfl) (own_w hw 46 rfl) (by decide) (by decide)) (g := (mkF m 1 #[.val (.ref a1), .val (.ref f2), .val (.int p3), .val (.ref f4)] [(.ref a1)])) rfl (by rw [hml]; rfl) (Steps.refl _) (a := a1) (argsL := []) (rest := []) (lenOf pd_25 rfl) rfl (by show 2 * 0 + _ ≤ _; exact Nat.le_of_eq rfl) (hb hby d8_1) (fun _ _ => ⟨rfl, e0, (by decide : 0 + 0 ≤ _), (by decide : 0 + 0 ≤ _)⟩)
  dsimp only [Pt.U, Pt.locs, Pt.cells, Pt.slots] at X233 l233 y233 z233 st233 hQ233
  rw [l233, y233, z233] at X233
  obtain ⟨rfl, Nq233, e233⟩ := hQ233
  have N233 := Fr.app N0 Nq233
  refine own_of (U' := (T233.setTop (mkF m 4 #[.val (.ref a1), .val (.ref f2), .val (.int p3), .val (.ref f4)] []))) (fun _ k => st233.trans k) ?_
  refine own_aloadN X233 hx hby d8_4 rfl rfl ?_
  refine own_aloadN X233 hx hby d8_5 rfl rfl ?_
  obtain ⟨T234, h234, X234, e234, W234, st234⟩ := putF X233 hx hZ hown (host := "") (Or.inl (own_w hw 49 rfl)) Via.refl e233 G_file E1 (Or.inr ⟨(own_w hw 50 rfl), rfl, hnm⟩) (own_w hw 38 rfl) (ty := (.object "java/lang/String")) (by decide) rfl rfl (g := (mkF m 6 #[.val (.ref a1), .val (.ref f2), .val (.int p3), .val (.ref f4)] [(.ref f2), (.ref a1)])) rfl rfl (hb hby d8_6)
  replace Z0 := Nat.le_trans Z0 (Keep.of_wr W234).1
  replace E1 := E1.wr W234
  replace G_file := G_file.same W234
  replace G_line := G_line.other W234 (Or.inr (slot_ne (Or.inr (own_w hw 52 rfl)) (Or.inr (own_w hw 50 rfl)) (by decide) (t := .int) (t' := (.object "java/lang/String")) (by decide) (by decide)))
  replace G_message := G_message.other W234 (Or.inr (slot_ne (Or.inr (own_w hw 54 rfl)) (Or.inr (own_w hw 50 rfl)) (by decide) (t := (.object "java/lang/String")) (t' := (.object "java/lang/String")) (by decide) (by decide)))
  replace KK := KK.wr W234 (Or.inl (List.mem_of_getElem? (i := 0) rfl))
  have N234 := Fr.snoc X234 N233 g_a1
  refine own_of (U' := (T234.setTop (mkF m 9 #[.val (.ref a1), .val (.ref f2), .val (.int p3), .val (.ref f4)] []))) (st234) ?_
  refine own_aloadN X234 hx hby d8_9 rfl rfl ?_
  refine own_iloadN X234 hx hby d8_10 rfl ?_
  obtain ⟨T235, h235, X235, e235, W235, st235⟩ := putF X234 hx hZ hown (host := "") (Or.inl (own_w hw 51 rfl)) Via.refl e234 G_line E1 (Or.inr ⟨(own_w hw 52 rfl), rfl, hnm⟩) (own_w hw 38 rfl) (ty := .int) (by decide) rfl rfl (g := (mkF m 11 #[.val (.ref a1), .val (.ref f2), .val (.int p3), .val (.ref f4)] [(.int p3), (.ref a1)])) rfl rfl (hb hby d8_11)
  replace Z0 := Nat.le_trans Z0 (Keep.of_wr W235).1
  replace E1 := E1.wr W235
  replace G_file := G_file.other W235 (Or.inr (slot_ne (Or.inr (own_w hw 50 rfl)) (Or.inr (own_w hw 52 rfl)) (by decide) (t := (.object "java/lang/String")) (t' := .int) (by decide) (by decide)))
  replace G_line := G_line.same W235
  replace G_message := G_message.other W235 (Or.inr (slot_ne (Or.inr (own_w hw 54 rfl)) (Or.inr (own_w hw 52 rfl)) (by decide) (t := (.object "java/lang/String")) (t' := .int) (by decide) (by decide)))
  replace KK := KK.wr W235 (Or.inl (List.mem_of_getElem? (i := 0) rfl))
  have N235 := Fr.snoc X235 N234 g_a1
  refine own_of (U' := (T235.setTop (mkF m 14 #[.val (.ref a1), .val (.ref f2), .val (.int p3), .val (.ref f4)] []))) (st235) ?_
  refine own_aloadN X235 hx hby d8_14 rfl rfl ?_
  refine own_aloadN X235 hx hby d8_15 rfl rfl ?_
  obtain ⟨T236, h236, X236, e236, W236, st236⟩ := putF X235 hx hZ hown (host := "") (Or.inl (own_w hw 53 rfl)) Via.refl e235 G_message E1 (Or.inr ⟨(own_w hw 54 rfl), rfl, hnm⟩) (own_w hw 38 rfl) (ty := (.object "java/lang/String")) (by decide) rfl rfl (g := (mkF m 16 #[.val (.ref a1), .val (.ref f2), .val (.int p3), .val (.ref f4)] [(.ref f4), (.ref a1)])) rfl rfl (hb hby d8_16)
  replace Z0 := Nat.le_trans Z0 (Keep.of_wr W236).1
  replace E1 := E1.wr W236
  replace G_file := G_file.other W236 (Or.inr (slot_ne (Or.inr (own_w hw 50 rfl)) (Or.inr (own_w hw 54 rfl)) (by decide) (t := (.object "java/lang/String")) (t' := (.object "java/lang/String")) (by decide) (by decide)))
  replace G_line := G_line.other W236 (Or.inr (slot_ne (Or.inr (own_w hw 52 rfl)) (Or.inr (own_w hw 54 rfl)) (by decide) (t := .int) (t' := (.object "java/lang/String")) (by decide) (by decide)))
  replace G_message := G_message.same W236
  replace KK := KK.wr W236 (Or.inl (List.mem_of_getElem? (i := 0) rfl))
  have N236 := Fr.snoc X236 N235 g_a1
  refine own_of (U' := (T236.setTop (mkF m 19 #[.val (.ref a1), .val (.ref f2), .val (.int p3), .val (.ref f4)] []))) (st236) ?_
  exact own_ret0 X236 hx hlk Bd.returns (hb hby d8_19) (by decide) (by decide) (by rw [e236]; exact ⟨rfl, N236, KK, G_file, G_line, G_message⟩)
theorem ef_pirn (m : MethodId) (x0 : Addr) (x1 : Addr) (x2 : Int32) : entryFrame m #[(.ref x0), (.ref x1), (.int x2), .null] 4 = mkF m 0 #[.val (.ref x0), .val (.ref x1), .val (.int x2), .val .null] [] := by first | (simp [entryFrame, mkF, argsToLocals, Value.category]; done) | rfl
set_option maxRecDepth 65536 in
set_option maxHeartbeats 40000000 in
theorem rmpirn (l : Launch) (Z : State) (a0 : Array Value) (hw : ∀ d ∈ tables_1, d.before a0 Z = true) (ws : List Jvm.Cond) (a1 : Addr) (f2 : Addr) (p3 : Int32) (h0 : Heap) (n0 : Nat) (Z0 : n0 ≤ h0.size) (E1 : Exa Z h0 a1 "com/example/handover/handover/ConfigException$Problem") (G_file : Fld Z h0 a1 "com/example/handover/handover/ConfigException$Problem" "file" "Ljava/lang/String;" .null) (G_line : Fld Z h0 a1 "com/example/handover/handover/ConfigException$Problem" "line" "I" (.int (0 : Int32))) (G_message : Fld Z h0 a1 "com/example/handover/handover/ConfigException$Problem" "message" "Ljava/lang/String;" .null) (g_a1 : n0 ≤ a1) :
    MetFree l mN_38 (head1 (Jvm.Cond.code mN_38 prog_2_method_1_code 4 none :: ws) ({ frames := 2, cells := 0, slots := 0, locals := 24 } : Room)) (fun a U => a = #[(.ref a1), (.ref f2), (.int p3), .null] ∧ Z.Warmed39 U.vm ∧ U.heap = h0) (fun _ _ _ _ _ => True) (fun _ U o U' => ∃ v L, o = .returned v ∧ (Qpi Z a1 (.ref f2) .null p3 h0 n0) v U'.heap L ∧ FrameEnd U o U' L ({ frames := 2, cells := 0, slots := 0, locals := 24 } : Room).cells ({ frames := 2, cells := 0, slots := 0, locals := 24 } : Room).slots) := by
  refine MetFree.of_bodySF (plainFor_of_name pn_9) hisR ?_
  intro p e s m args below meth c s₁ Bd hml0 hP hK
  obtain ⟨rfl, hZ, hh⟩ := hP
  have hx := Bd.exec
  have hby := Bd.bytes
  have hml : c.maxLocals = 4 := hml0
  have hown : s.vm.findClass "com/example/handover/handover/ConfigException$Problem" = some m.cls := findClass_of_methodNamed Bd.named
  have hnm := (name_of_methodNamed Bd.named Bd.method).1
  have hlk := Bd.notSynchronized
  have X0 : Stand p l e ({ frames := 2, cells := 0, slots := 0, locals := 24 } : Room) s m #[(.ref a1), (.ref f2), (.int p3), .null] below meth c s₁ [] 0 0 := Stand.of_body Bd
  have e0 : s₁.heap = h0 := by rw [← hh, Bd.state]; rfl
  have N0 := Fr.nil n0
  have KK := Keep.refl h0 [a1]
  show own_Ends p e below s FrameEnd (Qpi Z a1 (.ref f2) .null p3 h0 n0) 0 0 (s₁.setTop (entryFrame m #[(.ref a1), (.ref f2), (.int p3), .null] 4))
  refine own_of (U' := (s₁.setTop (mkF m 0 #[.val (.ref a1), .val (.ref f2), .val (.int p3), .val .null] []))) (fun _ k => castTop (ef_pirn m a1 f2 p3) k) ?_
  refine own_aloadN X0 hx hby d8_0 rfl rfl ?_
  obtain ⟨_, _, ⟨T237, L237, k237, n237⟩, -, X237, ⟨Lc237, hQ237, l237, y237, z237⟩, st237⟩ := X0.specialBack hx (y := mN_37) rfl hown (mvT hZ (own_w hw 43 rfl)) (mvT hZ (own_w hw 44 rfl)) (mvT hZ (own_w hw 47 rfl)) (by decide) (backOf (W := 0) (rmrc l Z a0 hw [] a1 h0 n0 Z0 ) hZ (own_w hw 47 rfl) (own_w hw 46 rfl) (by decide) (by decide)) (g := (mkF m 1 #[.val (.ref a1), .val (.ref f2), .val (.int p3), .val .null] [(.ref a1)])) rfl (by rw [hml]; rfl) (Steps.refl _) (a := a1) (argsL := []) (rest := []) (lenOf pd_25 rfl) rfl (by show 2 * 0 + _ ≤ _; exact Nat.le_of_eq rfl) (hb hby d8_1) (fun _ _ => ⟨rfl, e0, (by decide : 0 + 0 ≤ _), (by decide : 0 + 0 ≤ _)⟩)
  dsimp only [Pt.U, Pt.locs, Pt.cells, Pt.slots] at X237 l237 y237 z237 st237 hQ237
  rw [l237, y237, z237] at X237
  obtain ⟨rfl, Nq237, e237⟩ := hQ237
  have N237 := Fr.app N0 Nq237
  refine own_of (U' := (T237.setTop (mkF m 4 #[.val (.ref a1), .val (.ref f2), .val (.int p3), .val .null] []))) (fun _ k => st237.trans k) ?_
  refine own_aloadN X237 hx hby d8_4 rfl rfl ?_
  refine own_aloadN X237 hx hby d8_5 rfl rfl ?_
  obtain ⟨T238, h238, X238, e238, W238, st238⟩ := putF X237 hx hZ hown (host := "") (Or.inl (own_w hw 49 rfl)) Via.refl e237 G_file E1 (Or.inr ⟨(own_w hw 50 rfl), rfl, hnm⟩) (own_w hw 38 rfl) (ty := (.object "java/lang/String")) (by decide) rfl rfl (g := (mkF m 6 #[.val (.ref a1), .val (.ref f2), .val (.int p3), .val .null] [(.ref f2), (.ref a1)])) rfl rfl (hb hby d8_6)
  replace Z0 := Nat.le_trans Z0 (Keep.of_wr W238).1
  replace E1 := E1.wr W238
  replace G_file := G_file.same W238
  replace G_line := G_line.other W238 (Or.inr (slot_ne (Or.inr (own_w hw 52 rfl)) (Or.inr (own_w hw 50 rfl)) (by decide) (t := .int) (t' := (.object "java/lang/String")) (by decide) (by decide)))
  replace G_message := G_message.other W238 (Or.inr (slot_ne (Or.inr (own_w hw 54 rfl)) (Or.inr (own_w hw 50 rfl)) (by decide) (t := (.object "java/lang/String")) (t' := (.object "java/lang/String")) (by decide) (by decide)))
  replace KK := KK.wr W238 (Or.inl (List.mem_of_getElem? (i := 0) rfl))
  have N238 := Fr.snoc X238 N237 g_a1
  refine own_of (U' := (T238.setTop (mkF m 9 #[.val (.ref a1), .val (.ref f2), .val (.int p3), .val .null] []))) (st238) ?_
  refine own_aloadN X238 hx hby d8_9 rfl rfl ?_
  refine own_iloadN X238 hx hby d8_10 rfl ?_
  obtain ⟨T239, h239, X239, e239, W239, st239⟩ := putF X238 hx hZ hown (host := "") (Or.inl (own_w hw 51 rfl)) Via.refl e238 G_line E1 (Or.inr ⟨(own_w hw 52 rfl), rfl, hnm⟩) (own_w hw 38 rfl) (ty := .int) (by decide) rfl rfl (g := (mkF m 11 #[.val (.ref a1), .val (.ref f2), .val (.int p3), .val .null] [(.int p3), (.ref a1)])) rfl rfl (hb hby d8_11)
  replace Z0 := Nat.le_trans Z0 (Keep.of_wr W239).1
  replace E1 := E1.wr W239
  replace G_file := G_file.other W239 (Or.inr (slot_ne (Or.inr (own_w hw 50 rfl)) (Or.inr (own_w hw 52 rfl)) (by decide) (t := (.object "java/lang/String")) (t' := .int) (by decide) (by decide)))
  replace G_line := G_line.same W239
  replace G_message := G_message.other W239 (Or.inr (slot_ne (Or.inr (own_w hw 54 rfl)) (Or.inr (own_w hw 52 rfl)) (by decide) (t := (.object "java/lang/String")) (t' := .int) (by decide) (by decide)))
  replace KK := KK.wr W239 (Or.inl (List.mem_of_getElem? (i := 0) rfl))
  have N239 := Fr.snoc X239 N238 g_a1
  refine own_of (U' := (T239.setTop (mkF m 14 #[.val (.ref a1), .val (.ref f2), .val (.int p3), .val .null] []))) (st239) ?_
  refine own_aloadN X239 hx hby d8_14 rfl rfl ?_
  refine own_aloadN X239 hx hby d8_15 rfl rfl ?_
  obtain ⟨T240, h240, X240, e240, W240, st240⟩ := putF X239 hx hZ hown (host := "") (Or.inl (own_w hw 53 rfl)) Via.refl e239 G_message E1 (Or.inr ⟨(own_w hw 54 rfl), rfl, hnm⟩) (own_w hw 38 rfl) (ty := (.object "java/lang/String")) (by decide) rfl rfl (g := (mkF m 16 #[.val (.ref a1), .val (.ref f2), .val (.int p3), .val .null] [.null, (.ref a1)])) rfl rfl (hb hby d8_16)
  replace Z0 := Nat.le_trans Z0 (Keep.of_wr W240).1
  replace E1 := E1.wr W240
  replace G_file := G_file.other W240 (Or.inr (slot_ne (Or.inr (own_w hw 50 rfl)) (Or.inr (own_w hw 54 rfl)) (by decide) (t := (.object "java/lang/String")) (t' := (.object "java/lang/String")) (by decide) (by decide)))
  replace G_line := G_line.other W240 (Or.inr (slot_ne (Or.inr (own_w hw 52 rfl)) (Or.inr (own_w hw 54 rfl)) (by decide) (t := .int) (t' := (.object "java/lang/String")) (by decide) (by decide)))
  replace G_message := G_message.same W240
  replace KK := KK.wr W240 (Or.inl (List.mem_of_getElem? (i := 0) rfl))
  have N240 := Fr.snoc X240 N239 g_a1
  refine own_of (U' := (T240.setTop (mkF m 19 #[.val (.ref a1), .val (.ref f2), .val (.int p3), .val .null] []))) (st240) ?_
  exact own_ret0 X240 hx hlk Bd.returns (hb hby d8_19) (by decide) (by decide) (by rw [e240]; exact ⟨rfl, N240, KK, G_file, G_line, G_message⟩)
theorem ef_pinr (m : MethodId) (x0 : Addr) (x2 : Int32) (x3 : Addr) : entryFrame m #[(.ref x0), .null, (.int x2), (.ref x3)] 4 = mkF m 0 #[.val (.ref x0), .val .null, .val (.int x2), .val (.ref x3)] [] := by first | (simp [entryFrame, mkF, argsToLocals, Value.category]; done) | rfl
set_option maxRecDepth 65536 in
set_option maxHeartbeats 40000000 in
theorem rmpinr (l : Launch) (Z : State) (a0 : Array Value) (hw : ∀ d ∈ tables_1, d.before a0 Z = true) (ws : List Jvm.Cond) (a1 : Addr) (f4 : Addr) (p3 : Int32) (h0 : Heap) (n0 : Nat) (Z0 : n0 ≤ h0.size) (E1 : Exa Z h0 a1 "com/example/handover/handover/ConfigException$Problem") (G_file : Fld Z h0 a1 "com/example/handover/handover/ConfigException$Problem" "file" "Ljava/lang/String;" .null) (G_line : Fld Z h0 a1 "com/example/handover/handover/ConfigException$Problem" "line" "I" (.int (0 : Int32))) (G_message : Fld Z h0 a1 "com/example/handover/handover/ConfigException$Problem" "message" "Ljava/lang/String;" .null) (g_a1 : n0 ≤ a1) :
    MetFree l mN_38 (head1 (Jvm.Cond.code mN_38 prog_2_method_1_code 4 none :: ws) ({ frames := 2, cells := 0, slots := 0, locals := 24 } : Room)) (fun a U => a = #[(.ref a1), .null, (.int p3), (.ref f4)] ∧ Z.Warmed39 U.vm ∧ U.heap = h0) (fun _ _ _ _ _ => True) (fun _ U o U' => ∃ v L, o = .returned v ∧ (Qpi Z a1 .null (.ref f4) p3 h0 n0) v U'.heap L ∧ FrameEnd U o U' L ({ frames := 2, cells := 0, slots := 0, locals := 24 } : Room).cells ({ frames := 2, cells := 0, slots := 0, locals := 24 } : Room).slots) := by
  refine MetFree.of_bodySF (plainFor_of_name pn_9) hisR ?_
  intro p e s m args below meth c s₁ Bd hml0 hP hK
  obtain ⟨rfl, hZ, hh⟩ := hP
  have hx := Bd.exec
  have hby := Bd.bytes
  have hml : c.maxLocals = 4 := hml0
  have hown : s.vm.findClass "com/example/handover/handover/ConfigException$Problem" = some m.cls := findClass_of_methodNamed Bd.named
  have hnm := (name_of_methodNamed Bd.named Bd.method).1
  have hlk := Bd.notSynchronized
  have X0 : Stand p l e ({ frames := 2, cells := 0, slots := 0, locals := 24 } : Room) s m #[(.ref a1), .null, (.int p3), (.ref f4)] below meth c s₁ [] 0 0 := Stand.of_body Bd
  have e0 : s₁.heap = h0 := by rw [← hh, Bd.state]; rfl
  have N0 := Fr.nil n0
  have KK := Keep.refl h0 [a1]
  show own_Ends p e below s FrameEnd (Qpi Z a1 .null (.ref f4) p3 h0 n0) 0 0 (s₁.setTop (entryFrame m #[(.ref a1), .null, (.int p3), (.ref f4)] 4))
  refine own_of (U' := (s₁.setTop (mkF m 0 #[.val (.ref a1), .val .null, .val (.int p3), .val (.ref f4)] []))) (fun _ k => castTop (ef_pinr m a1 p3 f4) k) ?_
  refine own_aloadN X0 hx hby d8_0 rfl rfl ?_
  obtain ⟨_, _, ⟨T241, L241, k241, n241⟩, -, X241, ⟨Lc241, hQ241, l241, y241, z241⟩, st241⟩ := X0.specialBack hx (y := mN_37) rfl hown (mvT hZ (own_w hw 43 rfl)) (mvT hZ (own_w hw 44 rfl)) (mvT hZ (own_w hw 47 rfl)) (by decide) (backOf (W := 0) (rmrc l Z a0 hw [] a1 h0 n0 Z0 ) hZ (own_w hw 47 rfl) (own_w hw 46 rfl) (by decide) (by decide)) (g := (mkF m 1 #[.val (.ref a1), .val .null, .val (.int p3), .val (.ref f4)] [(.ref a1)])) rfl (by rw [hml]; rfl) (Steps.refl _) (a := a1) (argsL := []) (rest := []) (lenOf pd_25 rfl) rfl (by show 2 * 0 + _ ≤ _; exact Nat.le_of_eq rfl) (hb hby d8_1) (fun _ _ => ⟨rfl, e0, (by decide : 0 + 0 ≤ _), (by decide : 0 + 0 ≤ _)⟩)
  dsimp only [Pt.U, Pt.locs, Pt.cells, Pt.slots] at X241 l241 y241 z241 st241 hQ241
  rw [l241, y241, z241] at X241
  obtain ⟨rfl, Nq241, e241⟩ := hQ241
  have N241 := Fr.app N0 Nq241
  refine own_of (U' := (T241.setTop (mkF m 4 #[.val (.ref a1), .val .null, .val (.int p3), .val (.ref f4)] []))) (fun _ k => st241.trans k) ?_
  refine own_aloadN X241 hx hby d8_4 rfl rfl ?_
  refine own_aloadN X241 hx hby d8_5 rfl rfl ?_
  obtain ⟨T242, h242, X242, e242, W242, st242⟩ := putF X241 hx hZ hown (host := "") (Or.inl (own_w hw 49 rfl)) Via.refl e241 G_file E1 (Or.inr ⟨(own_w hw 50 rfl), rfl, hnm⟩) (own_w hw 38 rfl) (ty := (.object "java/lang/String")) (by decide) rfl rfl (g := (mkF m 6 #[.val (.ref a1), .val .null, .val (.int p3), .val (.ref f4)] [.null, (.ref a1)])) rfl rfl (hb hby d8_6)
  replace Z0 := Nat.le_trans Z0 (Keep.of_wr W242).1
  replace E1 := E1.wr W242
  replace G_file := G_file.same W242
  replace G_line := G_line.other W242 (Or.inr (slot_ne (Or.inr (own_w hw 52 rfl)) (Or.inr (own_w hw 50 rfl)) (by decide) (t := .int) (t' := (.object "java/lang/String")) (by decide) (by decide)))
  replace G_message := G_message.other W242 (Or.inr (slot_ne (Or.inr (own_w hw 54 rfl)) (Or.inr (own_w hw 50 rfl)) (by decide) (t := (.object "java/lang/String")) (t' := (.object "java/lang/String")) (by decide) (by decide)))
  replace KK := KK.wr W242 (Or.inl (List.mem_of_getElem? (i := 0) rfl))
  have N242 := Fr.snoc X242 N241 g_a1
  refine own_of (U' := (T242.setTop (mkF m 9 #[.val (.ref a1), .val .null, .val (.int p3), .val (.ref f4)] []))) (st242) ?_
  refine own_aloadN X242 hx hby d8_9 rfl rfl ?_
  refine own_iloadN X242 hx hby d8_10 rfl ?_
  obtain ⟨T243, h243, X243, e243, W243, st243⟩ := putF X242 hx hZ hown (host := "") (Or.inl (own_w hw 51 rfl)) Via.refl e242 G_line E1 (Or.inr ⟨(own_w hw 52 rfl), rfl, hnm⟩) (own_w hw 38 rfl) (ty := .int) (by decide) rfl rfl (g := (mkF m 11 #[.val (.ref a1), .val .null, .val (.int p3), .val (.ref f4)] [(.int p3), (.ref a1)])) rfl rfl (hb hby d8_11)
  replace Z0 := Nat.le_trans Z0 (Keep.of_wr W243).1
  replace E1 := E1.wr W243
  replace G_file := G_file.other W243 (Or.inr (slot_ne (Or.inr (own_w hw 50 rfl)) (Or.inr (own_w hw 52 rfl)) (by decide) (t := (.object "java/lang/String")) (t' := .int) (by decide) (by decide)))
  replace G_line := G_line.same W243
  replace G_message := G_message.other W243 (Or.inr (slot_ne (Or.inr (own_w hw 54 rfl)) (Or.inr (own_w hw 52 rfl)) (by decide) (t := (.object "java/lang/String")) (t' := .int) (by decide) (by decide)))
  replace KK := KK.wr W243 (Or.inl (List.mem_of_getElem? (i := 0) rfl))
  have N243 := Fr.snoc X243 N242 g_a1
  refine own_of (U' := (T243.setTop (mkF m 14 #[.val (.ref a1), .val .null, .val (.int p3), .val (.ref f4)] []))) (st243) ?_
  refine own_aloadN X243 hx hby d8_14 rfl rfl ?_
  refine own_aloadN X243 hx hby d8_15 rfl rfl ?_
  obtain ⟨T244, h244, X244, e244, W244, st244⟩ := putF X243 hx hZ hown (host := "") (Or.inl (own_w hw 53 rfl)) Via.refl e243 G_message E1 (Or.inr ⟨(own_w hw 54 rfl), rfl, hnm⟩) (own_w hw 38 rfl) (ty := (.object "java/lang/String")) (by decide) rfl rfl (g := (mkF m 16 #[.val (.ref a1), .val .null, .val (.int p3), .val (.ref f4)] [(.ref f4), (.ref a1)])) rfl rfl (hb hby d8_16)
  replace Z0 := Nat.le_trans Z0 (Keep.of_wr W244).1
  replace E1 := E1.wr W244
  replace G_file := G_file.other W244 (Or.inr (slot_ne (Or.inr (own_w hw 50 rfl)) (Or.inr (own_w hw 54 rfl)) (by decide) (t := (.object "java/lang/String")) (t' := (.object "java/lang/String")) (by decide) (by decide)))
  replace G_line := G_line.other W244 (Or.inr (slot_ne (Or.inr (own_w hw 52 rfl)) (Or.inr (own_w hw 54 rfl)) (by decide) (t := .int) (t' := (.object "java/lang/String")) (by decide) (by decide)))
  replace G_message := G_message.same W244
  replace KK := KK.wr W244 (Or.inl (List.mem_of_getElem? (i := 0) rfl))
  have N244 := Fr.snoc X244 N243 g_a1
  refine own_of (U' := (T244.setTop (mkF m 19 #[.val (.ref a1), .val .null, .val (.int p3), .val (.ref f4)] []))) (st244) ?_
  exact own_ret0 X244 hx hlk Bd.returns (hb hby d8_19) (by decide) (by decide) (by rw [e244]; exact ⟨rfl, N244, KK, G_file, G_line, G_message⟩)
theorem ef_pinn (m : MethodId) (x0 : Addr) (x2 : Int32) : entryFrame m #[(.ref x0), .null, (.int x2), .null] 4 = mkF m 0 #[.val (.ref x0), .val .null, .val (.int x2), .val .null] [] := by first | (simp [entryFrame, mkF, argsToLocals, Value.category]; done) | rfl
set_option maxRecDepth 65536 in
set_option maxHeartbeats 40000000 in
theorem rmpinn (l : Launch) (Z : State) (a0 : Array Value) (hw : ∀ d ∈ tables_1, d.before a0 Z = true) (ws : List Jvm.Cond) (a1 : Addr) (p3 : Int32) (h0 : Heap) (n0 : Nat) (Z0 : n0 ≤ h0.size) (E1 : Exa Z h0 a1 "com/example/handover/handover/ConfigException$Problem") (G_file : Fld Z h0 a1 "com/example/handover/handover/ConfigException$Problem" "file" "Ljava/lang/String;" .null) (G_line : Fld Z h0 a1 "com/example/handover/handover/ConfigException$Problem" "line" "I" (.int (0 : Int32))) (G_message : Fld Z h0 a1 "com/example/handover/handover/ConfigException$Problem" "message" "Ljava/lang/String;" .null) (g_a1 : n0 ≤ a1) :
    MetFree l mN_38 (head1 (Jvm.Cond.code mN_38 prog_2_method_1_code 4 none :: ws) ({ frames := 2, cells := 0, slots := 0, locals := 24 } : Room)) (fun a U => a = #[(.ref a1), .null, (.int p3), .null] ∧ Z.Warmed39 U.vm ∧ U.heap = h0) (fun _ _ _ _ _ => True) (fun _ U o U' => ∃ v L, o = .returned v ∧ (Qpi Z a1 .null .null p3 h0 n0) v U'.heap L ∧ FrameEnd U o U' L ({ frames := 2, cells := 0, slots := 0, locals := 24 } : Room).cells ({ frames := 2, cells := 0, slots := 0, locals := 24 } : Room).slots) := by
  refine MetFree.of_bodySF (plainFor_of_name pn_9) hisR ?_
  intro p e s m args below meth c s₁ Bd hml0 hP hK
  obtain ⟨rfl, hZ, hh⟩ := hP
  have hx := Bd.exec
  have hby := Bd.bytes
  have hml : c.maxLocals = 4 := hml0
  have hown : s.vm.findClass "com/example/handover/handover/ConfigException$Problem" = some m.cls := findClass_of_methodNamed Bd.named
  have hnm := (name_of_methodNamed Bd.named Bd.method).1
  have hlk := Bd.notSynchronized
  have X0 : Stand p l e ({ frames := 2, cells := 0, slots := 0, locals := 24 } : Room) s m #[(.ref a1), .null, (.int p3), .null] below meth c s₁ [] 0 0 := Stand.of_body Bd
  have e0 : s₁.heap = h0 := by rw [← hh, Bd.state]; rfl
  have N0 := Fr.nil n0
  have KK := Keep.refl h0 [a1]
  show own_Ends p e below s FrameEnd (Qpi Z a1 .null .null p3 h0 n0) 0 0 (s₁.setTop (entryFrame m #[(.ref a1), .null, (.int p3), .null] 4))
  refine own_of (U' := (s₁.setTop (mkF m 0 #[.val (.ref a1), .val .null, .val (.int p3), .val .null] []))) (fun _ k => castTop (ef_pinn m a1 p3) k) ?_
  refine own_aloadN X0 hx hby d8_0 rfl rfl ?_
  obtain ⟨_, _, ⟨T245, L245, k245, n245⟩, -, X245, ⟨Lc245, hQ245, l245, y245, z245⟩, st245⟩ := X0.specialBack hx (y := mN_37) rfl hown (mvT hZ (own_w hw 43 rfl)) (mvT hZ (own_w hw 44 rfl)) (mvT hZ (own_w hw 47 rfl)) (by decide) (backOf (W := 0) (rmrc l Z a0 hw [] a1 h0 n0 Z0 ) hZ (own_w hw 47 rfl) (own_w hw 46 rfl) (by decide) (by decide)) (g := (mkF m 1 #[.val (.ref a1), .val .null, .val (.int p3), .val .null] [(.ref a1)])) rfl (by rw [hml]; rfl) (Steps.refl _) (a := a1) (argsL := []) (rest := []) (lenOf pd_25 rfl) rfl (by show 2 * 0 + _ ≤ _; exact Nat.le_of_eq rfl) (hb hby d8_1) (fun _ _ => ⟨rfl, e0, (by decide : 0 + 0 ≤ _), (by decide : 0 + 0 ≤ _)⟩)
  dsimp only [Pt.U, Pt.locs, Pt.cells, Pt.slots] at X245 l245 y245 z245 st245 hQ245
  rw [l245, y245, z245] at X245
  obtain ⟨rfl, Nq245, e245⟩ := hQ245
  have N245 := Fr.app N0 Nq245
  refine own_of (U' := (T245.setTop (mkF m 4 #[.val (.ref a1), .val .null, .val (.int p3), .val .null] []))) (fun _ k => st245.trans k) ?_
  refine own_aloadN X245 hx hby d8_4 rfl rfl ?_
  refine own_aloadN X245 hx hby d8_5 rfl rfl ?_
  obtain ⟨T246, h246, X246, e246, W246, st246⟩ := putF X245 hx hZ hown (host := "") (Or.inl (own_w hw 49 rfl)) Via.refl e245 G_file E1 (Or.inr ⟨(own_w hw 50 rfl), rfl, hnm⟩) (own_w hw 38 rfl) (ty := (.object "java/lang/String")) (by decide) rfl rfl (g := (mkF m 6 #[.val (.ref a1), .val .null, .val (.int p3), .val .null] [.null, (.ref a1)])) rfl rfl (hb hby d8_6)
  replace Z0 := Nat.le_trans Z0 (Keep.of_wr W246).1
  replace E1 := E1.wr W246
  replace G_file := G_file.same W246
  replace G_line := G_line.other W246 (Or.inr (slot_ne (Or.inr (own_w hw 52 rfl)) (Or.inr (own_w hw 50 rfl)) (by decide) (t := .int) (t' := (.object "java/lang/String")) (by decide) (by decide)))
  replace G_message := G_message.other W246 (Or.inr (slot_ne (Or.inr (own_w hw 54 rfl)) (Or.inr (own_w hw 50 rfl)) (by decide) (t := (.object "java/lang/String")) (t' := (.object "java/lang/String")) (by decide) (by decide)))
  replace KK := KK.wr W246 (Or.inl (List.mem_of_getElem? (i := 0) rfl))
  have N246 := Fr.snoc X246 N245 g_a1
  refine own_of (U' := (T246.setTop (mkF m 9 #[.val (.ref a1), .val .null, .val (.int p3), .val .null] []))) (st246) ?_
  refine own_aloadN X246 hx hby d8_9 rfl rfl ?_
  refine own_iloadN X246 hx hby d8_10 rfl ?_
  obtain ⟨T247, h247, X247, e247, W247, st247⟩ := putF X246 hx hZ hown (host := "") (Or.inl (own_w hw 51 rfl)) Via.refl e246 G_line E1 (Or.inr ⟨(own_w hw 52 rfl), rfl, hnm⟩) (own_w hw 38 rfl) (ty := .int) (by decide) rfl rfl (g := (mkF m 11 #[.val (.ref a1), .val .null, .val (.int p3), .val .null] [(.int p3), (.ref a1)])) rfl rfl (hb hby d8_11)
  replace Z0 := Nat.le_trans Z0 (Keep.of_wr W247).1
  replace E1 := E1.wr W247
  replace G_file := G_file.other W247 (Or.inr (slot_ne (Or.inr (own_w hw 50 rfl)) (Or.inr (own_w hw 52 rfl)) (by decide) (t := (.object "java/lang/String")) (t' := .int) (by decide) (by decide)))
  replace G_line := G_line.same W247
  replace G_message := G_message.other W247 (Or.inr (slot_ne (Or.inr (own_w hw 54 rfl)) (Or.inr (own_w hw 52 rfl)) (by decide) (t := (.object "java/lang/String")) (t' := .int) (by decide) (by decide)))
  replace KK := KK.wr W247 (Or.inl (List.mem_of_getElem? (i := 0) rfl))
  have N247 := Fr.snoc X247 N246 g_a1
  refine own_of (U' := (T247.setTop (mkF m 14 #[.val (.ref a1), .val .null, .val (.int p3), .val .null] []))) (st247) ?_
  refine own_aloadN X247 hx hby d8_14 rfl rfl ?_
  refine own_aloadN X247 hx hby d8_15 rfl rfl ?_
  obtain ⟨T248, h248, X248, e248, W248, st248⟩ := putF X247 hx hZ hown (host := "") (Or.inl (own_w hw 53 rfl)) Via.refl e247 G_message E1 (Or.inr ⟨(own_w hw 54 rfl), rfl, hnm⟩) (own_w hw 38 rfl) (ty := (.object "java/lang/String")) (by decide) rfl rfl (g := (mkF m 16 #[.val (.ref a1), .val .null, .val (.int p3), .val .null] [.null, (.ref a1)])) rfl rfl (hb hby d8_16)
  replace Z0 := Nat.le_trans Z0 (Keep.of_wr W248).1
  replace E1 := E1.wr W248
  replace G_file := G_file.other W248 (Or.inr (slot_ne (Or.inr (own_w hw 50 rfl)) (Or.inr (own_w hw 54 rfl)) (by decide) (t := (.object "java/lang/String")) (t' := (.object "java/lang/String")) (by decide) (by decide)))
  replace G_line := G_line.other W248 (Or.inr (slot_ne (Or.inr (own_w hw 52 rfl)) (Or.inr (own_w hw 54 rfl)) (by decide) (t := .int) (t' := (.object "java/lang/String")) (by decide) (by decide)))
  replace G_message := G_message.same W248
  replace KK := KK.wr W248 (Or.inl (List.mem_of_getElem? (i := 0) rfl))
  have N248 := Fr.snoc X248 N247 g_a1
  refine own_of (U' := (T248.setTop (mkF m 19 #[.val (.ref a1), .val .null, .val (.int p3), .val .null] []))) (st248) ?_
  exact own_ret0 X248 hx hlk Bd.returns (hb hby d8_19) (by decide) (by decide) (by rw [e248]; exact ⟨rfl, N248, KK, G_file, G_line, G_message⟩)
set_option maxRecDepth 65536 in
theorem rmpi (l : Launch) (Z : State) (a0 : Array Value) (hw : ∀ d ∈ tables_1, d.before a0 Z = true) (ws : List Jvm.Cond) (a1 : Addr) (w2 w4 : Value) (p3 : Int32) (h0 : Heap) (n0 : Nat) (Z0 : n0 ≤ h0.size) (E1 : Exa Z h0 a1 "com/example/handover/handover/ConfigException$Problem") (G_file : Fld Z h0 a1 "com/example/handover/handover/ConfigException$Problem" "file" "Ljava/lang/String;" .null) (G_line : Fld Z h0 a1 "com/example/handover/handover/ConfigException$Problem" "line" "I" (.int (0 : Int32))) (G_message : Fld Z h0 a1 "com/example/handover/handover/ConfigException$Problem" "message" "Ljava/lang/String;" .null) (g_a1 : n0 ≤ a1) (r2 : w2.isRef = true) (r4 : w4.isRef = true) :
    MetFree l mN_38 (head1 (Jvm.Cond.code mN_38 prog_2_method_1_code 4 none :: ws) ({ frames := 2, cells := 0, slots := 0, locals := 24 } : Room)) (fun a U => a = #[(.ref a1), w2, (.int p3), w4] ∧ Z.Warmed39 U.vm ∧ U.heap = h0) (fun _ _ _ _ _ => True) (fun _ U o U' => ∃ v L, o = .returned v ∧ (Qpi Z a1 w2 w4 p3 h0 n0) v U'.heap L ∧ FrameEnd U o U' L ({ frames := 2, cells := 0, slots := 0, locals := 24 } : Room).cells ({ frames := 2, cells := 0, slots := 0, locals := 24 } : Room).slots) := by
  rcases ref_cases r2 with rfl | ⟨f2, rfl⟩ <;> rcases ref_cases r4 with rfl | ⟨f4, rfl⟩
  · exact rmpinn l Z a0 hw ws a1 p3 h0 n0 Z0 E1 G_file G_line G_message g_a1
  · exact rmpinr l Z a0 hw ws a1 f4 p3 h0 n0 Z0 E1 G_file G_line G_message g_a1
  · exact rmpirn l Z a0 hw ws a1 f2 p3 h0 n0 Z0 E1 G_file G_line G_message g_a1
  · exact rmpirr l Z a0 hw ws a1 f2 f4 p3 h0 n0 Z0 E1 G_file G_line G_message g_a1
theorem own_col : own_co.length = 1 := rfl
theorem own_csl : own_cs.length = 2 := rfl
abbrev mN_39 : MethodName := ⟨"com/example/handover/handover/ConfigException$Problem", "toString", "()Ljava/lang/String;"⟩
theorem pd_26 : parseMethodDescriptor "(Ljava/lang/String;)Ljava/lang/StringBuilder;" = some ⟨[(.object "java/lang/String")], some (.object "java/lang/StringBuilder")⟩ := by decide +kernel
theorem pd_27 : parseMethodDescriptor "(I)Ljava/lang/StringBuilder;" = some ⟨[.int], some (.object "java/lang/StringBuilder")⟩ := by decide +kernel
theorem pd_28 : parseMethodDescriptor "()Ljava/lang/String;" = some ⟨[], some (.object "java/lang/String")⟩ := by decide +kernel
theorem d10_0 : decode prog_2_method_2_code 0 = .ok (.new 20, 3) := by decide +kernel
theorem d10_3 : decode prog_2_method_2_code 3 = .ok (.dup, 1) := by decide +kernel
theorem d10_4 : decode prog_2_method_2_code 4 = .ok (.invokespecial 22, 3) := by decide +kernel
theorem d10_7 : decode prog_2_method_2_code 7 = .ok (.aload_n 0, 1) := by decide +kernel
theorem d10_8 : decode prog_2_method_2_code 8 = .ok (.getfield 7, 3) := by decide +kernel
theorem d10_11 : decode prog_2_method_2_code 11 = .ok (.invokevirtual 23, 3) := by decide +kernel
theorem d10_14 : decode prog_2_method_2_code 14 = .ok (.ldc 27, 2) := by decide +kernel
theorem d10_16 : decode prog_2_method_2_code 16 = .ok (.invokevirtual 23, 3) := by decide +kernel
theorem d10_19 : decode prog_2_method_2_code 19 = .ok (.aload_n 0, 1) := by decide +kernel
theorem d10_20 : decode prog_2_method_2_code 20 = .ok (.getfield 13, 3) := by decide +kernel
theorem d10_23 : decode prog_2_method_2_code 23 = .ok (.invokevirtual 29, 3) := by decide +kernel
theorem d10_26 : decode prog_2_method_2_code 26 = .ok (.ldc 32, 2) := by decide +kernel
theorem d10_28 : decode prog_2_method_2_code 28 = .ok (.invokevirtual 23, 3) := by decide +kernel
theorem d10_31 : decode prog_2_method_2_code 31 = .ok (.aload_n 0, 1) := by decide +kernel
theorem d10_32 : decode prog_2_method_2_code 32 = .ok (.getfield 17, 3) := by decide +kernel
theorem d10_35 : decode prog_2_method_2_code 35 = .ok (.invokevirtual 23, 3) := by decide +kernel
theorem d10_38 : decode prog_2_method_2_code 38 = .ok (.invokevirtual 34, 3) := by decide +kernel
theorem d10_41 : decode prog_2_method_2_code 41 = .ok (.areturn, 1) := by decide +kernel
theorem ef_pt (m : MethodId) (x0 : Addr) : entryFrame m #[(.ref x0)] 1 = mkF m 0 #[.val (.ref x0)] [] := by first | (simp [entryFrame, mkF, argsToLocals, Value.category]; done) | rfl
def Qps (Z : State) (cs : List Int32) (h0 : Heap) (n0 : Nat) (v : Option Value) (h : Heap) (L : List Loc) : Prop := ∃ n : Int32, n.toInt = cs.length ∧ Qts Z n cs h0 n0 v h L
set_option maxRecDepth 65536 in
set_option maxHeartbeats 40000000 in
theorem rmpt (l : Launch) (Z : State) (a0 : Array Value) (hw : ∀ d ∈ tables_1, d.before a0 Z = true) (ws : List Jvm.Cond) (a1 : Addr) (w2 w4 : Value) (p3 g1 : Int32) (cs ms : List Int32) (n1 : Nat) (ao at_ : Addr) (ko kt : ClassId) (h0 : Heap) (n0 : Nat) (Z0 : n0 ≤ h0.size) (hEL : EW Z a0 consts_1) (E1 : Exa Z h0 a1 "com/example/handover/handover/ConfigException$Problem") (Gf : Fld Z h0 a1 "com/example/handover/handover/ConfigException$Problem" "file" "Ljava/lang/String;" w2) (Gl : Fld Z h0 a1 "com/example/handover/handover/ConfigException$Problem" "line" "I" (.int p3)) (Gm : Fld Z h0 a1 "com/example/handover/handover/ConfigException$Problem" "message" "Ljava/lang/String;" w4) (O2 : own_OS Z h0 n1 w2 cs) (O4 : own_OS Z h0 n1 w4 ms) (hn1 : n1 ≤ h0.size) (lc : cs.length ≤ 4) (lm : ms.length ≤ 4) (SC : Sta Z h0 "java/lang/String" "COMPACT_STRINGS" "Z" (.int g1)) (hg1 : ¬ (g1 = (0 : Int32))) (SO : Sta Z h0 "java/lang/Integer" "DigitOnes" "[B" (.ref ao)) (Vo : Arv Z h0 ao ko .byte (100 : Int32) (List.map Value.int own_ones) (.int (0 : Int32))) (ST : Sta Z h0 "java/lang/Integer" "DigitTens" "[B" (.ref at_)) (Vt : Arv Z h0 at_ kt .byte (100 : Int32) (List.map Value.int own_tens) (.int (0 : Int32))) :
    MetFree l mN_39 (head1 (Jvm.Cond.code mN_39 prog_2_method_2_code 1 (some (.object "java/lang/String")) :: ws) ({ frames := 7, cells := 13, slots := 248, locals := 103 } : Room)) (fun a U => a = #[(.ref a1)] ∧ Z.Warmed39 U.vm ∧ U.heap = h0 ∧ CHv Z consts_1 U.vm h0) (fun _ _ _ _ _ => True) (fun _ U o U' => ∃ v L, o = .returned v ∧ (Qps Z ((((([] ++ cs) ++ own_co) ++ own_num p3) ++ own_cs) ++ ms) h0 n0) v U'.heap L ∧ ReturnedEndW U o U' L ({ frames := 7, cells := 13, slots := 248, locals := 103 } : Room).cells ({ frames := 7, cells := 13, slots := 248, locals := 103 } : Room).slots) := by
  refine MetFree.of_bodySF (plainFor_of_name pn_9) hisR ?_
  intro p e s m args below meth c s₁ Bd hml0 hP hK
  obtain ⟨rfl, hZ, hh, HH⟩ := hP
  have hx := Bd.exec
  have hby := Bd.bytes
  have hml : c.maxLocals = 1 := hml0
  have hown : s.vm.findClass "com/example/handover/handover/ConfigException$Problem" = some m.cls := findClass_of_methodNamed Bd.named
  have hnm := (name_of_methodNamed Bd.named Bd.method).1
  have hlk := Bd.notSynchronized
  have X0 : Stand p l e ({ frames := 7, cells := 13, slots := 248, locals := 103 } : Room) (s.setVm s.vm) m #[(.ref a1)] below meth c s₁ [] 0 0 := Stand.of_body Bd
  have hS := (State.WarmedH.refl s).since 0
  have hkS : 0 ≤ h0.size := Nat.zero_le _
  replace hZ : Z.Warmed39 (s.setVm s.vm).vm := hZ
  replace hown : (s.setVm s.vm).vm.findClass "com/example/handover/handover/ConfigException$Problem" = some m.cls := hown
  replace HH : CHv Z consts_1 s.vm h0 := HH
  have e0 : s₁.heap = h0 := by rw [← hh, Bd.state]; rfl
  have N0 := Fr.nil n0
  have KK := Keep.refl h0 []
  show own_Ends p e below s ReturnedEndW (Qps Z ((((([] ++ cs) ++ own_co) ++ own_num p3) ++ own_cs) ++ ms) h0 n0) 13 248 (s₁.setTop (entryFrame m #[(.ref a1)] 1))
  refine own_of (U' := (s₁.setTop (mkF m 0 #[.val (.ref a1)] []))) (fun _ k => castTop (ef_pt m a1) k) ?_
  have nl := own_numlen p3
  have hr_w2 := own_OSref O2
  have hr_w4 := own_OSref O4
  obtain ⟨T249, h249, X249, e249, E249, A249, D249, -, st249⟩ := newO X0 hx hZ hown (own_w hw 60 rfl) (own_w hw 61 rfl) (own_w hw 62 rfl) e0 (g := (mkF m 0 #[.val (.ref a1)] [])) rfl (hb hby d10_0) (by decide) (by decide)
  obtain ⟨b249, gz249⟩ : ∃ z, z = h0.size := ⟨_, rfl⟩
  rw [← gz249] at A249 D249 st249
  have g_b249 : n0 ≤ b249 := Nat.le_trans Z0 (Nat.le_of_eq gz249.symm)
  have sz_b249 : h0.size ≤ b249 := Nat.le_trans KK.1 (Nat.le_of_eq gz249.symm)
  have ne_a1_b249 : a1 ≠ b249 := Nat.ne_of_lt (Nat.lt_of_lt_of_le E1.lt (Nat.le_of_eq gz249.symm))
  have ne_ao_b249 : ao ≠ b249 := Nat.ne_of_lt (Nat.lt_of_lt_of_le Vo.lt (Nat.le_of_eq gz249.symm))
  have ne_at__b249 : at_ ≠ b249 := Nat.ne_of_lt (Nat.lt_of_lt_of_le Vt.lt (Nat.le_of_eq gz249.symm))
  have sf_b249 := Safe.ext E249 HH (Safe.new (Z := Z) (Nat.le_of_eq gz249.symm))
  replace O2 := own_OSext O2 E249
  replace O4 := own_OSext O4 E249
  replace Z0 := Nat.le_trans Z0 E249.1
  replace E1 := E1.ext E249
  replace Gf := Gf.ext E249
  replace Gl := Gl.ext E249
  replace Gm := Gm.ext E249
  replace SC := SC.ext E249
  replace SO := SO.ext E249
  replace Vo := Vo.ext E249
  replace ST := ST.ext E249
  replace Vt := Vt.ext E249
  replace hkS := Nat.le_trans hkS E249.1
  replace HH := HH.ext E249
  replace KK := KK.ext E249
  have F249_value : Fld Z h249 b249 "java/lang/AbstractStringBuilder" "value" "[B" .null := D249 (Or.inl (own_w hw 75 rfl)) (ty := (.array .byte)) (by decide)
  have F249_coder : Fld Z h249 b249 "java/lang/AbstractStringBuilder" "coder" "B" (.int (0 : Int32)) := D249 (Or.inl (own_w hw 77 rfl)) (ty := .byte) (by decide)
  have F249_count : Fld Z h249 b249 "java/lang/AbstractStringBuilder" "count" "I" (.int (0 : Int32)) := D249 (Or.inl (own_w hw 99 rfl)) (ty := .int) (by decide)
  refine own_of (U' := (T249.setTop (mkF m 3 #[.val (.ref a1)] [(.ref b249)]))) (st249) ?_
  refine own_dup X249 hx hby d10_3 rfl ?_
  obtain ⟨_, _, ⟨T250, L250, k250, n250⟩, -, X250, ⟨Lc250, hQ250, l250, y250, z250⟩, st250⟩ := X249.specialBack hx (y := mN_20) rfl hown (mvT hZ (own_w hw 63 rfl)) (mvT hZ (own_w hw 64 rfl)) (mvT hZ (own_w hw 65 rfl)) (by decide) (backOf (W := 1) (rmbi l Z a0 hw [] b249 g1 h249 n0 Z0 A249 F249_value F249_coder F249_count SC hg1 g_b249) hZ (own_w hw 65 rfl) (own_w hw 62 rfl) (by decide) (by decide)) (g := (mkF m 4 #[.val (.ref a1)] [(.ref b249), (.ref b249)])) rfl (by rw [hml]; rfl) (Steps.refl _) (a := b249) (argsL := []) (rest := [(.ref b249)]) (lenOf pd_25 rfl) rfl (by show 2 * 0 + _ ≤ _; exact Nat.le_of_eq rfl) (hb hby d10_4) (fun _ _ => ⟨rfl, e249, (by decide : 1 + 1 ≤ _), (by decide : 4 + 16 ≤ _)⟩)
  dsimp only [Pt.U, Pt.locs, Pt.cells, Pt.slots] at X250 l250 y250 z250 st250 hQ250
  rw [l250, y250, z250] at X250
  obtain ⟨rfl, Nq250, Kp250, u250, ku250, gq250, Bq250⟩ := hQ250
  have g_u250 : n0 ≤ u250 := Nat.le_trans Z0 gq250
  have sz_u250 : h0.size ≤ u250 := Nat.le_trans KK.1 gq250
  have ne_a1_u250 : a1 ≠ u250 := Nat.ne_of_lt (Nat.lt_of_lt_of_le E1.lt gq250)
  have ne_ao_u250 : ao ≠ u250 := Nat.ne_of_lt (Nat.lt_of_lt_of_le Vo.lt gq250)
  have ne_at__u250 : at_ ≠ u250 := Nat.ne_of_lt (Nat.lt_of_lt_of_le Vt.lt gq250)
  have ne_b249_u250 : b249 ≠ u250 := Nat.ne_of_lt (Nat.lt_of_lt_of_le A249.lt gq250)
  have N250 := Fr.app N0 Nq250
  have nst_b249 := A249.nostat
  have sfk : ∀ x ∈ [b249], Safe Z consts_1 _ _ x := (sfS sf_b249 sf0)
  replace sf_b249 := Safe.keep Kp250 sfk HH sf_b249
  have sf_u250 := Safe.keep Kp250 sfk HH (Safe.new (Z := Z) gq250)
  replace HH := HH.keep Kp250 sfk
  replace O2 := own_OSkeep O2 Kp250 (allS (Nat.le_trans hn1 sz_b249) all0)
  replace O4 := own_OSkeep O4 Kp250 (allS (Nat.le_trans hn1 sz_b249) all0)
  replace Z0 := Nat.le_trans Z0 Kp250.1
  replace E1 := E1.keep Kp250
  replace Gf := Gf.keep Kp250 (ninS ne_a1_b249 nin0)
  replace Gl := Gl.keep Kp250 (ninS ne_a1_b249 nin0)
  replace Gm := Gm.keep Kp250 (ninS ne_a1_b249 nin0)
  replace SC := own_staKeep SC Kp250 (nsS nst_b249 ns0)
  replace SO := own_staKeep SO Kp250 (nsS nst_b249 ns0)
  replace Vo := Vo.keep Kp250 (ninS ne_ao_b249 nin0)
  replace ST := own_staKeep ST Kp250 (nsS nst_b249 ns0)
  replace Vt := Vt.keep Kp250 (ninS ne_at__b249 nin0)
  replace hkS := Nat.le_trans hkS Kp250.1
  replace KK := KK.trans Kp250 (allS (Or.inr sz_b249) all0)
  replace A249 := A249.keep Kp250
  obtain ⟨Es250, Fv250, Fc250, Fn250, Eb250, Vb250, hz250, hn250, hle250⟩ := Bq250
  refine own_of (U' := (T250.setTop (mkF m 7 #[.val (.ref a1)] [(.ref b249)]))) (fun _ k => st250.trans k) ?_
  refine own_aloadN X250 hx hby d10_7 rfl rfl ?_
  obtain ⟨T251, X251, e251, st251⟩ := getF X250 hx hZ hown (host := "") (Or.inl (own_w hw 49 rfl)) Via.refl rfl Gf (g := (mkF m 8 #[.val (.ref a1)] [(.ref a1), (.ref b249)])) rfl rfl (hb hby d10_8)
  refine own_of (U' := (T251.setTop (mkF m 11 #[.val (.ref a1)] [w2, (.ref b249)]))) (st251) ?_
  obtain ⟨cq252, kq252, q252a, q252b, q252c⟩ := isOf hZ e251 Es250
  obtain ⟨_, _, ⟨T252, L252, k252, n252⟩, -, X252, ⟨Lc252, hQ252, l252, y252, z252⟩, st252⟩ := X251.virtualBack hx (y := mN_18) (z := mN_18) hown (mvT hZ (own_w hw 78 rfl)) (mvT hZ (own_w hw 79 rfl)) (notFace_of_selects (args := #[]) (mvT hZ (own_w hw 81 rfl))) (mvT hZ (own_w hw 81 rfl)) (mvT hZ (own_w hw 80 rfl)) (by decide) (backOf (W := 0) (rmsx l Z a0 hw [] b249 u250 ku250 (16 : Int32) (0 : Int32) ([] : List Int32) w2 cs n1 g1 T250.heap n0 Z0 ⟨Es250, Fv250, Fc250, Fn250, Eb250, Vb250, hz250, hn250, hle250⟩ O2 (by simp only [List.length_append, List.length_nil, own_col, own_csl]; omega) g_b249 g_u250 ne_b249_u250 (Nat.le_trans hn1 sz_b249) (Nat.le_trans hn1 sz_u250) SC hg1) hZ (own_w hw 82 rfl) (own_w hw 62 rfl) (by decide) (by decide)) q252a q252c (g := (mkF m 11 #[.val (.ref a1)] [w2, (.ref b249)])) rfl (by rw [hml]; rfl) (Steps.refl _) (argsL := [w2]) (rest := []) (lenOf pd_26 rfl) rfl (by show 2 * 0 + _ ≤ _; exact Nat.le_of_eq rfl) (hb hby d10_11) (fun _ _ => ⟨rfl, e251, (by decide : 2 + 1 ≤ _), (by decide : 20 + 34 ≤ _)⟩)
  dsimp only [Pt.U, Pt.locs, Pt.cells, Pt.slots] at X252 l252 y252 z252 st252 hQ252
  rw [l252, y252, z252] at X252
  obtain ⟨rfl, Nq252, Kp252, u252, ku252, zu252, nu252, ho252, Bq252⟩ := hQ252
  have sf_u252 := own_sfor ho252 sf_u250
  have ne_a1_u252 : a1 ≠ u252 := own_neor ho252 ne_a1_u250 E1.lt
  have ne_ao_u252 : ao ≠ u252 := own_neor ho252 ne_ao_u250 Vo.lt
  have ne_at__u252 : at_ ≠ u252 := own_neor ho252 ne_at__u250 Vt.lt
  have ne_b249_u252 : b249 ≠ u252 := own_neor ho252 ne_b249_u250 Es250.lt
  have g_u252 : n0 ≤ u252 := ho252.elim (fun q => by rw [← q]; exact g_u250) (fun q => Nat.le_trans Z0 q)
  have mk_u252 : u252 ∈ ([] : List Addr) ∨ h0.size ≤ u252 := ho252.elim (fun q => by rw [← q]; exact (Or.inr sz_u250)) (fun q => Or.inr (Nat.le_trans KK.1 q))
  have N252 := Fr.app N250 Nq252
  have nst_b249 := Es250.nostat
  have nst_u250 := Eb250.nostat
  have sfk : ∀ x ∈ [b249, u250], Safe Z consts_1 _ _ x := (sfS sf_b249 (sfS sf_u250 sf0))
  replace sf_b249 := Safe.keep Kp252 sfk HH sf_b249
  replace sf_u250 := Safe.keep Kp252 sfk HH sf_u250
  replace sf_u252 := Safe.keep Kp252 sfk HH sf_u252
  replace HH := HH.keep Kp252 sfk
  replace O2 := own_OSkeep O2 Kp252 (allS (Nat.le_trans hn1 sz_b249) (allS (Nat.le_trans hn1 sz_u250) all0))
  replace O4 := own_OSkeep O4 Kp252 (allS (Nat.le_trans hn1 sz_b249) (allS (Nat.le_trans hn1 sz_u250) all0))
  replace Z0 := Nat.le_trans Z0 Kp252.1
  replace E1 := E1.keep Kp252
  replace Gf := Gf.keep Kp252 (ninS ne_a1_b249 (ninS ne_a1_u250 nin0))
  replace Gl := Gl.keep Kp252 (ninS ne_a1_b249 (ninS ne_a1_u250 nin0))
  replace Gm := Gm.keep Kp252 (ninS ne_a1_b249 (ninS ne_a1_u250 nin0))
  replace SC := own_staKeep SC Kp252 (nsS nst_b249 (nsS nst_u250 ns0))
  replace SO := own_staKeep SO Kp252 (nsS nst_b249 (nsS nst_u250 ns0))
  replace Vo := Vo.keep Kp252 (ninS ne_ao_b249 (ninS ne_ao_u250 nin0))
  replace ST := own_staKeep ST Kp252 (nsS nst_b249 (nsS nst_u250 ns0))
  replace Vt := Vt.keep Kp252 (ninS ne_at__b249 (ninS ne_at__u250 nin0))
  replace hkS := Nat.le_trans hkS Kp252.1
  replace KK := KK.trans Kp252 (allS (Or.inr sz_b249) (allS (Or.inr sz_u250) all0))
  replace Es250 := Es250.keep Kp252
  replace Eb250 := Eb250.keep Kp252
  obtain ⟨Es252, Fv252, Fc252, Fn252, Eb252, Vb252, hz252, hn252, hle252⟩ := Bq252
  refine own_of (U' := (T252.setTop (mkF m 14 #[.val (.ref a1)] [(.ref b249)]))) (fun _ k => st252.trans k) ?_
  obtain ⟨a253, T253, h253, k253, b253, kb253, X253, e253, E253, hS, hkN253, hZ, hown, Es253, Fc253, Fv253, Vb253, -, -, CH253, Lt253, Sn253, st253⟩ := ldcCH X252 hx hZ hown (own_w hw 125 rfl) (own_strAtoms hw) rfl hS hkS hEL (List.mem_of_getElem? (i := 0) rfl) HH (vs := own_co.map Value.int) (z := (1 : Int32)) ⟨by decide +kernel, by decide +kernel⟩ (by decide) (by decide +kernel) (g := (mkF m 14 #[.val (.ref a1)] [(.ref b249)])) rfl (hb hby d10_14) (n := 4) (by decide +kernel) (by decide) (by decide) (by decide)
  replace sf_b249 := CH253.safe Es252.lt sf_b249
  replace sf_u252 := CH253.safe Eb252.lt sf_u252
  replace O2 := own_OSext O2 E253
  replace O4 := own_OSext O4 E253
  replace Z0 := Nat.le_trans Z0 E253.1
  replace E1 := E1.ext E253
  replace Gf := Gf.ext E253
  replace Gl := Gl.ext E253
  replace Gm := Gm.ext E253
  replace SC := SC.ext E253
  replace SO := SO.ext E253
  replace Vo := Vo.ext E253
  replace ST := ST.ext E253
  replace Vt := Vt.ext E253
  replace KK := KK.ext E253
  replace Es252 := Es252.ext E253
  replace Fv252 := Fv252.ext E253
  replace Fc252 := Fc252.ext E253
  replace Fn252 := Fn252.ext E253
  replace Eb252 := Eb252.ext E253
  replace Vb252 := Vb252.ext E253
  have hkS := hkN253
  have HH := CH253.1
  have nl_a1_253 := Sn253 a1 (Safe.exa hZ.alike E1 (by decide) (by decide))
  have nl_b249_253 := Sn253 b249 sf_b249
  have nl_u252_253 := Sn253 u252 sf_u252
  refine own_of (U' := (T253.setTop (mkF m 16 #[.val (.ref a1)] [(.ref a253), (.ref b249)]))) (st253) ?_
  obtain ⟨cq254, kq254, q254a, q254b, q254c⟩ := isOf hZ e253 Es252
  obtain ⟨_, _, ⟨T254, L254, k254, n254⟩, -, X254, ⟨Lc254, hQ254, l254, y254, z254⟩, st254⟩ := X253.virtualBack hx (y := mN_18) (z := mN_18) hown (mvT hZ (own_w hw 78 rfl)) (mvT hZ (own_w hw 79 rfl)) (notFace_of_selects (args := #[]) (mvT hZ (own_w hw 81 rfl))) (mvT hZ (own_w hw 81 rfl)) (mvT hZ (own_w hw 80 rfl)) (by decide) (backOf (W := 0) (rmsa l Z a0 hw [] b249 u252 ku252 zu252 nu252 (([] : List Int32) ++ cs) a253 g1 b253 kb253 (1 : Int32) own_co h253 n0 Z0 ⟨Es252, Fv252, Fc252, Fn252, Eb252, Vb252, hz252, hn252, hle252⟩ Es253 Fc253 Fv253 Vb253 SC hg1 (by decide) (by simp only [List.length_append, List.length_nil, own_col, own_csl]; omega) g_b249 g_u252 ne_b249_u252 nl_b249_253.1 nl_b249_253.2 (Ne.symm nl_u252_253.1) (Ne.symm nl_u252_253.2)) hZ (own_w hw 82 rfl) (own_w hw 62 rfl) (by decide) (by decide)) q254a q254c (g := (mkF m 16 #[.val (.ref a1)] [(.ref a253), (.ref b249)])) rfl (by rw [hml]; rfl) (Steps.refl _) (argsL := [(.ref a253)]) (rest := []) (lenOf pd_26 rfl) rfl (by show 2 * 0 + _ ≤ _; exact Nat.le_of_eq rfl) (hb hby d10_16) (fun _ _ => ⟨rfl, e253, (by decide : 5 + 1 ≤ _), (by decide : 62 + 34 ≤ _)⟩)
  dsimp only [Pt.U, Pt.locs, Pt.cells, Pt.slots] at X254 l254 y254 z254 st254 hQ254
  rw [l254, y254, z254] at X254
  obtain ⟨rfl, Nq254, Kp254, u254, ku254, zu254, ho254, Bq254⟩ := hQ254
  have sf_u254 := own_sfor ho254 sf_u252
  have ne_a1_u254 : a1 ≠ u254 := own_neor ho254 ne_a1_u252 E1.lt
  have ne_ao_u254 : ao ≠ u254 := own_neor ho254 ne_ao_u252 Vo.lt
  have ne_at__u254 : at_ ≠ u254 := own_neor ho254 ne_at__u252 Vt.lt
  have ne_b249_u254 : b249 ≠ u254 := own_neor ho254 ne_b249_u252 Es252.lt
  have ne_a253_u254 : a253 ≠ u254 := own_neor ho254 (Ne.symm nl_u252_253.1) Es253.lt
  have ne_b253_u254 : b253 ≠ u254 := own_neor ho254 (Ne.symm nl_u252_253.2) Vb253.lt
  have g_u254 : n0 ≤ u254 := ho254.elim (fun q => by rw [← q]; exact g_u252) (fun q => Nat.le_trans Z0 q)
  have mk_u254 : u254 ∈ ([] : List Addr) ∨ h0.size ≤ u254 := ho254.elim (fun q => by rw [← q]; exact mk_u252) (fun q => Or.inr (Nat.le_trans KK.1 q))
  have N254 := Fr.app N252 Nq254
  have nst_b249 := Es252.nostat
  have nst_u252 := Eb252.nostat
  have sfk : ∀ x ∈ [b249, u252], Safe Z consts_1 _ _ x := (sfS sf_b249 (sfS sf_u252 sf0))
  replace sf_b249 := Safe.keep Kp254 sfk HH sf_b249
  replace sf_u252 := Safe.keep Kp254 sfk HH sf_u252
  replace sf_u254 := Safe.keep Kp254 sfk HH sf_u254
  replace HH := HH.keep Kp254 sfk
  replace O2 := own_OSkeep O2 Kp254 (allS (Nat.le_trans hn1 sz_b249) (allS (Nat.le_trans hn1 ((mk_u252).resolve_left (fun q => nomatch q))) all0))
  replace O4 := own_OSkeep O4 Kp254 (allS (Nat.le_trans hn1 sz_b249) (allS (Nat.le_trans hn1 ((mk_u252).resolve_left (fun q => nomatch q))) all0))
  replace Z0 := Nat.le_trans Z0 Kp254.1
  replace E1 := E1.keep Kp254
  replace Gf := Gf.keep Kp254 (ninS ne_a1_b249 (ninS ne_a1_u252 nin0))
  replace Gl := Gl.keep Kp254 (ninS ne_a1_b249 (ninS ne_a1_u252 nin0))
  replace Gm := Gm.keep Kp254 (ninS ne_a1_b249 (ninS ne_a1_u252 nin0))
  replace SC := own_staKeep SC Kp254 (nsS nst_b249 (nsS nst_u252 ns0))
  replace SO := own_staKeep SO Kp254 (nsS nst_b249 (nsS nst_u252 ns0))
  replace Vo := Vo.keep Kp254 (ninS ne_ao_b249 (ninS ne_ao_u252 nin0))
  replace ST := own_staKeep ST Kp254 (nsS nst_b249 (nsS nst_u252 ns0))
  replace Vt := Vt.keep Kp254 (ninS ne_at__b249 (ninS ne_at__u252 nin0))
  replace KK := KK.trans Kp254 (allS (Or.inr sz_b249) (allS mk_u252 all0))
  replace Es252 := Es252.keep Kp254
  replace Eb252 := Eb252.keep Kp254
  replace hkS := Nat.le_trans hkS Kp254.1
  replace Es253 := Es253.keep Kp254
  replace Fc253 := Fc253.keep Kp254 (ninS (Ne.symm nl_b249_253.1) (ninS (Ne.symm nl_u252_253.1) nin0))
  replace Fv253 := Fv253.keep Kp254 (ninS (Ne.symm nl_b249_253.1) (ninS (Ne.symm nl_u252_253.1) nin0))
  replace Vb253 := Vb253.keep Kp254 (ninS (Ne.symm nl_b249_253.2) (ninS (Ne.symm nl_u252_253.2) nin0))
  obtain ⟨Es254, Fv254, Fc254, Fn254, Eb254, Vb254, hz254, hn254, hle254⟩ := Bq254
  refine own_of (U' := (T254.setTop (mkF m 19 #[.val (.ref a1)] [(.ref b249)]))) (fun _ k => st254.trans k) ?_
  refine own_aloadN X254 hx hby d10_19 rfl rfl ?_
  obtain ⟨T255, X255, e255, st255⟩ := getF X254 hx hZ hown (host := "") (Or.inl (own_w hw 51 rfl)) Via.refl rfl Gl (g := (mkF m 20 #[.val (.ref a1)] [(.ref a1), (.ref b249)])) rfl rfl (hb hby d10_20)
  refine own_of (U' := (T255.setTop (mkF m 23 #[.val (.ref a1)] [(.int p3), (.ref b249)]))) (st255) ?_
  obtain ⟨cq256, kq256, q256a, q256b, q256c⟩ := isOf hZ e255 Es254
  obtain ⟨_, _, ⟨T256, L256, k256, n256⟩, -, X256, ⟨Lc256, hQ256, l256, y256, z256⟩, st256⟩ := X255.virtualBack hx (y := mN_29) (z := mN_29) hown (mvT hZ (own_w hw 126 rfl)) (mvT hZ (own_w hw 127 rfl)) (notFace_of_selects (args := #[]) (mvT hZ (own_w hw 129 rfl))) (mvT hZ (own_w hw 129 rfl)) (mvT hZ (own_w hw 128 rfl)) (by decide) (backOf (W := 0) (rmaq l Z a0 hw [] b249 u254 ku254 zu254 (nu252 + (1 : Int32)) ((([] : List Int32) ++ cs) ++ own_co) p3 g1 ao at_ ko kt T254.heap n0 Z0 ⟨Es254, Fv254, Fc254, Fn254, Eb254, Vb254, hz254, hn254, hle254⟩ (by simp only [List.length_append, List.length_nil, own_col, own_csl]; omega) g_b249 g_u254 ne_b249_u254 ne_ao_u254 ne_at__u254 (Ne.symm ne_ao_b249) (Ne.symm ne_at__b249) SO Vo ST Vt SC hg1) hZ (own_w hw 130 rfl) (own_w hw 62 rfl) (by decide) (by decide)) q256a q256c (g := (mkF m 23 #[.val (.ref a1)] [(.int p3), (.ref b249)])) rfl (by rw [hml]; rfl) (Steps.refl _) (argsL := [(.int p3)]) (rest := []) (lenOf pd_27 rfl) rfl (by show 2 * 0 + _ ≤ _; exact Nat.le_of_eq rfl) (hb hby d10_23) (fun _ _ => ⟨rfl, e255, (by decide : 6 + 1 ≤ _), (by decide : 96 + 34 ≤ _)⟩)
  dsimp only [Pt.U, Pt.locs, Pt.cells, Pt.slots] at X256 l256 y256 z256 st256 hQ256
  rw [l256, y256, z256] at X256
  obtain ⟨rfl, Nq256, Kp256, u256, ku256, zu256, nu256, ho256, Bq256⟩ := hQ256
  have sf_u256 := own_sfor ho256 sf_u254
  have ne_a1_u256 : a1 ≠ u256 := own_neor ho256 ne_a1_u254 E1.lt
  have ne_ao_u256 : ao ≠ u256 := own_neor ho256 ne_ao_u254 Vo.lt
  have ne_at__u256 : at_ ≠ u256 := own_neor ho256 ne_at__u254 Vt.lt
  have ne_a253_u256 : a253 ≠ u256 := own_neor ho256 ne_a253_u254 Es253.lt
  have ne_b253_u256 : b253 ≠ u256 := own_neor ho256 ne_b253_u254 Vb253.lt
  have ne_b249_u256 : b249 ≠ u256 := own_neor ho256 ne_b249_u254 Es254.lt
  have g_u256 : n0 ≤ u256 := ho256.elim (fun q => by rw [← q]; exact g_u254) (fun q => Nat.le_trans Z0 q)
  have mk_u256 : u256 ∈ ([] : List Addr) ∨ h0.size ≤ u256 := ho256.elim (fun q => by rw [← q]; exact mk_u254) (fun q => Or.inr (Nat.le_trans KK.1 q))
  have N256 := Fr.app N254 Nq256
  have nst_b249 := Es254.nostat
  have nst_u254 := Eb254.nostat
  have sfk : ∀ x ∈ [b249, u254], Safe Z consts_1 _ _ x := (sfS sf_b249 (sfS sf_u254 sf0))
  replace sf_b249 := Safe.keep Kp256 sfk HH sf_b249
  replace sf_u252 := Safe.keep Kp256 sfk HH sf_u252
  replace sf_u254 := Safe.keep Kp256 sfk HH sf_u254
  replace sf_u256 := Safe.keep Kp256 sfk HH sf_u256
  replace HH := HH.keep Kp256 sfk
  replace O2 := own_OSkeep O2 Kp256 (allS (Nat.le_trans hn1 sz_b249) (allS (Nat.le_trans hn1 ((mk_u254).resolve_left (fun q => nomatch q))) all0))
  replace O4 := own_OSkeep O4 Kp256 (allS (Nat.le_trans hn1 sz_b249) (allS (Nat.le_trans hn1 ((mk_u254).resolve_left (fun q => nomatch q))) all0))
  replace Z0 := Nat.le_trans Z0 Kp256.1
  replace E1 := E1.keep Kp256
  replace Gf := Gf.keep Kp256 (ninS ne_a1_b249 (ninS ne_a1_u254 nin0))
  replace Gl := Gl.keep Kp256 (ninS ne_a1_b249 (ninS ne_a1_u254 nin0))
  replace Gm := Gm.keep Kp256 (ninS ne_a1_b249 (ninS ne_a1_u254 nin0))
  replace SC := own_staKeep SC Kp256 (nsS nst_b249 (nsS nst_u254 ns0))
  replace SO := own_staKeep SO Kp256 (nsS nst_b249 (nsS nst_u254 ns0))
  replace Vo := Vo.keep Kp256 (ninS ne_ao_b249 (ninS ne_ao_u254 nin0))
  replace ST := own_staKeep ST Kp256 (nsS nst_b249 (nsS nst_u254 ns0))
  replace Vt := Vt.keep Kp256 (ninS ne_at__b249 (ninS ne_at__u254 nin0))
  replace KK := KK.trans Kp256 (allS (Or.inr sz_b249) (allS mk_u254 all0))
  replace hkS := Nat.le_trans hkS Kp256.1
  replace Es253 := Es253.keep Kp256
  replace Fc253 := Fc253.keep Kp256 (ninS (Ne.symm nl_b249_253.1) (ninS ne_a253_u254 nin0))
  replace Fv253 := Fv253.keep Kp256 (ninS (Ne.symm nl_b249_253.1) (ninS ne_a253_u254 nin0))
  replace Vb253 := Vb253.keep Kp256 (ninS (Ne.symm nl_b249_253.2) (ninS ne_b253_u254 nin0))
  replace Es254 := Es254.keep Kp256
  replace Eb254 := Eb254.keep Kp256
  obtain ⟨Es256, Fv256, Fc256, Fn256, Eb256, Vb256, hz256, hn256, hle256⟩ := Bq256
  refine own_of (U' := (T256.setTop (mkF m 26 #[.val (.ref a1)] [(.ref b249)]))) (fun _ k => st256.trans k) ?_
  obtain ⟨a257, T257, h257, k257, b257, kb257, X257, e257, E257, hS, hkN257, hZ, hown, Es257, Fc257, Fv257, Vb257, -, -, CH257, Lt257, Sn257, st257⟩ := ldcCH X256 hx hZ hown (own_w hw 148 rfl) (own_strAtoms hw) rfl hS hkS hEL (List.mem_of_getElem? (i := 1) rfl) HH (vs := own_cs.map Value.int) (z := (2 : Int32)) ⟨by decide +kernel, by decide +kernel⟩ (by decide) (by decide +kernel) (g := (mkF m 26 #[.val (.ref a1)] [(.ref b249)])) rfl (hb hby d10_26) (n := 8) (by decide +kernel) (by decide) (by decide) (by decide)
  replace sf_b249 := CH257.safe Es256.lt sf_b249
  replace sf_u256 := CH257.safe Eb256.lt sf_u256
  replace O2 := own_OSext O2 E257
  replace O4 := own_OSext O4 E257
  replace Z0 := Nat.le_trans Z0 E257.1
  replace E1 := E1.ext E257
  replace Gf := Gf.ext E257
  replace Gl := Gl.ext E257
  replace Gm := Gm.ext E257
  replace SC := SC.ext E257
  replace SO := SO.ext E257
  replace Vo := Vo.ext E257
  replace ST := ST.ext E257
  replace Vt := Vt.ext E257
  replace KK := KK.ext E257
  replace Es253 := Es253.ext E257
  replace Fc253 := Fc253.ext E257
  replace Fv253 := Fv253.ext E257
  replace Vb253 := Vb253.ext E257
  replace Es256 := Es256.ext E257
  replace Fv256 := Fv256.ext E257
  replace Fc256 := Fc256.ext E257
  replace Fn256 := Fn256.ext E257
  replace Eb256 := Eb256.ext E257
  replace Vb256 := Vb256.ext E257
  have hkS := hkN257
  have HH := CH257.1
  have nl_a1_257 := Sn257 a1 (Safe.exa hZ.alike E1 (by decide) (by decide))
  have nl_b249_257 := Sn257 b249 sf_b249
  have nl_u256_257 := Sn257 u256 sf_u256
  refine own_of (U' := (T257.setTop (mkF m 28 #[.val (.ref a1)] [(.ref a257), (.ref b249)]))) (st257) ?_
  obtain ⟨cq258, kq258, q258a, q258b, q258c⟩ := isOf hZ e257 Es256
  obtain ⟨_, _, ⟨T258, L258, k258, n258⟩, -, X258, ⟨Lc258, hQ258, l258, y258, z258⟩, st258⟩ := X257.virtualBack hx (y := mN_18) (z := mN_18) hown (mvT hZ (own_w hw 78 rfl)) (mvT hZ (own_w hw 79 rfl)) (notFace_of_selects (args := #[]) (mvT hZ (own_w hw 81 rfl))) (mvT hZ (own_w hw 81 rfl)) (mvT hZ (own_w hw 80 rfl)) (by decide) (backOf (W := 0) (rmsa l Z a0 hw [] b249 u256 ku256 zu256 nu256 (((([] : List Int32) ++ cs) ++ own_co) ++ own_num p3) a257 g1 b257 kb257 (2 : Int32) own_cs h257 n0 Z0 ⟨Es256, Fv256, Fc256, Fn256, Eb256, Vb256, hz256, hn256, hle256⟩ Es257 Fc257 Fv257 Vb257 SC hg1 (by decide) (by simp only [List.length_append, List.length_nil, own_col, own_csl]; omega) g_b249 g_u256 ne_b249_u256 nl_b249_257.1 nl_b249_257.2 (Ne.symm nl_u256_257.1) (Ne.symm nl_u256_257.2)) hZ (own_w hw 82 rfl) (own_w hw 62 rfl) (by decide) (by decide)) q258a q258c (g := (mkF m 28 #[.val (.ref a1)] [(.ref a257), (.ref b249)])) rfl (by rw [hml]; rfl) (Steps.refl _) (argsL := [(.ref a257)]) (rest := []) (lenOf pd_26 rfl) rfl (by show 2 * 0 + _ ≤ _; exact Nat.le_of_eq rfl) (hb hby d10_28) (fun _ _ => ⟨rfl, e257, (by decide : 9 + 1 ≤ _), (by decide : 142 + 34 ≤ _)⟩)
  dsimp only [Pt.U, Pt.locs, Pt.cells, Pt.slots] at X258 l258 y258 z258 st258 hQ258
  rw [l258, y258, z258] at X258
  obtain ⟨rfl, Nq258, Kp258, u258, ku258, zu258, ho258, Bq258⟩ := hQ258
  have sf_u258 := own_sfor ho258 sf_u256
  have ne_a1_u258 : a1 ≠ u258 := own_neor ho258 ne_a1_u256 E1.lt
  have ne_ao_u258 : ao ≠ u258 := own_neor ho258 ne_ao_u256 Vo.lt
  have ne_at__u258 : at_ ≠ u258 := own_neor ho258 ne_at__u256 Vt.lt
  have ne_a253_u258 : a253 ≠ u258 := own_neor ho258 ne_a253_u256 Es253.lt
  have ne_b253_u258 : b253 ≠ u258 := own_neor ho258 ne_b253_u256 Vb253.lt
  have ne_b249_u258 : b249 ≠ u258 := own_neor ho258 ne_b249_u256 Es256.lt
  have ne_a257_u258 : a257 ≠ u258 := own_neor ho258 (Ne.symm nl_u256_257.1) Es257.lt
  have ne_b257_u258 : b257 ≠ u258 := own_neor ho258 (Ne.symm nl_u256_257.2) Vb257.lt
  have g_u258 : n0 ≤ u258 := ho258.elim (fun q => by rw [← q]; exact g_u256) (fun q => Nat.le_trans Z0 q)
  have mk_u258 : u258 ∈ ([] : List Addr) ∨ h0.size ≤ u258 := ho258.elim (fun q => by rw [← q]; exact mk_u256) (fun q => Or.inr (Nat.le_trans KK.1 q))
  have N258 := Fr.app N256 Nq258
  have nst_b249 := Es256.nostat
  have nst_u256 := Eb256.nostat
  have sfk : ∀ x ∈ [b249, u256], Safe Z consts_1 _ _ x := (sfS sf_b249 (sfS sf_u256 sf0))
  replace sf_b249 := Safe.keep Kp258 sfk HH sf_b249
  replace sf_u256 := Safe.keep Kp258 sfk HH sf_u256
  replace sf_u258 := Safe.keep Kp258 sfk HH sf_u258
  replace HH := HH.keep Kp258 sfk
  replace O2 := own_OSkeep O2 Kp258 (allS (Nat.le_trans hn1 sz_b249) (allS (Nat.le_trans hn1 ((mk_u256).resolve_left (fun q => nomatch q))) all0))
  replace O4 := own_OSkeep O4 Kp258 (allS (Nat.le_trans hn1 sz_b249) (allS (Nat.le_trans hn1 ((mk_u256).resolve_left (fun q => nomatch q))) all0))
  replace Z0 := Nat.le_trans Z0 Kp258.1
  replace E1 := E1.keep Kp258
  replace Gf := Gf.keep Kp258 (ninS ne_a1_b249 (ninS ne_a1_u256 nin0))
  replace Gl := Gl.keep Kp258 (ninS ne_a1_b249 (ninS ne_a1_u256 nin0))
  replace Gm := Gm.keep Kp258 (ninS ne_a1_b249 (ninS ne_a1_u256 nin0))
  replace SC := own_staKeep SC Kp258 (nsS nst_b249 (nsS nst_u256 ns0))
  replace SO := own_staKeep SO Kp258 (nsS nst_b249 (nsS nst_u256 ns0))
  replace Vo := Vo.keep Kp258 (ninS ne_ao_b249 (ninS ne_ao_u256 nin0))
  replace ST := own_staKeep ST Kp258 (nsS nst_b249 (nsS nst_u256 ns0))
  replace Vt := Vt.keep Kp258 (ninS ne_at__b249 (ninS ne_at__u256 nin0))
  replace KK := KK.trans Kp258 (allS (Or.inr sz_b249) (allS mk_u256 all0))
  replace Es253 := Es253.keep Kp258
  replace Fc253 := Fc253.keep Kp258 (ninS (Ne.symm nl_b249_253.1) (ninS ne_a253_u256 nin0))
  replace Fv253 := Fv253.keep Kp258 (ninS (Ne.symm nl_b249_253.1) (ninS ne_a253_u256 nin0))
  replace Vb253 := Vb253.keep Kp258 (ninS (Ne.symm nl_b249_253.2) (ninS ne_b253_u256 nin0))
  replace Es256 := Es256.keep Kp258
  replace Eb256 := Eb256.keep Kp258
  replace hkS := Nat.le_trans hkS Kp258.1
  replace Es257 := Es257.keep Kp258
  replace Fc257 := Fc257.keep Kp258 (ninS (Ne.symm nl_b249_257.1) (ninS (Ne.symm nl_u256_257.1) nin0))
  replace Fv257 := Fv257.keep Kp258 (ninS (Ne.symm nl_b249_257.1) (ninS (Ne.symm nl_u256_257.1) nin0))
  replace Vb257 := Vb257.keep Kp258 (ninS (Ne.symm nl_b249_257.2) (ninS (Ne.symm nl_u256_257.2) nin0))
  obtain ⟨Es258, Fv258, Fc258, Fn258, Eb258, Vb258, hz258, hn258, hle258⟩ := Bq258
  refine own_of (U' := (T258.setTop (mkF m 31 #[.val (.ref a1)] [(.ref b249)]))) (fun _ k => st258.trans k) ?_
  refine own_aloadN X258 hx hby d10_31 rfl rfl ?_
  obtain ⟨T259, X259, e259, st259⟩ := getF X258 hx hZ hown (host := "") (Or.inl (own_w hw 53 rfl)) Via.refl rfl Gm (g := (mkF m 32 #[.val (.ref a1)] [(.ref a1), (.ref b249)])) rfl rfl (hb hby d10_32)
  refine own_of (U' := (T259.setTop (mkF m 35 #[.val (.ref a1)] [w4, (.ref b249)]))) (st259) ?_
  obtain ⟨cq260, kq260, q260a, q260b, q260c⟩ := isOf hZ e259 Es258
  obtain ⟨_, _, ⟨T260, L260, k260, n260⟩, -, X260, ⟨Lc260, hQ260, l260, y260, z260⟩, st260⟩ := X259.virtualBack hx (y := mN_18) (z := mN_18) hown (mvT hZ (own_w hw 78 rfl)) (mvT hZ (own_w hw 79 rfl)) (notFace_of_selects (args := #[]) (mvT hZ (own_w hw 81 rfl))) (mvT hZ (own_w hw 81 rfl)) (mvT hZ (own_w hw 80 rfl)) (by decide) (backOf (W := 0) (rmsx l Z a0 hw [] b249 u258 ku258 zu258 (nu256 + (2 : Int32)) ((((([] : List Int32) ++ cs) ++ own_co) ++ own_num p3) ++ own_cs) w4 ms n1 g1 T258.heap n0 Z0 ⟨Es258, Fv258, Fc258, Fn258, Eb258, Vb258, hz258, hn258, hle258⟩ O4 (by simp only [List.length_append, List.length_nil, own_col, own_csl]; omega) g_b249 g_u258 ne_b249_u258 (Nat.le_trans hn1 sz_b249) (Nat.le_trans hn1 ((mk_u258).resolve_left (fun q => nomatch q))) SC hg1) hZ (own_w hw 82 rfl) (own_w hw 62 rfl) (by decide) (by decide)) q260a q260c (g := (mkF m 35 #[.val (.ref a1)] [w4, (.ref b249)])) rfl (by rw [hml]; rfl) (Steps.refl _) (argsL := [w4]) (rest := []) (lenOf pd_26 rfl) rfl (by show 2 * 0 + _ ≤ _; exact Nat.le_of_eq rfl) (hb hby d10_35) (fun _ _ => ⟨rfl, e259, (by decide : 10 + 1 ≤ _), (by decide : 176 + 34 ≤ _)⟩)
  dsimp only [Pt.U, Pt.locs, Pt.cells, Pt.slots] at X260 l260 y260 z260 st260 hQ260
  rw [l260, y260, z260] at X260
  obtain ⟨rfl, Nq260, Kp260, u260, ku260, zu260, nu260, ho260, Bq260⟩ := hQ260
  have sf_u260 := own_sfor ho260 sf_u258
  have ne_a1_u260 : a1 ≠ u260 := own_neor ho260 ne_a1_u258 E1.lt
  have ne_ao_u260 : ao ≠ u260 := own_neor ho260 ne_ao_u258 Vo.lt
  have ne_at__u260 : at_ ≠ u260 := own_neor ho260 ne_at__u258 Vt.lt
  have ne_a253_u260 : a253 ≠ u260 := own_neor ho260 ne_a253_u258 Es253.lt
  have ne_b253_u260 : b253 ≠ u260 := own_neor ho260 ne_b253_u258 Vb253.lt
  have ne_a257_u260 : a257 ≠ u260 := own_neor ho260 ne_a257_u258 Es257.lt
  have ne_b257_u260 : b257 ≠ u260 := own_neor ho260 ne_b257_u258 Vb257.lt
  have ne_b249_u260 : b249 ≠ u260 := own_neor ho260 ne_b249_u258 Es258.lt
  have g_u260 : n0 ≤ u260 := ho260.elim (fun q => by rw [← q]; exact g_u258) (fun q => Nat.le_trans Z0 q)
  have mk_u260 : u260 ∈ ([] : List Addr) ∨ h0.size ≤ u260 := ho260.elim (fun q => by rw [← q]; exact mk_u258) (fun q => Or.inr (Nat.le_trans KK.1 q))
  have N260 := Fr.app N258 Nq260
  have nst_b249 := Es258.nostat
  have nst_u258 := Eb258.nostat
  have sfk : ∀ x ∈ [b249, u258], Safe Z consts_1 _ _ x := (sfS sf_b249 (sfS sf_u258 sf0))
  replace sf_b249 := Safe.keep Kp260 sfk HH sf_b249
  replace sf_u256 := Safe.keep Kp260 sfk HH sf_u256
  replace sf_u258 := Safe.keep Kp260 sfk HH sf_u258
  replace sf_u260 := Safe.keep Kp260 sfk HH sf_u260
  replace HH := HH.keep Kp260 sfk
  replace O2 := own_OSkeep O2 Kp260 (allS (Nat.le_trans hn1 sz_b249) (allS (Nat.le_trans hn1 ((mk_u258).resolve_left (fun q => nomatch q))) all0))
  replace O4 := own_OSkeep O4 Kp260 (allS (Nat.le_trans hn1 sz_b249) (allS (Nat.le_trans hn1 ((mk_u258).resolve_left (fun q => nomatch q))) all0))
  replace Z0 := Nat.le_trans Z0 Kp260.1
  replace E1 := E1.keep Kp260
  replace Gf := Gf.keep Kp260 (ninS ne_a1_b249 (ninS ne_a1_u258 nin0))
  replace Gl := Gl.keep Kp260 (ninS ne_a1_b249 (ninS ne_a1_u258 nin0))
  replace Gm := Gm.keep Kp260 (ninS ne_a1_b249 (ninS ne_a1_u258 nin0))
  replace SC := own_staKeep SC Kp260 (nsS nst_b249 (nsS nst_u258 ns0))
  replace SO := own_staKeep SO Kp260 (nsS nst_b249 (nsS nst_u258 ns0))
  replace Vo := Vo.keep Kp260 (ninS ne_ao_b249 (ninS ne_ao_u258 nin0))
  replace ST := own_staKeep ST Kp260 (nsS nst_b249 (nsS nst_u258 ns0))
  replace Vt := Vt.keep Kp260 (ninS ne_at__b249 (ninS ne_at__u258 nin0))
  replace KK := KK.trans Kp260 (allS (Or.inr sz_b249) (allS mk_u258 all0))
  replace Es253 := Es253.keep Kp260
  replace Fc253 := Fc253.keep Kp260 (ninS (Ne.symm nl_b249_253.1) (ninS ne_a253_u258 nin0))
  replace Fv253 := Fv253.keep Kp260 (ninS (Ne.symm nl_b249_253.1) (ninS ne_a253_u258 nin0))
  replace Vb253 := Vb253.keep Kp260 (ninS (Ne.symm nl_b249_253.2) (ninS ne_b253_u258 nin0))
  replace hkS := Nat.le_trans hkS Kp260.1
  replace Es257 := Es257.keep Kp260
  replace Fc257 := Fc257.keep Kp260 (ninS (Ne.symm nl_b249_257.1) (ninS ne_a257_u258 nin0))
  replace Fv257 := Fv257.keep Kp260 (ninS (Ne.symm nl_b249_257.1) (ninS ne_a257_u258 nin0))
  replace Vb257 := Vb257.keep Kp260 (ninS (Ne.symm nl_b249_257.2) (ninS ne_b257_u258 nin0))
  replace Es258 := Es258.keep Kp260
  replace Eb258 := Eb258.keep Kp260
  obtain ⟨Es260, Fv260, Fc260, Fn260, Eb260, Vb260, hz260, hn260, hle260⟩ := Bq260
  refine own_of (U' := (T260.setTop (mkF m 38 #[.val (.ref a1)] [(.ref b249)]))) (fun _ k => st260.trans k) ?_
  obtain ⟨cq261, kq261, q261a, q261b, q261c⟩ := isOf hZ rfl Es260
  obtain ⟨_, _, ⟨T261, L261, k261, n261⟩, -, X261, ⟨Lc261, hQ261, l261, y261, z261⟩, st261⟩ := X260.virtualBack hx (y := mN_25) (z := mN_25) hown (mvT hZ (own_w hw 149 rfl)) (mvT hZ (own_w hw 150 rfl)) (notFace_of_selects (args := #[]) (mvT hZ (own_w hw 152 rfl))) (mvT hZ (own_w hw 152 rfl)) (mvT hZ (own_w hw 151 rfl)) (by decide) (backOf (W := 0) (rmts l Z a0 hw [] g1 b249 u260 ku260 zu260 nu260 (((((([] : List Int32) ++ cs) ++ own_co) ++ own_num p3) ++ own_cs) ++ ms) T260.heap n0 Z0 ⟨Es260, Fv260, Fc260, Fn260, Eb260, Vb260, hz260, hn260, hle260⟩ SC hg1 ne_b249_u260) hZ (own_w hw 153 rfl) (own_w hw 62 rfl) (by decide) (by decide)) q261a q261c (g := (mkF m 38 #[.val (.ref a1)] [(.ref b249)])) rfl (by rw [hml]; rfl) (Steps.refl _) (argsL := []) (rest := []) (lenOf pd_28 rfl) rfl (by show 2 * 0 + _ ≤ _; exact Nat.le_of_eq rfl) (hb hby d10_38) (fun _ _ => ⟨rfl, rfl, (by decide : 11 + 2 ≤ _), (by decide : 210 + 38 ≤ _)⟩)
  dsimp only [Pt.U, Pt.locs, Pt.cells, Pt.slots] at X261 l261 y261 z261 st261 hQ261
  rw [l261, y261, z261] at X261
  obtain ⟨a261, u261, ku261, rfl, Nq261, Kp261, ga261, gq261, Es261, Cq261, Fq261, Vq261⟩ := hQ261
  have g_a261 : n0 ≤ a261 := Nat.le_trans Z0 ga261
  have sz_a261 : h0.size ≤ a261 := Nat.le_trans KK.1 ga261
  have ne_a1_a261 : a1 ≠ a261 := Nat.ne_of_lt (Nat.lt_of_lt_of_le E1.lt ga261)
  have ne_ao_a261 : ao ≠ a261 := Nat.ne_of_lt (Nat.lt_of_lt_of_le Vo.lt ga261)
  have ne_at__a261 : at_ ≠ a261 := Nat.ne_of_lt (Nat.lt_of_lt_of_le Vt.lt ga261)
  have ne_a253_a261 : a253 ≠ a261 := Nat.ne_of_lt (Nat.lt_of_lt_of_le Es253.lt ga261)
  have ne_b253_a261 : b253 ≠ a261 := Nat.ne_of_lt (Nat.lt_of_lt_of_le Vb253.lt ga261)
  have ne_a257_a261 : a257 ≠ a261 := Nat.ne_of_lt (Nat.lt_of_lt_of_le Es257.lt ga261)
  have ne_b257_a261 : b257 ≠ a261 := Nat.ne_of_lt (Nat.lt_of_lt_of_le Vb257.lt ga261)
  have ne_b249_a261 : b249 ≠ a261 := Nat.ne_of_lt (Nat.lt_of_lt_of_le Es260.lt ga261)
  have ne_u260_a261 : u260 ≠ a261 := Nat.ne_of_lt (Nat.lt_of_lt_of_le Eb260.lt ga261)
  have g_u261 : n0 ≤ u261 := Nat.le_trans Z0 gq261
  have sz_u261 : h0.size ≤ u261 := Nat.le_trans KK.1 gq261
  have ne_a1_u261 : a1 ≠ u261 := Nat.ne_of_lt (Nat.lt_of_lt_of_le E1.lt gq261)
  have ne_ao_u261 : ao ≠ u261 := Nat.ne_of_lt (Nat.lt_of_lt_of_le Vo.lt gq261)
  have ne_at__u261 : at_ ≠ u261 := Nat.ne_of_lt (Nat.lt_of_lt_of_le Vt.lt gq261)
  have ne_a253_u261 : a253 ≠ u261 := Nat.ne_of_lt (Nat.lt_of_lt_of_le Es253.lt gq261)
  have ne_b253_u261 : b253 ≠ u261 := Nat.ne_of_lt (Nat.lt_of_lt_of_le Vb253.lt gq261)
  have ne_a257_u261 : a257 ≠ u261 := Nat.ne_of_lt (Nat.lt_of_lt_of_le Es257.lt gq261)
  have ne_b257_u261 : b257 ≠ u261 := Nat.ne_of_lt (Nat.lt_of_lt_of_le Vb257.lt gq261)
  have ne_b249_u261 : b249 ≠ u261 := Nat.ne_of_lt (Nat.lt_of_lt_of_le Es260.lt gq261)
  have ne_u260_u261 : u260 ≠ u261 := Nat.ne_of_lt (Nat.lt_of_lt_of_le Eb260.lt gq261)
  have N261 := Fr.app N260 Nq261
  replace sf_b249 := Safe.keep Kp261 sf0 HH sf_b249
  replace sf_u256 := Safe.keep Kp261 sf0 HH sf_u256
  replace sf_u258 := Safe.keep Kp261 sf0 HH sf_u258
  replace sf_u260 := Safe.keep Kp261 sf0 HH sf_u260
  have sf_a261 := Safe.keep Kp261 sf0 HH (Safe.new (Z := Z) ga261)
  have sf_u261 := Safe.keep Kp261 sf0 HH (Safe.new (Z := Z) gq261)
  replace HH := HH.keep Kp261 sf0
  replace O2 := own_OSkeep O2 Kp261 all0
  replace O4 := own_OSkeep O4 Kp261 all0
  replace Z0 := Nat.le_trans Z0 Kp261.1
  replace E1 := E1.keep Kp261
  replace Gf := Gf.keep Kp261 nin0
  replace Gl := Gl.keep Kp261 nin0
  replace Gm := Gm.keep Kp261 nin0
  replace SC := own_staKeep SC Kp261 ns0
  replace SO := own_staKeep SO Kp261 ns0
  replace Vo := Vo.keep Kp261 nin0
  replace ST := own_staKeep ST Kp261 ns0
  replace Vt := Vt.keep Kp261 nin0
  replace KK := KK.trans Kp261 all0
  replace Es253 := Es253.keep Kp261
  replace Fc253 := Fc253.keep Kp261 nin0
  replace Fv253 := Fv253.keep Kp261 nin0
  replace Vb253 := Vb253.keep Kp261 nin0
  replace hkS := Nat.le_trans hkS Kp261.1
  replace Es257 := Es257.keep Kp261
  replace Fc257 := Fc257.keep Kp261 nin0
  replace Fv257 := Fv257.keep Kp261 nin0
  replace Vb257 := Vb257.keep Kp261 nin0
  replace Es260 := Es260.keep Kp261
  replace Fv260 := Fv260.keep Kp261 nin0
  replace Fc260 := Fc260.keep Kp261 nin0
  replace Fn260 := Fn260.keep Kp261 nin0
  replace Eb260 := Eb260.keep Kp261
  replace Vb260 := Vb260.keep Kp261 nin0
  refine own_of (U' := (T261.setTop (mkF m 41 #[.val (.ref a1)] [(.ref a261)]))) (fun _ k => st261.trans k) ?_
  exact own_retAW X261 hx hlk hS hkS Bd.returns rfl rfl (hb hby d10_41) (by decide) (by decide) (⟨nu260, hn260, a261, u261, ku261, rfl, N261, KK, sz_a261, sz_u261, Es261, Cq261, Fq261, Vq261⟩)
def own_c0 (p : Int32) : Int32 := nar .char ((p &&& (255 : Int32)).toUInt32.toUInt16.toUInt32.toInt32)
def own_c1 (p : Int32) : Int32 := nar .char (((XT.ushr p (8 : Int32)) &&& (255 : Int32)).toUInt32.toUInt16.toUInt32.toInt32)
/-- the signs that make and part lay for k -/
def own_pt (k p : Int32) : List Int32 := if k = 3 then [110, 117, 108, 108] else if k = 0 then [] else if k = 1 then [own_c0 p] else [own_c0 p, own_c1 p]
def own_pl (k : Int32) : Int32 := if k = 3 then 4 else k
theorem own_and3 (x : Int32) : (x &&& (3 : Int32)) = 0 ∨ (x &&& (3 : Int32)) = 1 ∨ (x &&& (3 : Int32)) = 2 ∨ (x &&& (3 : Int32)) = 3 := by
  have h := c_mask x 3 2 (by decide) (by decide)
  have c0 : (0 : Int32).toInt = 0 := by decide
  have c1 : (1 : Int32).toInt = 1 := by decide
  have c2 : (2 : Int32).toInt = 2 := by decide
  have c3 : (3 : Int32).toInt = 3 := by decide
  rw [← Int32.toInt_inj, ← Int32.toInt_inj, ← Int32.toInt_inj, ← Int32.toInt_inj, h, c0, c1, c2, c3, show ((2 ^ 2 : Nat) : Int) = 4 from rfl]
  omega
theorem own_m255 (x : Int32) : 0 ≤ (nar .char ((x &&& (255 : Int32)).toUInt32.toUInt16.toUInt32.toInt32)).toInt ∧ (nar .char ((x &&& (255 : Int32)).toUInt32.toUInt16.toUInt32.toInt32)).toInt ≤ 255 := by
  have e : nar .char ((x &&& (255 : Int32)).toUInt32.toUInt16.toUInt32.toInt32) = (x &&& (255 : Int32)).toUInt32.toUInt16.toUInt32.toInt32 := own_nar2 _
  rw [e]
  have h := c_mask x 255 8 (by decide) (by decide)
  have h2 := c_i2c (x &&& (255 : Int32))
  rw [h, show ((2 ^ 8 : Nat) : Int) = 256 from rfl] at h2
  omega
theorem own_pt_bd (k p : Int32) : ∀ c ∈ own_pt k p, 0 ≤ c.toInt ∧ c.toInt ≤ 255 := by
  have a0 := own_m255 p
  have a1 := own_m255 (XT.ushr p (8 : Int32))
  unfold own_pt
  intro c hc
  split at hc
  · simp only [List.mem_cons, List.not_mem_nil, or_false] at hc
    rcases hc with rfl | rfl | rfl | rfl <;> decide
  · split at hc
    · cases hc
    · split at hc
      · simp only [List.mem_cons, List.not_mem_nil, or_false] at hc; subst hc; exact a0
      · simp only [List.mem_cons, List.not_mem_nil, or_false] at hc
        rcases hc with rfl | rfl
        · exact a0
        · exact a1
theorem own_pt_len (k p : Int32) (hk : k = 0 ∨ k = 1 ∨ k = 2 ∨ k = 3) : (own_pl k).toInt = (own_pt k p).length ∧ (own_pt k p).length ≤ 4 := by
  rcases hk with rfl | rfl | rfl | rfl
  · exact ⟨rfl, Nat.le_of_ble_eq_true rfl⟩
  · exact ⟨rfl, Nat.le_of_ble_eq_true rfl⟩
  · exact ⟨rfl, Nat.le_of_ble_eq_true rfl⟩
  · exact ⟨rfl, Nat.le_of_ble_eq_true rfl⟩
theorem own_not255 {c : Int32} (h : 0 ≤ c.toInt ∧ c.toInt ≤ 255) : ¬ ((255 : Int32) < c) := by rw [own_ltI, show (255 : Int32).toInt = 255 by decide]; omega
def own_nil : List Int32 := []
theorem d3_8 : decode jdk_42_method_149_code 8 = .ok (.aload_n 0, 1) := by decide +kernel
theorem d3_9 : decode jdk_42_method_149_code 9 = .ok (.ldc 7, 2) := by decide +kernel
theorem d3_11 : decode jdk_42_method_149_code 11 = .ok (.getfield 9, 3) := by decide +kernel
theorem d3_14 : decode jdk_42_method_149_code 14 = .ok (.putfield 9, 3) := by decide +kernel
theorem d3_17 : decode jdk_42_method_149_code 17 = .ok (.aload_n 0, 1) := by decide +kernel
theorem d3_18 : decode jdk_42_method_149_code 18 = .ok (.ldc 7, 2) := by decide +kernel
theorem d3_20 : decode jdk_42_method_149_code 20 = .ok (.getfield 15, 3) := by decide +kernel
theorem d3_23 : decode jdk_42_method_149_code 23 = .ok (.putfield 15, 3) := by decide +kernel
theorem d3_26 : decode jdk_42_method_149_code 26 = .ok (.return_, 1) := by decide +kernel
theorem ef_sv0 (m : MethodId) (x0 : Addr) (x1 : Addr) : entryFrame m #[(.ref x0), (.ref x1), (.int (0 : Int32)), (.int (0 : Int32)), .null] 6 = mkF m 0 #[.val (.ref x0), .val (.ref x1), .val (.int (0 : Int32)), .val (.int (0 : Int32)), .val .null, .unset] [] := by first | (simp [entryFrame, mkF, argsToLocals, Value.category]; done) | rfl
def Qe0 (Z : State) (a1 : Addr) (h0 : Heap) (n0 : Nat) (v : Option Value) (h : Heap) (L : List Loc) : Prop := v = none ∧ Fr n0 L ∧ Keep h0 h [a1] ∧ ∃ (b : Addr) (kb : ClassId), Fld Z h a1 "java/lang/String" "coder" "B" (.int (0 : Int32)) ∧ Fld Z h a1 "java/lang/String" "value" "[B" (.ref b) ∧ Arv Z h b kb .byte (0 : Int32) (List.map Value.int ([] : List Int32)) (.int (0 : Int32))
set_option maxRecDepth 65536 in
set_option maxHeartbeats 40000000 in
theorem rmsv0 (l : Launch) (Z : State) (a0 : Array Value) (hw : ∀ d ∈ tables_1, d.before a0 Z = true) (ws : List Jvm.Cond) (a1 a2 : Addr) (kc : ClassId) (h0 : Heap) (n0 : Nat) (Z0 : n0 ≤ h0.size) (hEL : EW Z a0 consts_1) (E1 : Exa Z h0 a1 "java/lang/String") (Fc : Fld Z h0 a1 "java/lang/String" "coder" "B" (.int (0 : Int32))) (Fv : Fld Z h0 a1 "java/lang/String" "value" "[B" .null) (Vc : Arv Z h0 a2 kc .char (0 : Int32) [] (.int (0 : Int32))) (g_a1 : n0 ≤ a1) :
    MetFree l mN_33 (head1 (Jvm.Cond.code mN_33 jdk_42_method_149_code 6 none :: ws) ({ frames := 1, cells := 2, slots := 4, locals := 12 } : Room)) (fun a U => a = #[(.ref a1), (.ref a2), (.int (0 : Int32)), (.int (0 : Int32)), .null] ∧ Z.Warmed39 U.vm ∧ U.heap = h0 ∧ CHv Z consts_1 U.vm h0 ∧ ∀ x ∈ [a1], Safe Z consts_1 U.vm h0 x) (fun _ _ _ _ _ => True) (fun _ U o U' => ∃ v L, o = .returned v ∧ (Qe0 Z a1 h0 n0) v U'.heap L ∧ CHr Z consts_1 U.vm U.heap U'.vm U'.heap ∧ ReturnedEndW U o U' L ({ frames := 1, cells := 2, slots := 4, locals := 12 } : Room).cells ({ frames := 1, cells := 2, slots := 4, locals := 12 } : Room).slots) := by
  refine MetFree.of_bodySF (plainFor_of_name pn_0) hisR ?_
  intro p e s m args below meth c s₁ Bd hml0 hP hK
  obtain ⟨rfl, hZ, hh, HH, SS⟩ := hP
  have hx := Bd.exec
  have hby := Bd.bytes
  have hml : c.maxLocals = 6 := hml0
  have hown : s.vm.findClass "java/lang/String" = some m.cls := findClass_of_methodNamed Bd.named
  have hnm := (name_of_methodNamed Bd.named Bd.method).1
  have hlk := Bd.notSynchronized
  have X0 : Stand p l e ({ frames := 1, cells := 2, slots := 4, locals := 12 } : Room) (s.setVm s.vm) m #[(.ref a1), (.ref a2), (.int (0 : Int32)), (.int (0 : Int32)), .null] below meth c s₁ [] 0 0 := Stand.of_body Bd
  have hS := (State.WarmedH.refl s).since 0
  have hkS : 0 ≤ h0.size := Nat.zero_le _
  replace hZ : Z.Warmed39 (s.setVm s.vm).vm := hZ
  replace hown : (s.setVm s.vm).vm.findClass "java/lang/String" = some m.cls := hown
  replace HH : CHv Z consts_1 s.vm h0 := HH
  have sf_a1 : Safe Z consts_1 s.vm h0 a1 := SS a1 (List.mem_of_getElem? (i := 0) rfl)
  have CR := CHr.refl HH
  have e0 : s₁.heap = h0 := by rw [← hh, Bd.state]; rfl
  have N0 := Fr.nil n0
  have KK := Keep.refl h0 [a1]
  show own_Ends p e below s (own_GH Z consts_1) (Qe0 Z a1 h0 n0) 2 4 (s₁.setTop (entryFrame m #[(.ref a1), (.ref a2), (.int (0 : Int32)), (.int (0 : Int32)), .null] 6))
  refine own_of (U' := (s₁.setTop (mkF m 0 #[.val (.ref a1), .val (.ref a2), .val (.int (0 : Int32)), .val (.int (0 : Int32)), .val .null, .unset] []))) (fun _ k => castTop (ef_sv0 m a1 a2) k) ?_
  refine own_aloadN X0 hx hby d3_0 rfl rfl ?_
  obtain ⟨T262, X262, e262, st262⟩ := initO X0 hx hZ hown (own_w hw 15 rfl) (own_w hw 16 rfl) (own_w hw 17 rfl) e0 (g := (mkF m 1 #[.val (.ref a1), .val (.ref a2), .val (.int (0 : Int32)), .val (.int (0 : Int32)), .val .null, .unset] [(.ref a1)])) rfl (by rw [hml]; rfl) rfl (hb hby d3_1) (by decide) (W := 0) (by show 2 * 0 + _ ≤ _; exact Nat.le_of_eq rfl) (by decide)
  refine own_of (U' := (T262.setTop (mkF m 4 #[.val (.ref a1), .val (.ref a2), .val (.int (0 : Int32)), .val (.int (0 : Int32)), .val .null, .unset] []))) (st262) ?_
  refine own_iloadN X262 hx hby d3_4 rfl ?_
  have hc5_263 : (0 : Int32) = (0 : Int32) := by decide
  refine own_ifNo X262 hx hby d3_5 ((if0 _ _).trans (teq hc5_263).2) ?_
  refine own_aloadN X262 hx hby d3_8 rfl rfl ?_
  obtain ⟨a264, T264, h264, k264, b264, kb264, X264, e264, E264, hS, hkN264, hZ, hown, Es264, Fc264, Fv264, Vb264, -, -, CH264, Lt264, Sn264, st264⟩ := ldcCH X262 hx hZ hown (own_w hw 34 rfl) (own_strAtoms hw) e262 hS hkS hEL (List.mem_of_getElem? (i := 2) rfl) HH (vs := own_nil.map Value.int) (z := (0 : Int32)) ⟨by decide +kernel, by decide +kernel⟩ (by decide) (by decide +kernel) (g := (mkF m 9 #[.val (.ref a1), .val (.ref a2), .val (.int (0 : Int32)), .val (.int (0 : Int32)), .val .null, .unset] [(.ref a1)])) rfl (hb hby d3_9) (n := 0) (by decide +kernel) (by decide) (by decide) (by decide)
  replace sf_a1 := CH264.safe E1.lt sf_a1
  have CRn := CR.trans CH264
  replace Z0 := Nat.le_trans Z0 E264.1
  replace E1 := E1.ext E264
  replace Fc := Fc.ext E264
  replace Fv := Fv.ext E264
  replace Vc := Vc.ext E264
  replace KK := KK.ext E264
  have hkS := hkN264
  have HH := CH264.1
  have CR := CRn
  have nl_a1_264 := Sn264 a1 sf_a1
  refine own_of (U' := (T264.setTop (mkF m 11 #[.val (.ref a1), .val (.ref a2), .val (.int (0 : Int32)), .val (.int (0 : Int32)), .val .null, .unset] [(.ref a264), (.ref a1)]))) (st264) ?_
  obtain ⟨T265, X265, e265, st265⟩ := getF X264 hx hZ hown (host := "") (Or.inl (own_w hw 32 rfl)) Via.refl e264 Fv264 (g := (mkF m 11 #[.val (.ref a1), .val (.ref a2), .val (.int (0 : Int32)), .val (.int (0 : Int32)), .val .null, .unset] [(.ref a264), (.ref a1)])) rfl rfl (hb hby d3_11)
  refine own_of (U' := (T265.setTop (mkF m 14 #[.val (.ref a1), .val (.ref a2), .val (.int (0 : Int32)), .val (.int (0 : Int32)), .val .null, .unset] [(.ref b264), (.ref a1)]))) (st265) ?_
  obtain ⟨T266, h266, X266, e266, W266, st266⟩ := putF X265 hx hZ hown (host := "") (Or.inl (own_w hw 32 rfl)) Via.refl e265 Fv E1 (Or.inr ⟨(own_w hw 33 rfl), rfl, hnm⟩) (own_w hw 6 rfl) (ty := (.array .byte)) (by decide) rfl rfl (g := (mkF m 14 #[.val (.ref a1), .val (.ref a2), .val (.int (0 : Int32)), .val (.int (0 : Int32)), .val .null, .unset] [(.ref b264), (.ref a1)])) rfl rfl (hb hby d3_14)
  have sfw := (sf_a1 : Safe Z consts_1 _ _ a1)
  replace sf_a1 := Safe.wr W266 sfw HH sf_a1
  replace CR := CR.trans (CHr.wr W266 sfw HH)
  replace HH := HH.wr W266 sfw
  replace Z0 := Nat.le_trans Z0 (Keep.of_wr W266).1
  replace E1 := E1.wr W266
  replace Fc := Fc.other W266 (Or.inr (slot_ne (Or.inr (own_w hw 31 rfl)) (Or.inr (own_w hw 33 rfl)) (by decide) (t := .byte) (t' := (.array .byte)) (by decide) (by decide)))
  replace Fv := Fv.same W266
  replace KK := KK.wr W266 (Or.inl (List.mem_of_getElem? (i := 0) rfl))
  replace hkS := Nat.le_trans hkS (Keep.of_wr W266).1
  replace Es264 := Es264.wr W266
  replace Fc264 := Fc264.other W266 (Or.inl (Ne.symm nl_a1_264.1))
  replace Fv264 := Fv264.other W266 (Or.inl (Ne.symm nl_a1_264.1))
  replace Vb264 := Vb264.other W266 (Ne.symm nl_a1_264.2)
  have N266 := Fr.snoc X266 N0 g_a1
  refine own_of (U' := (T266.setTop (mkF m 17 #[.val (.ref a1), .val (.ref a2), .val (.int (0 : Int32)), .val (.int (0 : Int32)), .val .null, .unset] []))) (st266) ?_
  refine own_aloadN X266 hx hby d3_17 rfl rfl ?_
  refine own_of (U' := (T266.setTop (mkF m 20 #[.val (.ref a1), .val (.ref a2), .val (.int (0 : Int32)), .val (.int (0 : Int32)), .val .null, .unset] [(.ref a264), (.ref a1)]))) (ldcAgain X266 hx hZ hown (own_w hw 34 rfl) Lt264 (g := (mkF m 18 #[.val (.ref a1), .val (.ref a2), .val (.int (0 : Int32)), .val (.int (0 : Int32)), .val .null, .unset] [(.ref a1)])) rfl (hb hby d3_18)) ?_
  obtain ⟨T267, X267, e267, st267⟩ := getF X266 hx hZ hown (host := "") (Or.inl (own_w hw 30 rfl)) Via.refl e266 Fc264 (g := (mkF m 20 #[.val (.ref a1), .val (.ref a2), .val (.int (0 : Int32)), .val (.int (0 : Int32)), .val .null, .unset] [(.ref a264), (.ref a1)])) rfl rfl (hb hby d3_20)
  refine own_of (U' := (T267.setTop (mkF m 23 #[.val (.ref a1), .val (.ref a2), .val (.int (0 : Int32)), .val (.int (0 : Int32)), .val .null, .unset] [(.int (0 : Int32)), (.ref a1)]))) (st267) ?_
  obtain ⟨T268, h268, X268, e268, W268, st268⟩ := putFN X267 hx hZ hown (own_w hw 30 rfl) Via.refl e267 Fc E1 (Or.inr ⟨(own_w hw 31 rfl), rfl, hnm⟩) (own_w hw 6 rfl) (ty := .byte) (v' := (.int (0 : Int32))) (by decide) rfl (by decide) (g := (mkF m 23 #[.val (.ref a1), .val (.ref a2), .val (.int (0 : Int32)), .val (.int (0 : Int32)), .val .null, .unset] [(.int (0 : Int32)), (.ref a1)])) rfl rfl (hb hby d3_23)
  have sfw := (sf_a1 : Safe Z consts_1 _ _ a1)
  replace sf_a1 := Safe.wr W268 sfw HH sf_a1
  replace CR := CR.trans (CHr.wr W268 sfw HH)
  replace HH := HH.wr W268 sfw
  replace Z0 := Nat.le_trans Z0 (Keep.of_wr W268).1
  replace E1 := E1.wr W268
  replace Fc := Fc.same W268
  replace Fv := Fv.other W268 (Or.inr (slot_ne (Or.inr (own_w hw 33 rfl)) (Or.inr (own_w hw 31 rfl)) (by decide) (t := (.array .byte)) (t' := .byte) (by decide) (by decide)))
  replace KK := KK.wr W268 (Or.inl (List.mem_of_getElem? (i := 0) rfl))
  replace hkS := Nat.le_trans hkS (Keep.of_wr W268).1
  replace Es264 := Es264.wr W268
  replace Fc264 := Fc264.other W268 (Or.inl (Ne.symm nl_a1_264.1))
  replace Fv264 := Fv264.other W268 (Or.inl (Ne.symm nl_a1_264.1))
  replace Vb264 := Vb264.other W268 (Ne.symm nl_a1_264.2)
  have N268 := Fr.snoc X268 N266 g_a1
  refine own_of (U' := (T268.setTop (mkF m 26 #[.val (.ref a1), .val (.ref a2), .val (.int (0 : Int32)), .val (.int (0 : Int32)), .val .null, .unset] []))) (st268) ?_
  exact own_ret0H X268 hx hlk hS (by rw [e268]; exact hkS) (by rw [hh, e268]; exact CR.trans (CHv.at X268 hZ hEL HH)) Bd.returns (hb hby d3_26) (by decide) (by decide) (by rw [e268]; exact ⟨rfl, N268, KK, b264, kb264, Fc, Fv, Vb264⟩)
theorem ef_si0 (m : MethodId) (x0 : Addr) (x1 : Addr) : entryFrame m #[(.ref x0), (.ref x1)] 2 = mkF m 0 #[.val (.ref x0), .val (.ref x1)] [] := by first | (simp [entryFrame, mkF, argsToLocals, Value.category]; done) | rfl
set_option maxRecDepth 65536 in
set_option maxHeartbeats 40000000 in
theorem rmsi0 (l : Launch) (Z : State) (a0 : Array Value) (hw : ∀ d ∈ tables_1, d.before a0 Z = true) (ws : List Jvm.Cond) (a1 a2 : Addr) (kc : ClassId) (h0 : Heap) (n0 : Nat) (Z0 : n0 ≤ h0.size) (hEL : EW Z a0 consts_1) (E1 : Exa Z h0 a1 "java/lang/String") (Fc : Fld Z h0 a1 "java/lang/String" "coder" "B" (.int (0 : Int32))) (Fv : Fld Z h0 a1 "java/lang/String" "value" "[B" .null) (Vc : Arv Z h0 a2 kc .char (0 : Int32) [] (.int (0 : Int32))) (g_a1 : n0 ≤ a1) :
    MetFree l mN_34 (head1 (Jvm.Cond.code mN_34 jdk_42_method_3_code 2 none :: ws) ({ frames := 2, cells := 2, slots := 4, locals := 29 } : Room)) (fun a U => a = #[(.ref a1), (.ref a2)] ∧ Z.Warmed39 U.vm ∧ U.heap = h0 ∧ CHv Z consts_1 U.vm h0 ∧ ∀ x ∈ [a1], Safe Z consts_1 U.vm h0 x) (fun _ _ _ _ _ => True) (fun _ U o U' => ∃ v L, o = .returned v ∧ (Qe0 Z a1 h0 n0) v U'.heap L ∧ CHr Z consts_1 U.vm U.heap U'.vm U'.heap ∧ ReturnedEndW U o U' L ({ frames := 2, cells := 2, slots := 4, locals := 29 } : Room).cells ({ frames := 2, cells := 2, slots := 4, locals := 29 } : Room).slots) := by
  refine MetFree.of_bodySF (plainFor_of_name pn_0) hisR ?_
  intro p e s m args below meth c s₁ Bd hml0 hP hK
  obtain ⟨rfl, hZ, hh, HH, SS⟩ := hP
  have hx := Bd.exec
  have hby := Bd.bytes
  have hml : c.maxLocals = 2 := hml0
  have hown : s.vm.findClass "java/lang/String" = some m.cls := findClass_of_methodNamed Bd.named
  have hnm := (name_of_methodNamed Bd.named Bd.method).1
  have hlk := Bd.notSynchronized
  have X0 : Stand p l e ({ frames := 2, cells := 2, slots := 4, locals := 29 } : Room) (s.setVm s.vm) m #[(.ref a1), (.ref a2)] below meth c s₁ [] 0 0 := Stand.of_body Bd
  have hS := (State.WarmedH.refl s).since 0
  have hkS : 0 ≤ h0.size := Nat.zero_le _
  replace hZ : Z.Warmed39 (s.setVm s.vm).vm := hZ
  replace hown : (s.setVm s.vm).vm.findClass "java/lang/String" = some m.cls := hown
  replace HH : CHv Z consts_1 s.vm h0 := HH
  have sf_a1 : Safe Z consts_1 s.vm h0 a1 := SS a1 (List.mem_of_getElem? (i := 0) rfl)
  have CR := CHr.refl HH
  have e0 : s₁.heap = h0 := by rw [← hh, Bd.state]; rfl
  have N0 := Fr.nil n0
  have KK := Keep.refl h0 [a1]
  show own_Ends p e below s (own_GH Z consts_1) (Qe0 Z a1 h0 n0) 2 4 (s₁.setTop (entryFrame m #[(.ref a1), (.ref a2)] 2))
  refine own_of (U' := (s₁.setTop (mkF m 0 #[.val (.ref a1), .val (.ref a2)] []))) (fun _ k => castTop (ef_si0 m a1 a2) k) ?_
  refine own_aloadN X0 hx hby d2_0 rfl rfl ?_
  refine own_aloadN X0 hx hby d2_1 rfl rfl ?_
  refine own_iconst X0 hx hby 0 d2_2 rfl ?_
  refine own_aloadN X0 hx hby d2_3 rfl rfl ?_
  obtain ⟨cl269, Ar269, qa269, Sa269, Na269, -, -⟩ := id Vc
  have al269 := X0.arraylength hx (by rw [e0]; exact Ar269.1) (State.isArrayOf_alike hZ.alike Ar269.2.1) (g := (mkF m 4 #[.val (.ref a1), .val (.ref a2)] [(.ref a2), (.int (0 : Int32)), (.ref a2), (.ref a1)])) rfl rfl (hb hby d2_4)
  rw [len_of Sa269 Na269] at al269
  refine own_of (U' := (s₁.setTop (mkF m 5 #[.val (.ref a1), .val (.ref a2)] [(.int (0 : Int32)), (.int (0 : Int32)), (.ref a2), (.ref a1)]))) (al269) ?_
  refine own_aconstNull X0 hx hby d2_5 ?_
  obtain ⟨_, _, ⟨T270, L270, k270, n270⟩, -, X270, sn270, gr270, ⟨Lc270, hQ270, l270, y270, z270, CH270⟩, st270⟩ := X0.specialBackS hx (y := mN_33) rfl hown (mvT hZ (own_w hw 11 rfl)) (mvT hZ (own_w hw 12 rfl)) (mvT hZ (own_w hw 14 rfl)) (by decide) (own_backSHs (W := 0) (rmsv0 l Z a0 hw [] a1 a2 kc h0 n0 Z0 hEL E1 Fc Fv Vc g_a1) hZ (own_w hw 14 rfl) (own_w hw 7 rfl) (by decide) (by decide) hEL HH (allS ⟨E1.lt, sf_a1⟩ all0)) (g := (mkF m 6 #[.val (.ref a1), .val (.ref a2)] [.null, (.int (0 : Int32)), (.int (0 : Int32)), (.ref a2), (.ref a1)])) rfl (by rw [hml]; rfl) (Steps.refl _) (a := a1) (argsL := [(.ref a2), (.int (0 : Int32)), (.int (0 : Int32)), .null]) (rest := []) (lenOf pd_23 rfl) rfl (by show 2 * 0 + _ ≤ _; exact Nat.le_of_eq rfl) (hb hby d2_6) (fun _ _ => ⟨rfl, e0, (by decide : 0 + 2 ≤ _), (by decide : 0 + 4 ≤ _)⟩)
  dsimp only [Pt.U, Pt.locs, Pt.cells, Pt.slots] at X270 sn270 gr270 l270 y270 z270 st270 hQ270 CH270
  rw [l270, y270, z270] at X270
  obtain ⟨X270, hS, hZ, hown⟩ := rebS hS (by rw [e0]; exact hkS) X270 sn270 gr270 hZ hown
  replace hkS : T270.heap.size ≤ T270.heap.size := Nat.le_refl _
  replace sf_a1 := CH270.safe E1.lt sf_a1
  replace CR := CR.trans CH270
  obtain ⟨rfl, Nq270, Kp270, u270, ku270, Cq270, Fq270, Vq270⟩ := hQ270
  have N270 := Fr.app N0 Nq270
  replace Z0 := Nat.le_trans Z0 Kp270.1
  replace E1 := E1.keep Kp270
  replace KK := KK.trans Kp270 (allS (Or.inl (List.mem_of_getElem? (i := 0) rfl)) all0)
  replace HH := CH270.1
  refine own_of (U' := (T270.setTop (mkF m 9 #[.val (.ref a1), .val (.ref a2)] []))) (fun _ k => st270.trans k) ?_
  exact own_ret0H X270 hx hlk hS hkS (by rw [hh]; exact CR.trans (CHv.at X270 hZ hEL HH)) Bd.returns (hb hby d2_9) (by decide) (by decide) (⟨rfl, N270, KK, u270, ku270, Cq270, Fq270, Vq270⟩)
theorem own_all1 {x : Int32} (h : 0 ≤ x.toInt ∧ x.toInt ≤ 255) : ∀ c ∈ [x], ¬ ((255 : Int32) < c) := fun c hc => by
  rw [List.mem_singleton.mp hc]; exact own_not255 h
theorem own_all2 {x y : Int32} (h : 0 ≤ x.toInt ∧ x.toInt ≤ 255) (h2 : 0 ≤ y.toInt ∧ y.toInt ≤ 255) : ∀ c ∈ [x, y], ¬ ((255 : Int32) < c) := fun c hc => by
  rcases List.mem_cons.mp hc with rfl | hc
  · exact own_not255 h
  · exact own_all1 h2 c hc
def Qmk (Z : State) (k p : Int32) (h0 : Heap) (n0 : Nat) (v : Option Value) (h : Heap) (L : List Loc) : Prop := ∃ w, v = some w ∧ Fr n0 L ∧ Keep h0 h [] ∧ own_OS Z h h.size w (List.map own_b8 (own_pt k p))
abbrev mN_40 : MethodName := ⟨"com/example/handover/handover/ProblemToStringPinLaw", "make", "(II)Ljava/lang/String;"⟩
theorem pd_29 : parseMethodDescriptor "([C)V" = some ⟨[(.array .char)], none⟩ := by decide +kernel
theorem d1_0 : decode method_2_code 0 = .ok (.iload_n 0, 1) := by decide +kernel
theorem d1_1 : decode method_2_code 1 = .ok (.iconst 3, 1) := by decide +kernel
theorem d1_2 : decode method_2_code 2 = .ok (.if_icmp .ne 5, 3) := by decide +kernel
theorem d1_7 : decode method_2_code 7 = .ok (.iload_n 0, 1) := by decide +kernel
theorem d1_8 : decode method_2_code 8 = .ok (.newarray .char, 2) := by decide +kernel
theorem d1_10 : decode method_2_code 10 = .ok (.astore_n 2, 1) := by decide +kernel
theorem d1_11 : decode method_2_code 11 = .ok (.iload_n 0, 1) := by decide +kernel
theorem d1_12 : decode method_2_code 12 = .ok (.iconst 1, 1) := by decide +kernel
theorem d1_13 : decode method_2_code 13 = .ok (.if_icmp .lt 12, 3) := by decide +kernel
theorem d1_25 : decode method_2_code 25 = .ok (.iload_n 0, 1) := by decide +kernel
theorem d1_26 : decode method_2_code 26 = .ok (.iconst 2, 1) := by decide +kernel
theorem d1_27 : decode method_2_code 27 = .ok (.if_icmp .lt 15, 3) := by decide +kernel
theorem d1_42 : decode method_2_code 42 = .ok (.new 7, 3) := by decide +kernel
theorem d1_45 : decode method_2_code 45 = .ok (.dup, 1) := by decide +kernel
theorem d1_46 : decode method_2_code 46 = .ok (.aload_n 2, 1) := by decide +kernel
theorem d1_47 : decode method_2_code 47 = .ok (.invokespecial 9, 3) := by decide +kernel
theorem d1_50 : decode method_2_code 50 = .ok (.areturn, 1) := by decide +kernel
theorem pn_10 : plainName "com/example/handover/handover/ProblemToStringPinLaw" = true := by first | (simp [plainName, overriddenIn]; done) | decide +kernel
theorem ef_mk0 (m : MethodId) (x1 : Int32) : entryFrame m #[(.int (0 : Int32)), (.int x1)] 3 = mkF m 0 #[.val (.int (0 : Int32)), .val (.int x1), .unset] [] := by first | (simp [entryFrame, mkF, argsToLocals, Value.category]; done) | rfl
set_option maxRecDepth 65536 in
set_option maxHeartbeats 40000000 in
theorem rmmk0 (l : Launch) (Z : State) (a0 : Array Value) (hw : ∀ d ∈ tables_1, d.before a0 Z = true) (ws : List Jvm.Cond) (p2 g1 : Int32) (h0 : Heap) (n0 : Nat) (Z0 : n0 ≤ h0.size) (hEL : EW Z a0 consts_1) (SC : Sta Z h0 "java/lang/String" "COMPACT_STRINGS" "Z" (.int g1)) (hg1 : ¬ (g1 = (0 : Int32))) :
    MetFree l mN_40 (head1 (Jvm.Cond.code mN_40 method_2_code 3 (some (.object "java/lang/String")) :: ws) ({ frames := 4, cells := 4, slots := 40, locals := 66 } : Room)) (fun a U => a = #[(.int (0 : Int32)), (.int p2)] ∧ Z.Warmed39 U.vm ∧ U.heap = h0 ∧ CHv Z consts_1 U.vm h0) (fun _ _ _ _ _ => True) (fun _ U o U' => ∃ v L, o = .returned v ∧ (Qmk Z (0 : Int32) p2 h0 n0) v U'.heap L ∧ CHr Z consts_1 U.vm U.heap U'.vm U'.heap ∧ ReturnedEndW U o U' L ({ frames := 4, cells := 4, slots := 40, locals := 66 } : Room).cells ({ frames := 4, cells := 4, slots := 40, locals := 66 } : Room).slots) := by
  refine MetFree.of_bodySF (plainFor_of_name pn_10) hisR ?_
  intro p e s m args below meth c s₁ Bd hml0 hP hK
  obtain ⟨rfl, hZ, hh, HH⟩ := hP
  have hx := Bd.exec
  have hby := Bd.bytes
  have hml : c.maxLocals = 3 := hml0
  have hown : s.vm.findClass "com/example/handover/handover/ProblemToStringPinLaw" = some m.cls := findClass_of_methodNamed Bd.named
  have hnm := (name_of_methodNamed Bd.named Bd.method).1
  have hlk := Bd.notSynchronized
  have X0 : Stand p l e ({ frames := 4, cells := 4, slots := 40, locals := 66 } : Room) (s.setVm s.vm) m #[(.int (0 : Int32)), (.int p2)] below meth c s₁ [] 0 0 := Stand.of_body Bd
  have hS := (State.WarmedH.refl s).since 0
  have hkS : 0 ≤ h0.size := Nat.zero_le _
  replace hZ : Z.Warmed39 (s.setVm s.vm).vm := hZ
  replace hown : (s.setVm s.vm).vm.findClass "com/example/handover/handover/ProblemToStringPinLaw" = some m.cls := hown
  replace HH : CHv Z consts_1 s.vm h0 := HH
  have CR := CHr.refl HH
  have e0 : s₁.heap = h0 := by rw [← hh, Bd.state]; rfl
  have N0 := Fr.nil n0
  have KK := Keep.refl h0 []
  show own_Ends p e below s (own_GH Z consts_1) (Qmk Z (0 : Int32) p2 h0 n0) 4 40 (s₁.setTop (entryFrame m #[(.int (0 : Int32)), (.int p2)] 3))
  refine own_of (U' := (s₁.setTop (mkF m 0 #[.val (.int (0 : Int32)), .val (.int p2), .unset] []))) (fun _ k => castTop (ef_mk0 m p2) k) ?_
  refine own_iloadN X0 hx hby d1_0 rfl ?_
  refine own_iconst X0 hx hby 3 d1_1 rfl ?_
  have hc2_271 : ¬ ((0 : Int32) = (3 : Int32)) := by decide
  refine own_icmpYes X0 hx hby 2 7 d1_2 (feq hc2_271).2 (by decide) (by decide) ?_
  refine own_iloadN X0 hx hby d1_7 rfl ?_
  obtain ⟨T272, h272, k272, X272, e272, E272, A272, st272⟩ := newP X0 hx hZ (own_w hw 4 rfl) e0 (g := (mkF m 8 #[.val (.int (0 : Int32)), .val (.int p2), .unset] [(.int (0 : Int32))])) rfl (hb hby d1_8) rfl (by decide) (cap := 0) (by decide) (by decide) (by decide) (by decide)
  obtain ⟨b272, gz272⟩ : ∃ z, z = h0.size := ⟨_, rfl⟩
  rw [← gz272] at A272 st272
  have g_b272 : n0 ≤ b272 := Nat.le_trans Z0 (Nat.le_of_eq gz272.symm)
  have sz_b272 : h0.size ≤ b272 := Nat.le_trans KK.1 (Nat.le_of_eq gz272.symm)
  have sf_b272 := Safe.ext E272 HH (Safe.new (Z := Z) (Nat.le_of_eq gz272.symm))
  replace CR := CR.trans (CHr.ext E272 HH)
  replace Z0 := Nat.le_trans Z0 E272.1
  replace SC := SC.ext E272
  replace hkS := Nat.le_trans hkS E272.1
  replace HH := HH.ext E272
  replace KK := KK.ext E272
  have V272 : Arv Z h272 b272 k272 .char (0 : Int32) [] (.int (0 : Int32)) := Arv.new A272 (by decide)
  refine own_of (U' := (T272.setTop (mkF m 10 #[.val (.int (0 : Int32)), .val (.int p2), .unset] [(.ref b272)]))) (st272) ?_
  refine own_astoreN X272 hx hby d1_10 rfl (l' := #[.val (.int (0 : Int32)), .val (.int p2), .val (.ref b272)]) rfl ?_
  refine own_iloadN X272 hx hby d1_11 rfl ?_
  refine own_iconst X272 hx hby 1 d1_12 rfl ?_
  have hc13_273 : (0 : Int32) < (1 : Int32) := by decide
  refine own_icmpYes X272 hx hby 13 25 d1_13 (tlt hc13_273).1 (by decide) (by decide) ?_
  refine own_iloadN X272 hx hby d1_25 rfl ?_
  refine own_iconst X272 hx hby 2 d1_26 rfl ?_
  have hc27_274 : (0 : Int32) < (2 : Int32) := by decide
  refine own_icmpYes X272 hx hby 27 42 d1_27 (tlt hc27_274).1 (by decide) (by decide) ?_
  obtain ⟨T275, h275, X275, e275, E275, A275, D275, -, st275⟩ := newO X272 hx hZ hown (own_w hw 5 rfl) (own_w hw 6 rfl) (own_w hw 7 rfl) e272 (g := (mkF m 42 #[.val (.int (0 : Int32)), .val (.int p2), .val (.ref b272)] [])) rfl (hb hby d1_42) (by decide) (by decide)
  obtain ⟨b275, gz275⟩ : ∃ z, z = h272.size := ⟨_, rfl⟩
  rw [← gz275] at A275 D275 st275
  have g_b275 : n0 ≤ b275 := Nat.le_trans Z0 (Nat.le_of_eq gz275.symm)
  have sz_b275 : h0.size ≤ b275 := Nat.le_trans KK.1 (Nat.le_of_eq gz275.symm)
  have ne_b272_b275 : b272 ≠ b275 := Nat.ne_of_lt (Nat.lt_of_lt_of_le V272.lt (Nat.le_of_eq gz275.symm))
  have sf_b275 := Safe.ext E275 HH (Safe.new (Z := Z) (Nat.le_of_eq gz275.symm))
  replace CR := CR.trans (CHr.ext E275 HH)
  replace sf_b272 := Safe.ext E275 HH sf_b272
  replace Z0 := Nat.le_trans Z0 E275.1
  replace SC := SC.ext E275
  replace hkS := Nat.le_trans hkS E275.1
  replace HH := HH.ext E275
  replace KK := KK.ext E275
  replace V272 := V272.ext E275
  have F275_coder : Fld Z h275 b275 "java/lang/String" "coder" "B" (.int (0 : Int32)) := D275 (Or.inr (own_w hw 31 rfl)) (ty := .byte) (by decide)
  have F275_value : Fld Z h275 b275 "java/lang/String" "value" "[B" .null := D275 (Or.inr (own_w hw 33 rfl)) (ty := (.array .byte)) (by decide)
  refine own_of (U' := (T275.setTop (mkF m 45 #[.val (.int (0 : Int32)), .val (.int p2), .val (.ref b272)] [(.ref b275)]))) (st275) ?_
  refine own_dup X275 hx hby d1_45 rfl ?_
  refine own_aloadN X275 hx hby d1_46 rfl rfl ?_
  obtain ⟨_, _, ⟨T276, L276, k276, n276⟩, -, X276, sn276, gr276, ⟨Lc276, hQ276, l276, y276, z276, CH276⟩, st276⟩ := X275.specialBackS hx (y := mN_34) rfl hown (mvT hZ (own_w hw 8 rfl)) (mvT hZ (own_w hw 9 rfl)) (mvT hZ (own_w hw 10 rfl)) (by decide) (own_backSHs (W := 1) (rmsi0 l Z a0 hw [] b275 b272 k272 h275 n0 Z0 hEL A275 F275_coder F275_value V272 g_b275) hZ (own_w hw 10 rfl) (own_w hw 7 rfl) (by decide) (by decide) hEL HH (allS ⟨A275.lt, sf_b275⟩ all0)) (g := (mkF m 47 #[.val (.int (0 : Int32)), .val (.int p2), .val (.ref b272)] [(.ref b272), (.ref b275), (.ref b275)])) rfl (by rw [hml]; rfl) (Steps.refl _) (a := b275) (argsL := [(.ref b272)]) (rest := [(.ref b275)]) (lenOf pd_29 rfl) rfl (by show 2 * 0 + _ ≤ _; exact Nat.le_of_eq rfl) (hb hby d1_47) (fun _ _ => ⟨rfl, e275, (by decide : 2 + 2 ≤ _), (by decide : 4 + 4 ≤ _)⟩)
  dsimp only [Pt.U, Pt.locs, Pt.cells, Pt.slots] at X276 sn276 gr276 l276 y276 z276 st276 hQ276 CH276
  rw [l276, y276, z276] at X276
  obtain ⟨X276, hS, hZ, hown⟩ := rebS hS (by rw [e275]; exact hkS) X276 sn276 gr276 hZ hown
  replace hkS : T276.heap.size ≤ T276.heap.size := Nat.le_refl _
  replace sf_b272 := CH276.safe V272.lt sf_b272
  replace sf_b275 := CH276.safe A275.lt sf_b275
  replace CR := CR.trans CH276
  obtain ⟨rfl, Nq276, Kp276, u276, ku276, Cq276, Fq276, Vq276⟩ := hQ276
  have N276 := Fr.app N0 Nq276
  have nst_b275 := A275.nostat
  replace Z0 := Nat.le_trans Z0 Kp276.1
  replace SC := own_staKeep SC Kp276 (nsS nst_b275 ns0)
  replace KK := KK.trans Kp276 (allS (Or.inr sz_b275) all0)
  replace V272 := V272.keep Kp276 (ninS ne_b272_b275 nin0)
  replace A275 := A275.keep Kp276
  replace HH := CH276.1
  refine own_of (U' := (T276.setTop (mkF m 50 #[.val (.int (0 : Int32)), .val (.int p2), .val (.ref b272)] [(.ref b275)]))) (fun _ k => st276.trans k) ?_
  exact own_retAH X276 hx hlk hS hkS (by rw [hh]; exact CR.trans (CHv.at X276 hZ hEL HH)) Bd.returns rfl rfl (hb hby d1_50) (by decide) (by decide) (⟨(.ref b275), rfl, N276, KK, Or.inr ⟨b275, u276, ku276, (0 : Int32), rfl, A275.lt, Vq276.lt, A275, Cq276, Fq276, Vq276, rfl⟩⟩)
theorem d1_16 : decode method_2_code 16 = .ok (.aload_n 2, 1) := by decide +kernel
theorem d1_17 : decode method_2_code 17 = .ok (.iconst 0, 1) := by decide +kernel
theorem d1_18 : decode method_2_code 18 = .ok (.iload_n 1, 1) := by decide +kernel
theorem d1_19 : decode method_2_code 19 = .ok (.sipush 255, 3) := by decide +kernel
theorem d1_22 : decode method_2_code 22 = .ok (.iand, 1) := by decide +kernel
theorem d1_23 : decode method_2_code 23 = .ok (.i2c, 1) := by decide +kernel
theorem d1_24 : decode method_2_code 24 = .ok (.castore, 1) := by decide +kernel
theorem ef_mk1 (m : MethodId) (x1 : Int32) : entryFrame m #[(.int (1 : Int32)), (.int x1)] 3 = mkF m 0 #[.val (.int (1 : Int32)), .val (.int x1), .unset] [] := by first | (simp [entryFrame, mkF, argsToLocals, Value.category]; done) | rfl
set_option maxRecDepth 65536 in
set_option maxHeartbeats 40000000 in
theorem rmmk1 (l : Launch) (Z : State) (a0 : Array Value) (hw : ∀ d ∈ tables_1, d.before a0 Z = true) (ws : List Jvm.Cond) (p2 g1 : Int32) (h0 : Heap) (n0 : Nat) (Z0 : n0 ≤ h0.size) (hEL : EW Z a0 consts_1) (SC : Sta Z h0 "java/lang/String" "COMPACT_STRINGS" "Z" (.int g1)) (hg1 : ¬ (g1 = (0 : Int32))) :
    MetFree l mN_40 (head1 (Jvm.Cond.code mN_40 method_2_code 3 (some (.object "java/lang/String")) :: ws) ({ frames := 4, cells := 4, slots := 40, locals := 66 } : Room)) (fun a U => a = #[(.int (1 : Int32)), (.int p2)] ∧ Z.Warmed39 U.vm ∧ U.heap = h0 ∧ CHv Z consts_1 U.vm h0) (fun _ _ _ _ _ => True) (fun _ U o U' => ∃ v L, o = .returned v ∧ (Qmk Z (1 : Int32) p2 h0 n0) v U'.heap L ∧ CHr Z consts_1 U.vm U.heap U'.vm U'.heap ∧ ReturnedEndW U o U' L ({ frames := 4, cells := 4, slots := 40, locals := 66 } : Room).cells ({ frames := 4, cells := 4, slots := 40, locals := 66 } : Room).slots) := by
  refine MetFree.of_bodySF (plainFor_of_name pn_10) hisR ?_
  intro p e s m args below meth c s₁ Bd hml0 hP hK
  obtain ⟨rfl, hZ, hh, HH⟩ := hP
  have hx := Bd.exec
  have hby := Bd.bytes
  have hml : c.maxLocals = 3 := hml0
  have hown : s.vm.findClass "com/example/handover/handover/ProblemToStringPinLaw" = some m.cls := findClass_of_methodNamed Bd.named
  have hnm := (name_of_methodNamed Bd.named Bd.method).1
  have hlk := Bd.notSynchronized
  have X0 : Stand p l e ({ frames := 4, cells := 4, slots := 40, locals := 66 } : Room) (s.setVm s.vm) m #[(.int (1 : Int32)), (.int p2)] below meth c s₁ [] 0 0 := Stand.of_body Bd
  have hS := (State.WarmedH.refl s).since 0
  have hkS : 0 ≤ h0.size := Nat.zero_le _
  replace hZ : Z.Warmed39 (s.setVm s.vm).vm := hZ
  replace hown : (s.setVm s.vm).vm.findClass "com/example/handover/handover/ProblemToStringPinLaw" = some m.cls := hown
  replace HH : CHv Z consts_1 s.vm h0 := HH
  have CR := CHr.refl HH
  have e0 : s₁.heap = h0 := by rw [← hh, Bd.state]; rfl
  have N0 := Fr.nil n0
  have KK := Keep.refl h0 []
  show own_Ends p e below s (own_GH Z consts_1) (Qmk Z (1 : Int32) p2 h0 n0) 4 40 (s₁.setTop (entryFrame m #[(.int (1 : Int32)), (.int p2)] 3))
  refine own_of (U' := (s₁.setTop (mkF m 0 #[.val (.int (1 : Int32)), .val (.int p2), .unset] []))) (fun _ k => castTop (ef_mk1 m p2) k) ?_
  refine own_iloadN X0 hx hby d1_0 rfl ?_
  refine own_iconst X0 hx hby 3 d1_1 rfl ?_
  have hc2_277 : ¬ ((1 : Int32) = (3 : Int32)) := by decide
  refine own_icmpYes X0 hx hby 2 7 d1_2 (feq hc2_277).2 (by decide) (by decide) ?_
  refine own_iloadN X0 hx hby d1_7 rfl ?_
  obtain ⟨T278, h278, k278, X278, e278, E278, A278, st278⟩ := newP X0 hx hZ (own_w hw 4 rfl) e0 (g := (mkF m 8 #[.val (.int (1 : Int32)), .val (.int p2), .unset] [(.int (1 : Int32))])) rfl (hb hby d1_8) rfl (by decide) (cap := 1) (by decide) (by decide) (by decide) (by decide)
  obtain ⟨b278, gz278⟩ : ∃ z, z = h0.size := ⟨_, rfl⟩
  rw [← gz278] at A278 st278
  have g_b278 : n0 ≤ b278 := Nat.le_trans Z0 (Nat.le_of_eq gz278.symm)
  have sz_b278 : h0.size ≤ b278 := Nat.le_trans KK.1 (Nat.le_of_eq gz278.symm)
  have sf_b278 := Safe.ext E278 HH (Safe.new (Z := Z) (Nat.le_of_eq gz278.symm))
  replace CR := CR.trans (CHr.ext E278 HH)
  replace Z0 := Nat.le_trans Z0 E278.1
  replace SC := SC.ext E278
  replace hkS := Nat.le_trans hkS E278.1
  replace HH := HH.ext E278
  replace KK := KK.ext E278
  have V278 : Arv Z h278 b278 k278 .char (1 : Int32) [(.int (0 : Int32))] (.int (0 : Int32)) := (Arv.new A278 (by decide)).pad (pad_rep [] (.int (0 : Int32)) 1)
  refine own_of (U' := (T278.setTop (mkF m 10 #[.val (.int (1 : Int32)), .val (.int p2), .unset] [(.ref b278)]))) (st278) ?_
  refine own_astoreN X278 hx hby d1_10 rfl (l' := #[.val (.int (1 : Int32)), .val (.int p2), .val (.ref b278)]) rfl ?_
  refine own_iloadN X278 hx hby d1_11 rfl ?_
  refine own_iconst X278 hx hby 1 d1_12 rfl ?_
  have hc13_279 : ¬ ((1 : Int32) < (1 : Int32)) := by decide
  refine own_icmpNo X278 hx hby d1_13 (flt hc13_279).1 ?_
  refine own_aloadN X278 hx hby d1_16 rfl rfl ?_
  refine own_iconst X278 hx hby 0 d1_17 rfl ?_
  refine own_iloadN X278 hx hby d1_18 rfl ?_
  refine own_sipush X278 hx hby 255 d1_19 rfl ?_
  refine own_iand X278 hx hby d1_22 ?_
  refine own_i2c X278 hx hby d1_23 ?_
  obtain ⟨cl280, Ar280, qa280, Sa280, Na280, Ha280, Ga280⟩ := V278
  have hin280 : ¬ ((0 : Int32) < 0 ∨ cl280.slots.size ≤ ((0 : Int32)).toNatClampNeg) := inb_of Sa280 ⟨by decide, by decide⟩
  obtain ⟨T280, h280, X280, e280, W280, st280⟩ := stC X278 hx hZ e278 Ar280 (j := (0 : Int32)) hin280 (g := (mkF m 24 #[.val (.int (1 : Int32)), .val (.int p2), .val (.ref b278)] [(.int ((p2 &&& (255 : Int32)).toUInt32.toUInt16.toUInt32.toInt32)), (.int (0 : Int32)), (.ref b278)])) rfl rfl (hb hby d1_24)
  replace V278 : Arv Z h280 b278 k278 .char (1 : Int32) [(.int (nar .char ((p2 &&& (255 : Int32)).toUInt32.toUInt16.toUInt32.toInt32)))] (.int (0 : Int32)) := Arv.set Ar280 qa280 Sa280 Na280 Ha280 Ga280 (fits_nar_char _) W280 0 rfl (Nat.le_of_ble_eq_true rfl)
  have sfw := ((Safe.arr hZ.alike Ar280 (by decide)) : Safe Z consts_1 _ _ b278)
  replace sf_b278 := Safe.wr W280 sfw HH sf_b278
  replace CR := CR.trans (CHr.wr W280 sfw HH)
  replace HH := HH.wr W280 sfw
  replace Z0 := Nat.le_trans Z0 (Keep.of_wr W280).1
  replace SC := SC.wr W280
  replace hkS := Nat.le_trans hkS (Keep.of_wr W280).1
  replace KK := KK.wr W280 (Or.inr sz_b278)
  have N280 := Fr.snoc X280 N0 g_b278
  refine own_of (U' := (T280.setTop (mkF m 25 #[.val (.int (1 : Int32)), .val (.int p2), .val (.ref b278)] []))) (st280) ?_
  refine own_iloadN X280 hx hby d1_25 rfl ?_
  refine own_iconst X280 hx hby 2 d1_26 rfl ?_
  have hc27_281 : (1 : Int32) < (2 : Int32) := by decide
  refine own_icmpYes X280 hx hby 27 42 d1_27 (tlt hc27_281).1 (by decide) (by decide) ?_
  obtain ⟨T282, h282, X282, e282, E282, A282, D282, -, st282⟩ := newO X280 hx hZ hown (own_w hw 5 rfl) (own_w hw 6 rfl) (own_w hw 7 rfl) e280 (g := (mkF m 42 #[.val (.int (1 : Int32)), .val (.int p2), .val (.ref b278)] [])) rfl (hb hby d1_42) (by decide) (by decide)
  obtain ⟨b282, gz282⟩ : ∃ z, z = h280.size := ⟨_, rfl⟩
  rw [← gz282] at A282 D282 st282
  have g_b282 : n0 ≤ b282 := Nat.le_trans Z0 (Nat.le_of_eq gz282.symm)
  have sz_b282 : h0.size ≤ b282 := Nat.le_trans KK.1 (Nat.le_of_eq gz282.symm)
  have ne_b278_b282 : b278 ≠ b282 := Nat.ne_of_lt (Nat.lt_of_lt_of_le V278.lt (Nat.le_of_eq gz282.symm))
  have sf_b282 := Safe.ext E282 HH (Safe.new (Z := Z) (Nat.le_of_eq gz282.symm))
  replace CR := CR.trans (CHr.ext E282 HH)
  replace sf_b278 := Safe.ext E282 HH sf_b278
  replace Z0 := Nat.le_trans Z0 E282.1
  replace SC := SC.ext E282
  replace hkS := Nat.le_trans hkS E282.1
  replace HH := HH.ext E282
  replace KK := KK.ext E282
  replace V278 := V278.ext E282
  have F282_coder : Fld Z h282 b282 "java/lang/String" "coder" "B" (.int (0 : Int32)) := D282 (Or.inr (own_w hw 31 rfl)) (ty := .byte) (by decide)
  have F282_value : Fld Z h282 b282 "java/lang/String" "value" "[B" .null := D282 (Or.inr (own_w hw 33 rfl)) (ty := (.array .byte)) (by decide)
  refine own_of (U' := (T282.setTop (mkF m 45 #[.val (.int (1 : Int32)), .val (.int p2), .val (.ref b278)] [(.ref b282)]))) (st282) ?_
  refine own_dup X282 hx hby d1_45 rfl ?_
  refine own_aloadN X282 hx hby d1_46 rfl rfl ?_
  obtain ⟨_, _, ⟨T283, L283, k283, n283⟩, -, X283, ⟨Lc283, hQ283, l283, y283, z283⟩, st283⟩ := X282.specialBack hx (y := mN_34) rfl hown (mvT hZ (own_w hw 8 rfl)) (mvT hZ (own_w hw 9 rfl)) (mvT hZ (own_w hw 10 rfl)) (by decide) (backOf (W := 1) (rmsi l Z a0 hw [] b282 b278 k278 (1 : Int32) [(nar .char ((p2 &&& (255 : Int32)).toUInt32.toUInt16.toUInt32.toInt32))] g1 h282 n0 Z0 A282 F282_coder F282_value V278 g_b282 (Nat.le_of_ble_eq_true rfl) rfl (Nat.le_of_ble_eq_true rfl) (own_all1 (own_m255 _)) SC hg1) hZ (own_w hw 10 rfl) (own_w hw 7 rfl) (by decide) (by decide)) (g := (mkF m 47 #[.val (.int (1 : Int32)), .val (.int p2), .val (.ref b278)] [(.ref b278), (.ref b282), (.ref b282)])) rfl (by rw [hml]; rfl) (Steps.refl _) (a := b282) (argsL := [(.ref b278)]) (rest := [(.ref b282)]) (lenOf pd_29 rfl) rfl (by show 2 * 0 + _ ≤ _; exact Nat.le_of_eq rfl) (hb hby d1_47) (fun _ _ => ⟨rfl, e282, (by decide : 2 + 1 ≤ _), (by decide : 5 + 34 ≤ _)⟩)
  dsimp only [Pt.U, Pt.locs, Pt.cells, Pt.slots] at X283 l283 y283 z283 st283 hQ283
  rw [l283, y283, z283] at X283
  obtain ⟨rfl, Nq283, Kp283, u283, ku283, gq283, Cq283, Fq283, Vq283⟩ := hQ283
  have g_u283 : n0 ≤ u283 := Nat.le_trans Z0 gq283
  have sz_u283 : h0.size ≤ u283 := Nat.le_trans KK.1 gq283
  have ne_b278_u283 : b278 ≠ u283 := Nat.ne_of_lt (Nat.lt_of_lt_of_le V278.lt gq283)
  have ne_b282_u283 : b282 ≠ u283 := Nat.ne_of_lt (Nat.lt_of_lt_of_le A282.lt gq283)
  have N283 := Fr.app N280 Nq283
  have nst_b282 := A282.nostat
  have sfk : ∀ x ∈ [b282], Safe Z consts_1 _ _ x := (sfS sf_b282 sf0)
  replace sf_b278 := Safe.keep Kp283 sfk HH sf_b278
  replace sf_b282 := Safe.keep Kp283 sfk HH sf_b282
  have sf_u283 := Safe.keep Kp283 sfk HH (Safe.new (Z := Z) gq283)
  replace CR := CR.trans (CHr.keep Kp283 sfk HH)
  replace HH := HH.keep Kp283 sfk
  replace Z0 := Nat.le_trans Z0 Kp283.1
  replace SC := own_staKeep SC Kp283 (nsS nst_b282 ns0)
  replace hkS := Nat.le_trans hkS Kp283.1
  replace KK := KK.trans Kp283 (allS (Or.inr sz_b282) all0)
  replace V278 := V278.keep Kp283 (ninS ne_b278_b282 nin0)
  replace A282 := A282.keep Kp283
  refine own_of (U' := (T283.setTop (mkF m 50 #[.val (.int (1 : Int32)), .val (.int p2), .val (.ref b278)] [(.ref b282)]))) (fun _ k => st283.trans k) ?_
  exact own_retAH X283 hx hlk hS hkS (by rw [hh]; exact CR.trans (CHv.at X283 hZ hEL HH)) Bd.returns rfl rfl (hb hby d1_50) (by decide) (by decide) (⟨(.ref b282), rfl, N283, KK, Or.inr ⟨b282, u283, ku283, (1 : Int32), rfl, A282.lt, Vq283.lt, A282, Cq283, Fq283, Vq283, rfl⟩⟩)
theorem d1_30 : decode method_2_code 30 = .ok (.aload_n 2, 1) := by decide +kernel
theorem d1_31 : decode method_2_code 31 = .ok (.iconst 1, 1) := by decide +kernel
theorem d1_32 : decode method_2_code 32 = .ok (.iload_n 1, 1) := by decide +kernel
theorem d1_33 : decode method_2_code 33 = .ok (.bipush 8, 2) := by decide +kernel
theorem d1_35 : decode method_2_code 35 = .ok (.iushr, 1) := by decide +kernel
theorem d1_36 : decode method_2_code 36 = .ok (.sipush 255, 3) := by decide +kernel
theorem d1_39 : decode method_2_code 39 = .ok (.iand, 1) := by decide +kernel
theorem d1_40 : decode method_2_code 40 = .ok (.i2c, 1) := by decide +kernel
theorem d1_41 : decode method_2_code 41 = .ok (.castore, 1) := by decide +kernel
theorem ef_mk2 (m : MethodId) (x1 : Int32) : entryFrame m #[(.int (2 : Int32)), (.int x1)] 3 = mkF m 0 #[.val (.int (2 : Int32)), .val (.int x1), .unset] [] := by first | (simp [entryFrame, mkF, argsToLocals, Value.category]; done) | rfl
set_option maxRecDepth 65536 in
set_option maxHeartbeats 40000000 in
theorem rmmk2 (l : Launch) (Z : State) (a0 : Array Value) (hw : ∀ d ∈ tables_1, d.before a0 Z = true) (ws : List Jvm.Cond) (p2 g1 : Int32) (h0 : Heap) (n0 : Nat) (Z0 : n0 ≤ h0.size) (hEL : EW Z a0 consts_1) (SC : Sta Z h0 "java/lang/String" "COMPACT_STRINGS" "Z" (.int g1)) (hg1 : ¬ (g1 = (0 : Int32))) :
    MetFree l mN_40 (head1 (Jvm.Cond.code mN_40 method_2_code 3 (some (.object "java/lang/String")) :: ws) ({ frames := 4, cells := 4, slots := 40, locals := 66 } : Room)) (fun a U => a = #[(.int (2 : Int32)), (.int p2)] ∧ Z.Warmed39 U.vm ∧ U.heap = h0 ∧ CHv Z consts_1 U.vm h0) (fun _ _ _ _ _ => True) (fun _ U o U' => ∃ v L, o = .returned v ∧ (Qmk Z (2 : Int32) p2 h0 n0) v U'.heap L ∧ CHr Z consts_1 U.vm U.heap U'.vm U'.heap ∧ ReturnedEndW U o U' L ({ frames := 4, cells := 4, slots := 40, locals := 66 } : Room).cells ({ frames := 4, cells := 4, slots := 40, locals := 66 } : Room).slots) := by
  refine MetFree.of_bodySF (plainFor_of_name pn_10) hisR ?_
  intro p e s m args below meth c s₁ Bd hml0 hP hK
  obtain ⟨rfl, hZ, hh, HH⟩ := hP
  have hx := Bd.exec
  have hby := Bd.bytes
  have hml : c.maxLocals = 3 := hml0
  have hown : s.vm.findClass "com/example/handover/handover/ProblemToStringPinLaw" = some m.cls := findClass_of_methodNamed Bd.named
  have hnm := (name_of_methodNamed Bd.named Bd.method).1
  have hlk := Bd.notSynchronized
  have X0 : Stand p l e ({ frames := 4, cells := 4, slots := 40, locals := 66 } : Room) (s.setVm s.vm) m #[(.int (2 : Int32)), (.int p2)] below meth c s₁ [] 0 0 := Stand.of_body Bd
  have hS := (State.WarmedH.refl s).since 0
  have hkS : 0 ≤ h0.size := Nat.zero_le _
  replace hZ : Z.Warmed39 (s.setVm s.vm).vm := hZ
  replace hown : (s.setVm s.vm).vm.findClass "com/example/handover/handover/ProblemToStringPinLaw" = some m.cls := hown
  replace HH : CHv Z consts_1 s.vm h0 := HH
  have CR := CHr.refl HH
  have e0 : s₁.heap = h0 := by rw [← hh, Bd.state]; rfl
  have N0 := Fr.nil n0
  have KK := Keep.refl h0 []
  show own_Ends p e below s (own_GH Z consts_1) (Qmk Z (2 : Int32) p2 h0 n0) 4 40 (s₁.setTop (entryFrame m #[(.int (2 : Int32)), (.int p2)] 3))
  refine own_of (U' := (s₁.setTop (mkF m 0 #[.val (.int (2 : Int32)), .val (.int p2), .unset] []))) (fun _ k => castTop (ef_mk2 m p2) k) ?_
  refine own_iloadN X0 hx hby d1_0 rfl ?_
  refine own_iconst X0 hx hby 3 d1_1 rfl ?_
  have hc2_284 : ¬ ((2 : Int32) = (3 : Int32)) := by decide
  refine own_icmpYes X0 hx hby 2 7 d1_2 (feq hc2_284).2 (by decide) (by decide) ?_
  refine own_iloadN X0 hx hby d1_7 rfl ?_
  obtain ⟨T285, h285, k285, X285, e285, E285, A285, st285⟩ := newP X0 hx hZ (own_w hw 4 rfl) e0 (g := (mkF m 8 #[.val (.int (2 : Int32)), .val (.int p2), .unset] [(.int (2 : Int32))])) rfl (hb hby d1_8) rfl (by decide) (cap := 2) (by decide) (by decide) (by decide) (by decide)
  obtain ⟨b285, gz285⟩ : ∃ z, z = h0.size := ⟨_, rfl⟩
  rw [← gz285] at A285 st285
  have g_b285 : n0 ≤ b285 := Nat.le_trans Z0 (Nat.le_of_eq gz285.symm)
  have sz_b285 : h0.size ≤ b285 := Nat.le_trans KK.1 (Nat.le_of_eq gz285.symm)
  have sf_b285 := Safe.ext E285 HH (Safe.new (Z := Z) (Nat.le_of_eq gz285.symm))
  replace CR := CR.trans (CHr.ext E285 HH)
  replace Z0 := Nat.le_trans Z0 E285.1
  replace SC := SC.ext E285
  replace hkS := Nat.le_trans hkS E285.1
  replace HH := HH.ext E285
  replace KK := KK.ext E285
  have V285 : Arv Z h285 b285 k285 .char (2 : Int32) [(.int (0 : Int32)), (.int (0 : Int32))] (.int (0 : Int32)) := (Arv.new A285 (by decide)).pad (pad_rep [] (.int (0 : Int32)) 2)
  refine own_of (U' := (T285.setTop (mkF m 10 #[.val (.int (2 : Int32)), .val (.int p2), .unset] [(.ref b285)]))) (st285) ?_
  refine own_astoreN X285 hx hby d1_10 rfl (l' := #[.val (.int (2 : Int32)), .val (.int p2), .val (.ref b285)]) rfl ?_
  refine own_iloadN X285 hx hby d1_11 rfl ?_
  refine own_iconst X285 hx hby 1 d1_12 rfl ?_
  have hc13_286 : ¬ ((2 : Int32) < (1 : Int32)) := by decide
  refine own_icmpNo X285 hx hby d1_13 (flt hc13_286).1 ?_
  refine own_aloadN X285 hx hby d1_16 rfl rfl ?_
  refine own_iconst X285 hx hby 0 d1_17 rfl ?_
  refine own_iloadN X285 hx hby d1_18 rfl ?_
  refine own_sipush X285 hx hby 255 d1_19 rfl ?_
  refine own_iand X285 hx hby d1_22 ?_
  refine own_i2c X285 hx hby d1_23 ?_
  obtain ⟨cl287, Ar287, qa287, Sa287, Na287, Ha287, Ga287⟩ := V285
  have hin287 : ¬ ((0 : Int32) < 0 ∨ cl287.slots.size ≤ ((0 : Int32)).toNatClampNeg) := inb_of Sa287 ⟨by decide, by decide⟩
  obtain ⟨T287, h287, X287, e287, W287, st287⟩ := stC X285 hx hZ e285 Ar287 (j := (0 : Int32)) hin287 (g := (mkF m 24 #[.val (.int (2 : Int32)), .val (.int p2), .val (.ref b285)] [(.int ((p2 &&& (255 : Int32)).toUInt32.toUInt16.toUInt32.toInt32)), (.int (0 : Int32)), (.ref b285)])) rfl rfl (hb hby d1_24)
  replace V285 : Arv Z h287 b285 k285 .char (2 : Int32) [(.int (nar .char ((p2 &&& (255 : Int32)).toUInt32.toUInt16.toUInt32.toInt32))), (.int (0 : Int32))] (.int (0 : Int32)) := Arv.set Ar287 qa287 Sa287 Na287 Ha287 Ga287 (fits_nar_char _) W287 0 rfl (Nat.le_of_ble_eq_true rfl)
  have sfw := ((Safe.arr hZ.alike Ar287 (by decide)) : Safe Z consts_1 _ _ b285)
  replace sf_b285 := Safe.wr W287 sfw HH sf_b285
  replace CR := CR.trans (CHr.wr W287 sfw HH)
  replace HH := HH.wr W287 sfw
  replace Z0 := Nat.le_trans Z0 (Keep.of_wr W287).1
  replace SC := SC.wr W287
  replace hkS := Nat.le_trans hkS (Keep.of_wr W287).1
  replace KK := KK.wr W287 (Or.inr sz_b285)
  have N287 := Fr.snoc X287 N0 g_b285
  refine own_of (U' := (T287.setTop (mkF m 25 #[.val (.int (2 : Int32)), .val (.int p2), .val (.ref b285)] []))) (st287) ?_
  refine own_iloadN X287 hx hby d1_25 rfl ?_
  refine own_iconst X287 hx hby 2 d1_26 rfl ?_
  have hc27_288 : ¬ ((2 : Int32) < (2 : Int32)) := by decide
  refine own_icmpNo X287 hx hby d1_27 (flt hc27_288).1 ?_
  refine own_aloadN X287 hx hby d1_30 rfl rfl ?_
  refine own_iconst X287 hx hby 1 d1_31 rfl ?_
  refine own_iloadN X287 hx hby d1_32 rfl ?_
  refine own_bipush X287 hx hby 8 d1_33 rfl ?_
  refine own_iushr X287 hx hby d1_35 ?_
  refine own_sipush X287 hx hby 255 d1_36 rfl ?_
  refine own_iand X287 hx hby d1_39 ?_
  refine own_i2c X287 hx hby d1_40 ?_
  obtain ⟨cl289, Ar289, qa289, Sa289, Na289, Ha289, Ga289⟩ := V285
  have hin289 : ¬ ((1 : Int32) < 0 ∨ cl289.slots.size ≤ ((1 : Int32)).toNatClampNeg) := inb_of Sa289 ⟨by decide, by decide⟩
  obtain ⟨T289, h289, X289, e289, W289, st289⟩ := stC X287 hx hZ e287 Ar289 (j := (1 : Int32)) hin289 (g := (mkF m 41 #[.val (.int (2 : Int32)), .val (.int p2), .val (.ref b285)] [(.int (((XT.ushr p2 (8 : Int32)) &&& (255 : Int32)).toUInt32.toUInt16.toUInt32.toInt32)), (.int (1 : Int32)), (.ref b285)])) rfl rfl (hb hby d1_41)
  replace V285 : Arv Z h289 b285 k285 .char (2 : Int32) [(.int (nar .char ((p2 &&& (255 : Int32)).toUInt32.toUInt16.toUInt32.toInt32))), (.int (nar .char (((XT.ushr p2 (8 : Int32)) &&& (255 : Int32)).toUInt32.toUInt16.toUInt32.toInt32)))] (.int (0 : Int32)) := Arv.set Ar289 qa289 Sa289 Na289 Ha289 Ga289 (fits_nar_char _) W289 1 rfl (Nat.le_of_ble_eq_true rfl)
  have sfw := ((Safe.arr hZ.alike Ar289 (by decide)) : Safe Z consts_1 _ _ b285)
  replace sf_b285 := Safe.wr W289 sfw HH sf_b285
  replace CR := CR.trans (CHr.wr W289 sfw HH)
  replace HH := HH.wr W289 sfw
  replace Z0 := Nat.le_trans Z0 (Keep.of_wr W289).1
  replace SC := SC.wr W289
  replace hkS := Nat.le_trans hkS (Keep.of_wr W289).1
  replace KK := KK.wr W289 (Or.inr sz_b285)
  have N289 := Fr.snoc X289 N287 g_b285
  refine own_of (U' := (T289.setTop (mkF m 42 #[.val (.int (2 : Int32)), .val (.int p2), .val (.ref b285)] []))) (st289) ?_
  obtain ⟨T290, h290, X290, e290, E290, A290, D290, -, st290⟩ := newO X289 hx hZ hown (own_w hw 5 rfl) (own_w hw 6 rfl) (own_w hw 7 rfl) e289 (g := (mkF m 42 #[.val (.int (2 : Int32)), .val (.int p2), .val (.ref b285)] [])) rfl (hb hby d1_42) (by decide) (by decide)
  obtain ⟨b290, gz290⟩ : ∃ z, z = h289.size := ⟨_, rfl⟩
  rw [← gz290] at A290 D290 st290
  have g_b290 : n0 ≤ b290 := Nat.le_trans Z0 (Nat.le_of_eq gz290.symm)
  have sz_b290 : h0.size ≤ b290 := Nat.le_trans KK.1 (Nat.le_of_eq gz290.symm)
  have ne_b285_b290 : b285 ≠ b290 := Nat.ne_of_lt (Nat.lt_of_lt_of_le V285.lt (Nat.le_of_eq gz290.symm))
  have sf_b290 := Safe.ext E290 HH (Safe.new (Z := Z) (Nat.le_of_eq gz290.symm))
  replace CR := CR.trans (CHr.ext E290 HH)
  replace sf_b285 := Safe.ext E290 HH sf_b285
  replace Z0 := Nat.le_trans Z0 E290.1
  replace SC := SC.ext E290
  replace hkS := Nat.le_trans hkS E290.1
  replace HH := HH.ext E290
  replace KK := KK.ext E290
  replace V285 := V285.ext E290
  have F290_coder : Fld Z h290 b290 "java/lang/String" "coder" "B" (.int (0 : Int32)) := D290 (Or.inr (own_w hw 31 rfl)) (ty := .byte) (by decide)
  have F290_value : Fld Z h290 b290 "java/lang/String" "value" "[B" .null := D290 (Or.inr (own_w hw 33 rfl)) (ty := (.array .byte)) (by decide)
  refine own_of (U' := (T290.setTop (mkF m 45 #[.val (.int (2 : Int32)), .val (.int p2), .val (.ref b285)] [(.ref b290)]))) (st290) ?_
  refine own_dup X290 hx hby d1_45 rfl ?_
  refine own_aloadN X290 hx hby d1_46 rfl rfl ?_
  obtain ⟨_, _, ⟨T291, L291, k291, n291⟩, -, X291, ⟨Lc291, hQ291, l291, y291, z291⟩, st291⟩ := X290.specialBack hx (y := mN_34) rfl hown (mvT hZ (own_w hw 8 rfl)) (mvT hZ (own_w hw 9 rfl)) (mvT hZ (own_w hw 10 rfl)) (by decide) (backOf (W := 1) (rmsi l Z a0 hw [] b290 b285 k285 (2 : Int32) [(nar .char ((p2 &&& (255 : Int32)).toUInt32.toUInt16.toUInt32.toInt32)), (nar .char (((XT.ushr p2 (8 : Int32)) &&& (255 : Int32)).toUInt32.toUInt16.toUInt32.toInt32))] g1 h290 n0 Z0 A290 F290_coder F290_value V285 g_b290 (Nat.le_of_ble_eq_true rfl) rfl (Nat.le_of_ble_eq_true rfl) (own_all2 (own_m255 _) (own_m255 _)) SC hg1) hZ (own_w hw 10 rfl) (own_w hw 7 rfl) (by decide) (by decide)) (g := (mkF m 47 #[.val (.int (2 : Int32)), .val (.int p2), .val (.ref b285)] [(.ref b285), (.ref b290), (.ref b290)])) rfl (by rw [hml]; rfl) (Steps.refl _) (a := b290) (argsL := [(.ref b285)]) (rest := [(.ref b290)]) (lenOf pd_29 rfl) rfl (by show 2 * 0 + _ ≤ _; exact Nat.le_of_eq rfl) (hb hby d1_47) (fun _ _ => ⟨rfl, e290, (by decide : 2 + 1 ≤ _), (by decide : 6 + 34 ≤ _)⟩)
  dsimp only [Pt.U, Pt.locs, Pt.cells, Pt.slots] at X291 l291 y291 z291 st291 hQ291
  rw [l291, y291, z291] at X291
  obtain ⟨rfl, Nq291, Kp291, u291, ku291, gq291, Cq291, Fq291, Vq291⟩ := hQ291
  have g_u291 : n0 ≤ u291 := Nat.le_trans Z0 gq291
  have sz_u291 : h0.size ≤ u291 := Nat.le_trans KK.1 gq291
  have ne_b285_u291 : b285 ≠ u291 := Nat.ne_of_lt (Nat.lt_of_lt_of_le V285.lt gq291)
  have ne_b290_u291 : b290 ≠ u291 := Nat.ne_of_lt (Nat.lt_of_lt_of_le A290.lt gq291)
  have N291 := Fr.app N289 Nq291
  have nst_b290 := A290.nostat
  have sfk : ∀ x ∈ [b290], Safe Z consts_1 _ _ x := (sfS sf_b290 sf0)
  replace sf_b285 := Safe.keep Kp291 sfk HH sf_b285
  replace sf_b290 := Safe.keep Kp291 sfk HH sf_b290
  have sf_u291 := Safe.keep Kp291 sfk HH (Safe.new (Z := Z) gq291)
  replace CR := CR.trans (CHr.keep Kp291 sfk HH)
  replace HH := HH.keep Kp291 sfk
  replace Z0 := Nat.le_trans Z0 Kp291.1
  replace SC := own_staKeep SC Kp291 (nsS nst_b290 ns0)
  replace hkS := Nat.le_trans hkS Kp291.1
  replace KK := KK.trans Kp291 (allS (Or.inr sz_b290) all0)
  replace V285 := V285.keep Kp291 (ninS ne_b285_b290 nin0)
  replace A290 := A290.keep Kp291
  refine own_of (U' := (T291.setTop (mkF m 50 #[.val (.int (2 : Int32)), .val (.int p2), .val (.ref b285)] [(.ref b290)]))) (fun _ k => st291.trans k) ?_
  exact own_retAH X291 hx hlk hS hkS (by rw [hh]; exact CR.trans (CHv.at X291 hZ hEL HH)) Bd.returns rfl rfl (hb hby d1_50) (by decide) (by decide) (⟨(.ref b290), rfl, N291, KK, Or.inr ⟨b290, u291, ku291, (2 : Int32), rfl, A290.lt, Vq291.lt, A290, Cq291, Fq291, Vq291, rfl⟩⟩)
theorem d1_5 : decode method_2_code 5 = .ok (.aconst_null, 1) := by decide +kernel
theorem d1_6 : decode method_2_code 6 = .ok (.areturn, 1) := by decide +kernel
theorem ef_mk3 (m : MethodId) (x1 : Int32) : entryFrame m #[(.int (3 : Int32)), (.int x1)] 3 = mkF m 0 #[.val (.int (3 : Int32)), .val (.int x1), .unset] [] := by first | (simp [entryFrame, mkF, argsToLocals, Value.category]; done) | rfl
set_option maxRecDepth 65536 in
set_option maxHeartbeats 40000000 in
theorem rmmk3 (l : Launch) (Z : State) (a0 : Array Value) (hw : ∀ d ∈ tables_1, d.before a0 Z = true) (ws : List Jvm.Cond) (p2 g1 : Int32) (h0 : Heap) (n0 : Nat) (Z0 : n0 ≤ h0.size) (hEL : EW Z a0 consts_1) (SC : Sta Z h0 "java/lang/String" "COMPACT_STRINGS" "Z" (.int g1)) (hg1 : ¬ (g1 = (0 : Int32))) :
    MetFree l mN_40 (head1 (Jvm.Cond.code mN_40 method_2_code 3 (some (.object "java/lang/String")) :: ws) ({ frames := 4, cells := 4, slots := 40, locals := 66 } : Room)) (fun a U => a = #[(.int (3 : Int32)), (.int p2)] ∧ Z.Warmed39 U.vm ∧ U.heap = h0 ∧ CHv Z consts_1 U.vm h0) (fun _ _ _ _ _ => True) (fun _ U o U' => ∃ v L, o = .returned v ∧ (Qmk Z (3 : Int32) p2 h0 n0) v U'.heap L ∧ CHr Z consts_1 U.vm U.heap U'.vm U'.heap ∧ ReturnedEndW U o U' L ({ frames := 4, cells := 4, slots := 40, locals := 66 } : Room).cells ({ frames := 4, cells := 4, slots := 40, locals := 66 } : Room).slots) := by
  refine MetFree.of_bodySF (plainFor_of_name pn_10) hisR ?_
  intro p e s m args below meth c s₁ Bd hml0 hP hK
  obtain ⟨rfl, hZ, hh, HH⟩ := hP
  have hx := Bd.exec
  have hby := Bd.bytes
  have hml : c.maxLocals = 3 := hml0
  have hown : s.vm.findClass "com/example/handover/handover/ProblemToStringPinLaw" = some m.cls := findClass_of_methodNamed Bd.named
  have hnm := (name_of_methodNamed Bd.named Bd.method).1
  have hlk := Bd.notSynchronized
  have X0 : Stand p l e ({ frames := 4, cells := 4, slots := 40, locals := 66 } : Room) (s.setVm s.vm) m #[(.int (3 : Int32)), (.int p2)] below meth c s₁ [] 0 0 := Stand.of_body Bd
  have hS := (State.WarmedH.refl s).since 0
  have hkS : 0 ≤ h0.size := Nat.zero_le _
  replace hZ : Z.Warmed39 (s.setVm s.vm).vm := hZ
  replace hown : (s.setVm s.vm).vm.findClass "com/example/handover/handover/ProblemToStringPinLaw" = some m.cls := hown
  replace HH : CHv Z consts_1 s.vm h0 := HH
  have CR := CHr.refl HH
  have e0 : s₁.heap = h0 := by rw [← hh, Bd.state]; rfl
  have N0 := Fr.nil n0
  have KK := Keep.refl h0 []
  show own_Ends p e below s (own_GH Z consts_1) (Qmk Z (3 : Int32) p2 h0 n0) 4 40 (s₁.setTop (entryFrame m #[(.int (3 : Int32)), (.int p2)] 3))
  refine own_of (U' := (s₁.setTop (mkF m 0 #[.val (.int (3 : Int32)), .val (.int p2), .unset] []))) (fun _ k => castTop (ef_mk3 m p2) k) ?_
  refine own_iloadN X0 hx hby d1_0 rfl ?_
  refine own_iconst X0 hx hby 3 d1_1 rfl ?_
  have hc2_292 : (3 : Int32) = (3 : Int32) := by decide
  refine own_icmpNo X0 hx hby d1_2 (teq hc2_292).2 ?_
  refine own_aconstNull X0 hx hby d1_5 ?_
  exact own_retAH X0 hx hlk hS (by rw [e0]; exact hkS) (by rw [hh, e0]; exact CR.trans (CHv.at X0 hZ hEL HH)) Bd.returns rfl rfl (hb hby d1_6) (by decide) (by decide) (by rw [e0]; exact ⟨.null, rfl, N0, KK, Or.inl ⟨rfl, by show List.map own_b8 [110, 117, 108, 108] = _; decide⟩⟩)
set_option maxRecDepth 65536 in
theorem rmmk (l : Launch) (Z : State) (a0 : Array Value) (hw : ∀ d ∈ tables_1, d.before a0 Z = true) (ws : List Jvm.Cond) (k p2 g1 : Int32) (h0 : Heap) (n0 : Nat) (Z0 : n0 ≤ h0.size) (hEL : EW Z a0 consts_1) (SC : Sta Z h0 "java/lang/String" "COMPACT_STRINGS" "Z" (.int g1)) (hg1 : ¬ (g1 = (0 : Int32))) (hk : k = 0 ∨ k = 1 ∨ k = 2 ∨ k = 3) :
    MetFree l mN_40 (head1 (Jvm.Cond.code mN_40 method_2_code 3 (some (.object "java/lang/String")) :: ws) ({ frames := 4, cells := 4, slots := 40, locals := 66 } : Room)) (fun a U => a = #[(.int k), (.int p2)] ∧ Z.Warmed39 U.vm ∧ U.heap = h0 ∧ CHv Z consts_1 U.vm h0) (fun _ _ _ _ _ => True) (fun _ U o U' => ∃ v L, o = .returned v ∧ (Qmk Z k p2 h0 n0) v U'.heap L ∧ CHr Z consts_1 U.vm U.heap U'.vm U'.heap ∧ ReturnedEndW U o U' L ({ frames := 4, cells := 4, slots := 40, locals := 66 } : Room).cells ({ frames := 4, cells := 4, slots := 40, locals := 66 } : Room).slots) := by
  rcases hk with rfl | rfl | rfl | rfl
  · exact rmmk0 l Z a0 hw ws p2 g1 h0 n0 Z0 hEL SC hg1
  · exact rmmk1 l Z a0 hw ws p2 g1 h0 n0 Z0 hEL SC hg1
  · exact rmmk2 l Z a0 hw ws p2 g1 h0 n0 Z0 hEL SC hg1
  · exact rmmk3 l Z a0 hw ws p2 g1 h0 n0 Z0 hEL SC hg1
def Qpa (Z : State) (k p : Int32) (h0 : Heap) (n0 : Nat) (v : Option Value) (h : Heap) (L : List Loc) : Prop := ∃ (u : Addr) (ku : ClassId), v = some (.ref u) ∧ Fr n0 L ∧ Keep h0 h [] ∧ h0.size ≤ u ∧ Arv Z h u ku .char (own_pl k) (List.map Value.int (own_pt k p)) (.int (0 : Int32))
abbrev mN_41 : MethodName := ⟨"com/example/handover/handover/ProblemToStringPinLaw", "part", "(II)[C"⟩
theorem d36_0 : decode method_3_code 0 = .ok (.iload_n 0, 1) := by decide +kernel
theorem d36_1 : decode method_3_code 1 = .ok (.iconst 3, 1) := by decide +kernel
theorem d36_2 : decode method_3_code 2 = .ok (.if_icmp .ne 27, 3) := by decide +kernel
theorem d36_29 : decode method_3_code 29 = .ok (.iload_n 0, 1) := by decide +kernel
theorem d36_30 : decode method_3_code 30 = .ok (.newarray .char, 2) := by decide +kernel
theorem d36_32 : decode method_3_code 32 = .ok (.astore_n 2, 1) := by decide +kernel
theorem d36_33 : decode method_3_code 33 = .ok (.iload_n 0, 1) := by decide +kernel
theorem d36_34 : decode method_3_code 34 = .ok (.iconst 1, 1) := by decide +kernel
theorem d36_35 : decode method_3_code 35 = .ok (.if_icmp .lt 12, 3) := by decide +kernel
theorem d36_47 : decode method_3_code 47 = .ok (.iload_n 0, 1) := by decide +kernel
theorem d36_48 : decode method_3_code 48 = .ok (.iconst 2, 1) := by decide +kernel
theorem d36_49 : decode method_3_code 49 = .ok (.if_icmp .lt 15, 3) := by decide +kernel
theorem d36_64 : decode method_3_code 64 = .ok (.aload_n 2, 1) := by decide +kernel
theorem d36_65 : decode method_3_code 65 = .ok (.areturn, 1) := by decide +kernel
theorem ef_pa0 (m : MethodId) (x1 : Int32) : entryFrame m #[(.int (0 : Int32)), (.int x1)] 3 = mkF m 0 #[.val (.int (0 : Int32)), .val (.int x1), .unset] [] := by first | (simp [entryFrame, mkF, argsToLocals, Value.category]; done) | rfl
set_option maxRecDepth 65536 in
set_option maxHeartbeats 40000000 in
theorem rmpa0 (l : Launch) (Z : State) (a0 : Array Value) (hw : ∀ d ∈ tables_1, d.before a0 Z = true) (ws : List Jvm.Cond) (p2 : Int32) (h0 : Heap) (n0 : Nat) (Z0 : n0 ≤ h0.size)  :
    MetFree l mN_41 (head1 (Jvm.Cond.code mN_41 method_3_code 3 (some (.array .char)) :: ws) ({ frames := 0, cells := 1, slots := 4, locals := 0 } : Room)) (fun a U => a = #[(.int (0 : Int32)), (.int p2)] ∧ Z.Warmed39 U.vm ∧ U.heap = h0) (fun _ _ _ _ _ => True) (fun _ U o U' => ∃ v L, o = .returned v ∧ (Qpa Z (0 : Int32) p2 h0 n0) v U'.heap L ∧ FrameEnd U o U' L ({ frames := 0, cells := 1, slots := 4, locals := 0 } : Room).cells ({ frames := 0, cells := 1, slots := 4, locals := 0 } : Room).slots) := by
  refine MetFree.of_bodySF (plainFor_of_name pn_10) hisR ?_
  intro p e s m args below meth c s₁ Bd hml0 hP hK
  obtain ⟨rfl, hZ, hh⟩ := hP
  have hx := Bd.exec
  have hby := Bd.bytes
  have hml : c.maxLocals = 3 := hml0
  have hown : s.vm.findClass "com/example/handover/handover/ProblemToStringPinLaw" = some m.cls := findClass_of_methodNamed Bd.named
  have hnm := (name_of_methodNamed Bd.named Bd.method).1
  have hlk := Bd.notSynchronized
  have X0 : Stand p l e ({ frames := 0, cells := 1, slots := 4, locals := 0 } : Room) s m #[(.int (0 : Int32)), (.int p2)] below meth c s₁ [] 0 0 := Stand.of_body Bd
  have e0 : s₁.heap = h0 := by rw [← hh, Bd.state]; rfl
  have N0 := Fr.nil n0
  have KK := Keep.refl h0 []
  show own_Ends p e below s FrameEnd (Qpa Z (0 : Int32) p2 h0 n0) 1 4 (s₁.setTop (entryFrame m #[(.int (0 : Int32)), (.int p2)] 3))
  refine own_of (U' := (s₁.setTop (mkF m 0 #[.val (.int (0 : Int32)), .val (.int p2), .unset] []))) (fun _ k => castTop (ef_pa0 m p2) k) ?_
  refine own_iloadN X0 hx hby d36_0 rfl ?_
  refine own_iconst X0 hx hby 3 d36_1 rfl ?_
  have hc2_293 : ¬ ((0 : Int32) = (3 : Int32)) := by decide
  refine own_icmpYes X0 hx hby 2 29 d36_2 (feq hc2_293).2 (by decide) (by decide) ?_
  refine own_iloadN X0 hx hby d36_29 rfl ?_
  obtain ⟨T294, h294, k294, X294, e294, E294, A294, st294⟩ := newP X0 hx hZ (own_w hw 4 rfl) e0 (g := (mkF m 30 #[.val (.int (0 : Int32)), .val (.int p2), .unset] [(.int (0 : Int32))])) rfl (hb hby d36_30) rfl (by decide) (cap := 0) (by decide) (by decide) (by decide) (by decide)
  obtain ⟨b294, gz294⟩ : ∃ z, z = h0.size := ⟨_, rfl⟩
  rw [← gz294] at A294 st294
  have g_b294 : n0 ≤ b294 := Nat.le_trans Z0 (Nat.le_of_eq gz294.symm)
  have sz_b294 : h0.size ≤ b294 := Nat.le_trans KK.1 (Nat.le_of_eq gz294.symm)
  replace Z0 := Nat.le_trans Z0 E294.1
  replace KK := KK.ext E294
  have V294 : Arv Z h294 b294 k294 .char (0 : Int32) [] (.int (0 : Int32)) := Arv.new A294 (by decide)
  refine own_of (U' := (T294.setTop (mkF m 32 #[.val (.int (0 : Int32)), .val (.int p2), .unset] [(.ref b294)]))) (st294) ?_
  refine own_astoreN X294 hx hby d36_32 rfl (l' := #[.val (.int (0 : Int32)), .val (.int p2), .val (.ref b294)]) rfl ?_
  refine own_iloadN X294 hx hby d36_33 rfl ?_
  refine own_iconst X294 hx hby 1 d36_34 rfl ?_
  have hc35_295 : (0 : Int32) < (1 : Int32) := by decide
  refine own_icmpYes X294 hx hby 35 47 d36_35 (tlt hc35_295).1 (by decide) (by decide) ?_
  refine own_iloadN X294 hx hby d36_47 rfl ?_
  refine own_iconst X294 hx hby 2 d36_48 rfl ?_
  have hc49_296 : (0 : Int32) < (2 : Int32) := by decide
  refine own_icmpYes X294 hx hby 49 64 d36_49 (tlt hc49_296).1 (by decide) (by decide) ?_
  refine own_aloadN X294 hx hby d36_64 rfl rfl ?_
  exact own_retA X294 hx hlk Bd.returns rfl rfl (hb hby d36_65) (by decide) (by decide) (by rw [e294]; exact ⟨b294, k294, rfl, N0, KK, sz_b294, V294⟩)
theorem d36_38 : decode method_3_code 38 = .ok (.aload_n 2, 1) := by decide +kernel
theorem d36_39 : decode method_3_code 39 = .ok (.iconst 0, 1) := by decide +kernel
theorem d36_40 : decode method_3_code 40 = .ok (.iload_n 1, 1) := by decide +kernel
theorem d36_41 : decode method_3_code 41 = .ok (.sipush 255, 3) := by decide +kernel
theorem d36_44 : decode method_3_code 44 = .ok (.iand, 1) := by decide +kernel
theorem d36_45 : decode method_3_code 45 = .ok (.i2c, 1) := by decide +kernel
theorem d36_46 : decode method_3_code 46 = .ok (.castore, 1) := by decide +kernel
theorem ef_pa1 (m : MethodId) (x1 : Int32) : entryFrame m #[(.int (1 : Int32)), (.int x1)] 3 = mkF m 0 #[.val (.int (1 : Int32)), .val (.int x1), .unset] [] := by first | (simp [entryFrame, mkF, argsToLocals, Value.category]; done) | rfl
set_option maxRecDepth 65536 in
set_option maxHeartbeats 40000000 in
theorem rmpa1 (l : Launch) (Z : State) (a0 : Array Value) (hw : ∀ d ∈ tables_1, d.before a0 Z = true) (ws : List Jvm.Cond) (p2 : Int32) (h0 : Heap) (n0 : Nat) (Z0 : n0 ≤ h0.size)  :
    MetFree l mN_41 (head1 (Jvm.Cond.code mN_41 method_3_code 3 (some (.array .char)) :: ws) ({ frames := 0, cells := 1, slots := 4, locals := 0 } : Room)) (fun a U => a = #[(.int (1 : Int32)), (.int p2)] ∧ Z.Warmed39 U.vm ∧ U.heap = h0) (fun _ _ _ _ _ => True) (fun _ U o U' => ∃ v L, o = .returned v ∧ (Qpa Z (1 : Int32) p2 h0 n0) v U'.heap L ∧ FrameEnd U o U' L ({ frames := 0, cells := 1, slots := 4, locals := 0 } : Room).cells ({ frames := 0, cells := 1, slots := 4, locals := 0 } : Room).slots) := by
  refine MetFree.of_bodySF (plainFor_of_name pn_10) hisR ?_
  intro p e s m args below meth c s₁ Bd hml0 hP hK
  obtain ⟨rfl, hZ, hh⟩ := hP
  have hx := Bd.exec
  have hby := Bd.bytes
  have hml : c.maxLocals = 3 := hml0
  have hown : s.vm.findClass "com/example/handover/handover/ProblemToStringPinLaw" = some m.cls := findClass_of_methodNamed Bd.named
  have hnm := (name_of_methodNamed Bd.named Bd.method).1
  have hlk := Bd.notSynchronized
  have X0 : Stand p l e ({ frames := 0, cells := 1, slots := 4, locals := 0 } : Room) s m #[(.int (1 : Int32)), (.int p2)] below meth c s₁ [] 0 0 := Stand.of_body Bd
  have e0 : s₁.heap = h0 := by rw [← hh, Bd.state]; rfl
  have N0 := Fr.nil n0
  have KK := Keep.refl h0 []
  show own_Ends p e below s FrameEnd (Qpa Z (1 : Int32) p2 h0 n0) 1 4 (s₁.setTop (entryFrame m #[(.int (1 : Int32)), (.int p2)] 3))
  refine own_of (U' := (s₁.setTop (mkF m 0 #[.val (.int (1 : Int32)), .val (.int p2), .unset] []))) (fun _ k => castTop (ef_pa1 m p2) k) ?_
  refine own_iloadN X0 hx hby d36_0 rfl ?_
  refine own_iconst X0 hx hby 3 d36_1 rfl ?_
  have hc2_297 : ¬ ((1 : Int32) = (3 : Int32)) := by decide
  refine own_icmpYes X0 hx hby 2 29 d36_2 (feq hc2_297).2 (by decide) (by decide) ?_
  refine own_iloadN X0 hx hby d36_29 rfl ?_
  obtain ⟨T298, h298, k298, X298, e298, E298, A298, st298⟩ := newP X0 hx hZ (own_w hw 4 rfl) e0 (g := (mkF m 30 #[.val (.int (1 : Int32)), .val (.int p2), .unset] [(.int (1 : Int32))])) rfl (hb hby d36_30) rfl (by decide) (cap := 1) (by decide) (by decide) (by decide) (by decide)
  obtain ⟨b298, gz298⟩ : ∃ z, z = h0.size := ⟨_, rfl⟩
  rw [← gz298] at A298 st298
  have g_b298 : n0 ≤ b298 := Nat.le_trans Z0 (Nat.le_of_eq gz298.symm)
  have sz_b298 : h0.size ≤ b298 := Nat.le_trans KK.1 (Nat.le_of_eq gz298.symm)
  replace Z0 := Nat.le_trans Z0 E298.1
  replace KK := KK.ext E298
  have V298 : Arv Z h298 b298 k298 .char (1 : Int32) [(.int (0 : Int32))] (.int (0 : Int32)) := (Arv.new A298 (by decide)).pad (pad_rep [] (.int (0 : Int32)) 1)
  refine own_of (U' := (T298.setTop (mkF m 32 #[.val (.int (1 : Int32)), .val (.int p2), .unset] [(.ref b298)]))) (st298) ?_
  refine own_astoreN X298 hx hby d36_32 rfl (l' := #[.val (.int (1 : Int32)), .val (.int p2), .val (.ref b298)]) rfl ?_
  refine own_iloadN X298 hx hby d36_33 rfl ?_
  refine own_iconst X298 hx hby 1 d36_34 rfl ?_
  have hc35_299 : ¬ ((1 : Int32) < (1 : Int32)) := by decide
  refine own_icmpNo X298 hx hby d36_35 (flt hc35_299).1 ?_
  refine own_aloadN X298 hx hby d36_38 rfl rfl ?_
  refine own_iconst X298 hx hby 0 d36_39 rfl ?_
  refine own_iloadN X298 hx hby d36_40 rfl ?_
  refine own_sipush X298 hx hby 255 d36_41 rfl ?_
  refine own_iand X298 hx hby d36_44 ?_
  refine own_i2c X298 hx hby d36_45 ?_
  obtain ⟨cl300, Ar300, qa300, Sa300, Na300, Ha300, Ga300⟩ := V298
  have hin300 : ¬ ((0 : Int32) < 0 ∨ cl300.slots.size ≤ ((0 : Int32)).toNatClampNeg) := inb_of Sa300 ⟨by decide, by decide⟩
  obtain ⟨T300, h300, X300, e300, W300, st300⟩ := stC X298 hx hZ e298 Ar300 (j := (0 : Int32)) hin300 (g := (mkF m 46 #[.val (.int (1 : Int32)), .val (.int p2), .val (.ref b298)] [(.int ((p2 &&& (255 : Int32)).toUInt32.toUInt16.toUInt32.toInt32)), (.int (0 : Int32)), (.ref b298)])) rfl rfl (hb hby d36_46)
  replace V298 : Arv Z h300 b298 k298 .char (1 : Int32) [(.int (nar .char ((p2 &&& (255 : Int32)).toUInt32.toUInt16.toUInt32.toInt32)))] (.int (0 : Int32)) := Arv.set Ar300 qa300 Sa300 Na300 Ha300 Ga300 (fits_nar_char _) W300 0 rfl (Nat.le_of_ble_eq_true rfl)
  replace Z0 := Nat.le_trans Z0 (Keep.of_wr W300).1
  replace KK := KK.wr W300 (Or.inr sz_b298)
  have N300 := Fr.snoc X300 N0 g_b298
  refine own_of (U' := (T300.setTop (mkF m 47 #[.val (.int (1 : Int32)), .val (.int p2), .val (.ref b298)] []))) (st300) ?_
  refine own_iloadN X300 hx hby d36_47 rfl ?_
  refine own_iconst X300 hx hby 2 d36_48 rfl ?_
  have hc49_301 : (1 : Int32) < (2 : Int32) := by decide
  refine own_icmpYes X300 hx hby 49 64 d36_49 (tlt hc49_301).1 (by decide) (by decide) ?_
  refine own_aloadN X300 hx hby d36_64 rfl rfl ?_
  exact own_retA X300 hx hlk Bd.returns rfl rfl (hb hby d36_65) (by decide) (by decide) (by rw [e300]; exact ⟨b298, k298, rfl, N300, KK, sz_b298, V298⟩)
theorem d36_52 : decode method_3_code 52 = .ok (.aload_n 2, 1) := by decide +kernel
theorem d36_53 : decode method_3_code 53 = .ok (.iconst 1, 1) := by decide +kernel
theorem d36_54 : decode method_3_code 54 = .ok (.iload_n 1, 1) := by decide +kernel
theorem d36_55 : decode method_3_code 55 = .ok (.bipush 8, 2) := by decide +kernel
theorem d36_57 : decode method_3_code 57 = .ok (.iushr, 1) := by decide +kernel
theorem d36_58 : decode method_3_code 58 = .ok (.sipush 255, 3) := by decide +kernel
theorem d36_61 : decode method_3_code 61 = .ok (.iand, 1) := by decide +kernel
theorem d36_62 : decode method_3_code 62 = .ok (.i2c, 1) := by decide +kernel
theorem d36_63 : decode method_3_code 63 = .ok (.castore, 1) := by decide +kernel
theorem ef_pa2 (m : MethodId) (x1 : Int32) : entryFrame m #[(.int (2 : Int32)), (.int x1)] 3 = mkF m 0 #[.val (.int (2 : Int32)), .val (.int x1), .unset] [] := by first | (simp [entryFrame, mkF, argsToLocals, Value.category]; done) | rfl
set_option maxRecDepth 65536 in
set_option maxHeartbeats 40000000 in
theorem rmpa2 (l : Launch) (Z : State) (a0 : Array Value) (hw : ∀ d ∈ tables_1, d.before a0 Z = true) (ws : List Jvm.Cond) (p2 : Int32) (h0 : Heap) (n0 : Nat) (Z0 : n0 ≤ h0.size)  :
    MetFree l mN_41 (head1 (Jvm.Cond.code mN_41 method_3_code 3 (some (.array .char)) :: ws) ({ frames := 0, cells := 1, slots := 4, locals := 0 } : Room)) (fun a U => a = #[(.int (2 : Int32)), (.int p2)] ∧ Z.Warmed39 U.vm ∧ U.heap = h0) (fun _ _ _ _ _ => True) (fun _ U o U' => ∃ v L, o = .returned v ∧ (Qpa Z (2 : Int32) p2 h0 n0) v U'.heap L ∧ FrameEnd U o U' L ({ frames := 0, cells := 1, slots := 4, locals := 0 } : Room).cells ({ frames := 0, cells := 1, slots := 4, locals := 0 } : Room).slots) := by
  refine MetFree.of_bodySF (plainFor_of_name pn_10) hisR ?_
  intro p e s m args below meth c s₁ Bd hml0 hP hK
  obtain ⟨rfl, hZ, hh⟩ := hP
  have hx := Bd.exec
  have hby := Bd.bytes
  have hml : c.maxLocals = 3 := hml0
  have hown : s.vm.findClass "com/example/handover/handover/ProblemToStringPinLaw" = some m.cls := findClass_of_methodNamed Bd.named
  have hnm := (name_of_methodNamed Bd.named Bd.method).1
  have hlk := Bd.notSynchronized
  have X0 : Stand p l e ({ frames := 0, cells := 1, slots := 4, locals := 0 } : Room) s m #[(.int (2 : Int32)), (.int p2)] below meth c s₁ [] 0 0 := Stand.of_body Bd
  have e0 : s₁.heap = h0 := by rw [← hh, Bd.state]; rfl
  have N0 := Fr.nil n0
  have KK := Keep.refl h0 []
  show own_Ends p e below s FrameEnd (Qpa Z (2 : Int32) p2 h0 n0) 1 4 (s₁.setTop (entryFrame m #[(.int (2 : Int32)), (.int p2)] 3))
  refine own_of (U' := (s₁.setTop (mkF m 0 #[.val (.int (2 : Int32)), .val (.int p2), .unset] []))) (fun _ k => castTop (ef_pa2 m p2) k) ?_
  refine own_iloadN X0 hx hby d36_0 rfl ?_
  refine own_iconst X0 hx hby 3 d36_1 rfl ?_
  have hc2_302 : ¬ ((2 : Int32) = (3 : Int32)) := by decide
  refine own_icmpYes X0 hx hby 2 29 d36_2 (feq hc2_302).2 (by decide) (by decide) ?_
  refine own_iloadN X0 hx hby d36_29 rfl ?_
  obtain ⟨T303, h303, k303, X303, e303, E303, A303, st303⟩ := newP X0 hx hZ (own_w hw 4 rfl) e0 (g := (mkF m 30 #[.val (.int (2 : Int32)), .val (.int p2), .unset] [(.int (2 : Int32))])) rfl (hb hby d36_30) rfl (by decide) (cap := 2) (by decide) (by decide) (by decide) (by decide)
  obtain ⟨b303, gz303⟩ : ∃ z, z = h0.size := ⟨_, rfl⟩
  rw [← gz303] at A303 st303
  have g_b303 : n0 ≤ b303 := Nat.le_trans Z0 (Nat.le_of_eq gz303.symm)
  have sz_b303 : h0.size ≤ b303 := Nat.le_trans KK.1 (Nat.le_of_eq gz303.symm)
  replace Z0 := Nat.le_trans Z0 E303.1
  replace KK := KK.ext E303
  have V303 : Arv Z h303 b303 k303 .char (2 : Int32) [(.int (0 : Int32)), (.int (0 : Int32))] (.int (0 : Int32)) := (Arv.new A303 (by decide)).pad (pad_rep [] (.int (0 : Int32)) 2)
  refine own_of (U' := (T303.setTop (mkF m 32 #[.val (.int (2 : Int32)), .val (.int p2), .unset] [(.ref b303)]))) (st303) ?_
  refine own_astoreN X303 hx hby d36_32 rfl (l' := #[.val (.int (2 : Int32)), .val (.int p2), .val (.ref b303)]) rfl ?_
  refine own_iloadN X303 hx hby d36_33 rfl ?_
  refine own_iconst X303 hx hby 1 d36_34 rfl ?_
  have hc35_304 : ¬ ((2 : Int32) < (1 : Int32)) := by decide
  refine own_icmpNo X303 hx hby d36_35 (flt hc35_304).1 ?_
  refine own_aloadN X303 hx hby d36_38 rfl rfl ?_
  refine own_iconst X303 hx hby 0 d36_39 rfl ?_
  refine own_iloadN X303 hx hby d36_40 rfl ?_
  refine own_sipush X303 hx hby 255 d36_41 rfl ?_
  refine own_iand X303 hx hby d36_44 ?_
  refine own_i2c X303 hx hby d36_45 ?_
  obtain ⟨cl305, Ar305, qa305, Sa305, Na305, Ha305, Ga305⟩ := V303
  have hin305 : ¬ ((0 : Int32) < 0 ∨ cl305.slots.size ≤ ((0 : Int32)).toNatClampNeg) := inb_of Sa305 ⟨by decide, by decide⟩
  obtain ⟨T305, h305, X305, e305, W305, st305⟩ := stC X303 hx hZ e303 Ar305 (j := (0 : Int32)) hin305 (g := (mkF m 46 #[.val (.int (2 : Int32)), .val (.int p2), .val (.ref b303)] [(.int ((p2 &&& (255 : Int32)).toUInt32.toUInt16.toUInt32.toInt32)), (.int (0 : Int32)), (.ref b303)])) rfl rfl (hb hby d36_46)
  replace V303 : Arv Z h305 b303 k303 .char (2 : Int32) [(.int (nar .char ((p2 &&& (255 : Int32)).toUInt32.toUInt16.toUInt32.toInt32))), (.int (0 : Int32))] (.int (0 : Int32)) := Arv.set Ar305 qa305 Sa305 Na305 Ha305 Ga305 (fits_nar_char _) W305 0 rfl (Nat.le_of_ble_eq_true rfl)
  replace Z0 := Nat.le_trans Z0 (Keep.of_wr W305).1
  replace KK := KK.wr W305 (Or.inr sz_b303)
  have N305 := Fr.snoc X305 N0 g_b303
  refine own_of (U' := (T305.setTop (mkF m 47 #[.val (.int (2 : Int32)), .val (.int p2), .val (.ref b303)] []))) (st305) ?_
  refine own_iloadN X305 hx hby d36_47 rfl ?_
  refine own_iconst X305 hx hby 2 d36_48 rfl ?_
  have hc49_306 : ¬ ((2 : Int32) < (2 : Int32)) := by decide
  refine own_icmpNo X305 hx hby d36_49 (flt hc49_306).1 ?_
  refine own_aloadN X305 hx hby d36_52 rfl rfl ?_
  refine own_iconst X305 hx hby 1 d36_53 rfl ?_
  refine own_iloadN X305 hx hby d36_54 rfl ?_
  refine own_bipush X305 hx hby 8 d36_55 rfl ?_
  refine own_iushr X305 hx hby d36_57 ?_
  refine own_sipush X305 hx hby 255 d36_58 rfl ?_
  refine own_iand X305 hx hby d36_61 ?_
  refine own_i2c X305 hx hby d36_62 ?_
  obtain ⟨cl307, Ar307, qa307, Sa307, Na307, Ha307, Ga307⟩ := V303
  have hin307 : ¬ ((1 : Int32) < 0 ∨ cl307.slots.size ≤ ((1 : Int32)).toNatClampNeg) := inb_of Sa307 ⟨by decide, by decide⟩
  obtain ⟨T307, h307, X307, e307, W307, st307⟩ := stC X305 hx hZ e305 Ar307 (j := (1 : Int32)) hin307 (g := (mkF m 63 #[.val (.int (2 : Int32)), .val (.int p2), .val (.ref b303)] [(.int (((XT.ushr p2 (8 : Int32)) &&& (255 : Int32)).toUInt32.toUInt16.toUInt32.toInt32)), (.int (1 : Int32)), (.ref b303)])) rfl rfl (hb hby d36_63)
  replace V303 : Arv Z h307 b303 k303 .char (2 : Int32) [(.int (nar .char ((p2 &&& (255 : Int32)).toUInt32.toUInt16.toUInt32.toInt32))), (.int (nar .char (((XT.ushr p2 (8 : Int32)) &&& (255 : Int32)).toUInt32.toUInt16.toUInt32.toInt32)))] (.int (0 : Int32)) := Arv.set Ar307 qa307 Sa307 Na307 Ha307 Ga307 (fits_nar_char _) W307 1 rfl (Nat.le_of_ble_eq_true rfl)
  replace Z0 := Nat.le_trans Z0 (Keep.of_wr W307).1
  replace KK := KK.wr W307 (Or.inr sz_b303)
  have N307 := Fr.snoc X307 N305 g_b303
  refine own_of (U' := (T307.setTop (mkF m 64 #[.val (.int (2 : Int32)), .val (.int p2), .val (.ref b303)] []))) (st307) ?_
  refine own_aloadN X307 hx hby d36_64 rfl rfl ?_
  exact own_retA X307 hx hlk Bd.returns rfl rfl (hb hby d36_65) (by decide) (by decide) (by rw [e307]; exact ⟨b303, k303, rfl, N307, KK, sz_b303, V303⟩)
theorem d36_5 : decode method_3_code 5 = .ok (.iconst 4, 1) := by decide +kernel
theorem d36_6 : decode method_3_code 6 = .ok (.newarray .char, 2) := by decide +kernel
theorem d36_8 : decode method_3_code 8 = .ok (.dup, 1) := by decide +kernel
theorem d36_9 : decode method_3_code 9 = .ok (.iconst 0, 1) := by decide +kernel
theorem d36_10 : decode method_3_code 10 = .ok (.bipush 110, 2) := by decide +kernel
theorem d36_12 : decode method_3_code 12 = .ok (.castore, 1) := by decide +kernel
theorem d36_13 : decode method_3_code 13 = .ok (.dup, 1) := by decide +kernel
theorem d36_14 : decode method_3_code 14 = .ok (.iconst 1, 1) := by decide +kernel
theorem d36_15 : decode method_3_code 15 = .ok (.bipush 117, 2) := by decide +kernel
theorem d36_17 : decode method_3_code 17 = .ok (.castore, 1) := by decide +kernel
theorem d36_18 : decode method_3_code 18 = .ok (.dup, 1) := by decide +kernel
theorem d36_19 : decode method_3_code 19 = .ok (.iconst 2, 1) := by decide +kernel
theorem d36_20 : decode method_3_code 20 = .ok (.bipush 108, 2) := by decide +kernel
theorem d36_22 : decode method_3_code 22 = .ok (.castore, 1) := by decide +kernel
theorem d36_23 : decode method_3_code 23 = .ok (.dup, 1) := by decide +kernel
theorem d36_24 : decode method_3_code 24 = .ok (.iconst 3, 1) := by decide +kernel
theorem d36_25 : decode method_3_code 25 = .ok (.bipush 108, 2) := by decide +kernel
theorem d36_27 : decode method_3_code 27 = .ok (.castore, 1) := by decide +kernel
theorem d36_28 : decode method_3_code 28 = .ok (.areturn, 1) := by decide +kernel
theorem ef_pa3 (m : MethodId) (x1 : Int32) : entryFrame m #[(.int (3 : Int32)), (.int x1)] 3 = mkF m 0 #[.val (.int (3 : Int32)), .val (.int x1), .unset] [] := by first | (simp [entryFrame, mkF, argsToLocals, Value.category]; done) | rfl
set_option maxRecDepth 65536 in
set_option maxHeartbeats 40000000 in
theorem rmpa3 (l : Launch) (Z : State) (a0 : Array Value) (hw : ∀ d ∈ tables_1, d.before a0 Z = true) (ws : List Jvm.Cond) (p2 : Int32) (h0 : Heap) (n0 : Nat) (Z0 : n0 ≤ h0.size)  :
    MetFree l mN_41 (head1 (Jvm.Cond.code mN_41 method_3_code 3 (some (.array .char)) :: ws) ({ frames := 0, cells := 1, slots := 4, locals := 0 } : Room)) (fun a U => a = #[(.int (3 : Int32)), (.int p2)] ∧ Z.Warmed39 U.vm ∧ U.heap = h0) (fun _ _ _ _ _ => True) (fun _ U o U' => ∃ v L, o = .returned v ∧ (Qpa Z (3 : Int32) p2 h0 n0) v U'.heap L ∧ FrameEnd U o U' L ({ frames := 0, cells := 1, slots := 4, locals := 0 } : Room).cells ({ frames := 0, cells := 1, slots := 4, locals := 0 } : Room).slots) := by
  refine MetFree.of_bodySF (plainFor_of_name pn_10) hisR ?_
  intro p e s m args below meth c s₁ Bd hml0 hP hK
  obtain ⟨rfl, hZ, hh⟩ := hP
  have hx := Bd.exec
  have hby := Bd.bytes
  have hml : c.maxLocals = 3 := hml0
  have hown : s.vm.findClass "com/example/handover/handover/ProblemToStringPinLaw" = some m.cls := findClass_of_methodNamed Bd.named
  have hnm := (name_of_methodNamed Bd.named Bd.method).1
  have hlk := Bd.notSynchronized
  have X0 : Stand p l e ({ frames := 0, cells := 1, slots := 4, locals := 0 } : Room) s m #[(.int (3 : Int32)), (.int p2)] below meth c s₁ [] 0 0 := Stand.of_body Bd
  have e0 : s₁.heap = h0 := by rw [← hh, Bd.state]; rfl
  have N0 := Fr.nil n0
  have KK := Keep.refl h0 []
  show own_Ends p e below s FrameEnd (Qpa Z (3 : Int32) p2 h0 n0) 1 4 (s₁.setTop (entryFrame m #[(.int (3 : Int32)), (.int p2)] 3))
  refine own_of (U' := (s₁.setTop (mkF m 0 #[.val (.int (3 : Int32)), .val (.int p2), .unset] []))) (fun _ k => castTop (ef_pa3 m p2) k) ?_
  refine own_iloadN X0 hx hby d36_0 rfl ?_
  refine own_iconst X0 hx hby 3 d36_1 rfl ?_
  have hc2_308 : (3 : Int32) = (3 : Int32) := by decide
  refine own_icmpNo X0 hx hby d36_2 (teq hc2_308).2 ?_
  refine own_iconst X0 hx hby 4 d36_5 rfl ?_
  obtain ⟨T309, h309, k309, X309, e309, E309, A309, st309⟩ := newP X0 hx hZ (own_w hw 4 rfl) e0 (g := (mkF m 6 #[.val (.int (3 : Int32)), .val (.int p2), .unset] [(.int (4 : Int32))])) rfl (hb hby d36_6) rfl (by decide) (cap := 4) (by decide) (by decide) (by decide) (by decide)
  obtain ⟨b309, gz309⟩ : ∃ z, z = h0.size := ⟨_, rfl⟩
  rw [← gz309] at A309 st309
  have g_b309 : n0 ≤ b309 := Nat.le_trans Z0 (Nat.le_of_eq gz309.symm)
  have sz_b309 : h0.size ≤ b309 := Nat.le_trans KK.1 (Nat.le_of_eq gz309.symm)
  replace Z0 := Nat.le_trans Z0 E309.1
  replace KK := KK.ext E309
  have V309 : Arv Z h309 b309 k309 .char (4 : Int32) [(.int (0 : Int32)), (.int (0 : Int32)), (.int (0 : Int32)), (.int (0 : Int32))] (.int (0 : Int32)) := (Arv.new A309 (by decide)).pad (pad_rep [] (.int (0 : Int32)) 4)
  refine own_of (U' := (T309.setTop (mkF m 8 #[.val (.int (3 : Int32)), .val (.int p2), .unset] [(.ref b309)]))) (st309) ?_
  refine own_dup X309 hx hby d36_8 rfl ?_
  refine own_iconst X309 hx hby 0 d36_9 rfl ?_
  refine own_bipush X309 hx hby 110 d36_10 rfl ?_
  obtain ⟨cl310, Ar310, qa310, Sa310, Na310, Ha310, Ga310⟩ := V309
  have hin310 : ¬ ((0 : Int32) < 0 ∨ cl310.slots.size ≤ ((0 : Int32)).toNatClampNeg) := inb_of Sa310 ⟨by decide, by decide⟩
  obtain ⟨T310, h310, X310, e310, W310, st310⟩ := stC X309 hx hZ e309 Ar310 (j := (0 : Int32)) hin310 (g := (mkF m 12 #[.val (.int (3 : Int32)), .val (.int p2), .unset] [(.int (110 : Int32)), (.int (0 : Int32)), (.ref b309), (.ref b309)])) rfl rfl (hb hby d36_12)
  replace V309 : Arv Z h310 b309 k309 .char (4 : Int32) [(.int (nar .char (110 : Int32))), (.int (0 : Int32)), (.int (0 : Int32)), (.int (0 : Int32))] (.int (0 : Int32)) := Arv.set Ar310 qa310 Sa310 Na310 Ha310 Ga310 (fits_nar_char _) W310 0 rfl (Nat.le_of_ble_eq_true rfl)
  replace Z0 := Nat.le_trans Z0 (Keep.of_wr W310).1
  replace KK := KK.wr W310 (Or.inr sz_b309)
  have N310 := Fr.snoc X310 N0 g_b309
  refine own_of (U' := (T310.setTop (mkF m 13 #[.val (.int (3 : Int32)), .val (.int p2), .unset] [(.ref b309)]))) (st310) ?_
  refine own_dup X310 hx hby d36_13 rfl ?_
  refine own_iconst X310 hx hby 1 d36_14 rfl ?_
  refine own_bipush X310 hx hby 117 d36_15 rfl ?_
  obtain ⟨cl311, Ar311, qa311, Sa311, Na311, Ha311, Ga311⟩ := V309
  have hin311 : ¬ ((1 : Int32) < 0 ∨ cl311.slots.size ≤ ((1 : Int32)).toNatClampNeg) := inb_of Sa311 ⟨by decide, by decide⟩
  obtain ⟨T311, h311, X311, e311, W311, st311⟩ := stC X310 hx hZ e310 Ar311 (j := (1 : Int32)) hin311 (g := (mkF m 17 #[.val (.int (3 : Int32)), .val (.int p2), .unset] [(.int (117 : Int32)), (.int (1 : Int32)), (.ref b309), (.ref b309)])) rfl rfl (hb hby d36_17)
  replace V309 : Arv Z h311 b309 k309 .char (4 : Int32) [(.int (nar .char (110 : Int32))), (.int (nar .char (117 : Int32))), (.int (0 : Int32)), (.int (0 : Int32))] (.int (0 : Int32)) := Arv.set Ar311 qa311 Sa311 Na311 Ha311 Ga311 (fits_nar_char _) W311 1 rfl (Nat.le_of_ble_eq_true rfl)
  replace Z0 := Nat.le_trans Z0 (Keep.of_wr W311).1
  replace KK := KK.wr W311 (Or.inr sz_b309)
  have N311 := Fr.snoc X311 N310 g_b309
  refine own_of (U' := (T311.setTop (mkF m 18 #[.val (.int (3 : Int32)), .val (.int p2), .unset] [(.ref b309)]))) (st311) ?_
  refine own_dup X311 hx hby d36_18 rfl ?_
  refine own_iconst X311 hx hby 2 d36_19 rfl ?_
  refine own_bipush X311 hx hby 108 d36_20 rfl ?_
  obtain ⟨cl312, Ar312, qa312, Sa312, Na312, Ha312, Ga312⟩ := V309
  have hin312 : ¬ ((2 : Int32) < 0 ∨ cl312.slots.size ≤ ((2 : Int32)).toNatClampNeg) := inb_of Sa312 ⟨by decide, by decide⟩
  obtain ⟨T312, h312, X312, e312, W312, st312⟩ := stC X311 hx hZ e311 Ar312 (j := (2 : Int32)) hin312 (g := (mkF m 22 #[.val (.int (3 : Int32)), .val (.int p2), .unset] [(.int (108 : Int32)), (.int (2 : Int32)), (.ref b309), (.ref b309)])) rfl rfl (hb hby d36_22)
  replace V309 : Arv Z h312 b309 k309 .char (4 : Int32) [(.int (nar .char (110 : Int32))), (.int (nar .char (117 : Int32))), (.int (nar .char (108 : Int32))), (.int (0 : Int32))] (.int (0 : Int32)) := Arv.set Ar312 qa312 Sa312 Na312 Ha312 Ga312 (fits_nar_char _) W312 2 rfl (Nat.le_of_ble_eq_true rfl)
  replace Z0 := Nat.le_trans Z0 (Keep.of_wr W312).1
  replace KK := KK.wr W312 (Or.inr sz_b309)
  have N312 := Fr.snoc X312 N311 g_b309
  refine own_of (U' := (T312.setTop (mkF m 23 #[.val (.int (3 : Int32)), .val (.int p2), .unset] [(.ref b309)]))) (st312) ?_
  refine own_dup X312 hx hby d36_23 rfl ?_
  refine own_iconst X312 hx hby 3 d36_24 rfl ?_
  refine own_bipush X312 hx hby 108 d36_25 rfl ?_
  obtain ⟨cl313, Ar313, qa313, Sa313, Na313, Ha313, Ga313⟩ := V309
  have hin313 : ¬ ((3 : Int32) < 0 ∨ cl313.slots.size ≤ ((3 : Int32)).toNatClampNeg) := inb_of Sa313 ⟨by decide, by decide⟩
  obtain ⟨T313, h313, X313, e313, W313, st313⟩ := stC X312 hx hZ e312 Ar313 (j := (3 : Int32)) hin313 (g := (mkF m 27 #[.val (.int (3 : Int32)), .val (.int p2), .unset] [(.int (108 : Int32)), (.int (3 : Int32)), (.ref b309), (.ref b309)])) rfl rfl (hb hby d36_27)
  replace V309 : Arv Z h313 b309 k309 .char (4 : Int32) [(.int (nar .char (110 : Int32))), (.int (nar .char (117 : Int32))), (.int (nar .char (108 : Int32))), (.int (nar .char (108 : Int32)))] (.int (0 : Int32)) := Arv.set Ar313 qa313 Sa313 Na313 Ha313 Ga313 (fits_nar_char _) W313 3 rfl (Nat.le_of_ble_eq_true rfl)
  replace Z0 := Nat.le_trans Z0 (Keep.of_wr W313).1
  replace KK := KK.wr W313 (Or.inr sz_b309)
  have N313 := Fr.snoc X313 N312 g_b309
  refine own_of (U' := (T313.setTop (mkF m 28 #[.val (.int (3 : Int32)), .val (.int p2), .unset] [(.ref b309)]))) (st313) ?_
  exact own_retA X313 hx hlk Bd.returns rfl rfl (hb hby d36_28) (by decide) (by decide) (by rw [e313]; exact ⟨b309, k309, rfl, N313, KK, sz_b309, (by have q := V309; rw [show nar .char (110 : Int32) = 110 by decide, show nar .char (117 : Int32) = 117 by decide, show nar .char (108 : Int32) = 108 by decide] at q; exact q)⟩)
set_option maxRecDepth 65536 in
theorem rmpa (l : Launch) (Z : State) (a0 : Array Value) (hw : ∀ d ∈ tables_1, d.before a0 Z = true) (ws : List Jvm.Cond) (k p2 : Int32) (h0 : Heap) (n0 : Nat) (Z0 : n0 ≤ h0.size) (hk : k = 0 ∨ k = 1 ∨ k = 2 ∨ k = 3) :
    MetFree l mN_41 (head1 (Jvm.Cond.code mN_41 method_3_code 3 (some (.array .char)) :: ws) ({ frames := 0, cells := 1, slots := 4, locals := 0 } : Room)) (fun a U => a = #[(.int k), (.int p2)] ∧ Z.Warmed39 U.vm ∧ U.heap = h0) (fun _ _ _ _ _ => True) (fun _ U o U' => ∃ v L, o = .returned v ∧ (Qpa Z k p2 h0 n0) v U'.heap L ∧ FrameEnd U o U' L ({ frames := 0, cells := 1, slots := 4, locals := 0 } : Room).cells ({ frames := 0, cells := 1, slots := 4, locals := 0 } : Room).slots) := by
  rcases hk with rfl | rfl | rfl | rfl
  · exact rmpa0 l Z a0 hw ws p2 h0 n0 Z0
  · exact rmpa1 l Z a0 hw ws p2 h0 n0 Z0
  · exact rmpa2 l Z a0 hw ws p2 h0 n0 Z0
  · exact rmpa3 l Z a0 hw ws p2 h0 n0 Z0
def Qc4 (Z : State) (b : Addr) (kb : ClassId) (z : Int32) (cs us : List Int32) (h0 : Heap) (n0 : Nat) (v : Option Value) (h : Heap) (L : List Loc) : Prop := ∃ r : Int32, v = some (.int r) ∧ Fr n0 L ∧ Keep h0 h [b] ∧ r.toInt = (cs.length : Int) + us.length ∧ Arv Z h b kb .char z (List.map Value.int (cs ++ List.map (nar .char) us)) (.int (0 : Int32))
abbrev mN_42 : MethodName := ⟨"com/example/handover/handover/ProblemToStringPinLaw", "copy4", "([CI[C)I"⟩
theorem d37_0 : decode method_4_code 0 = .ok (.iload_n 1, 1) := by decide +kernel
theorem d37_1 : decode method_4_code 1 = .ok (.istore_n 3, 1) := by decide +kernel
theorem d37_2 : decode method_4_code 2 = .ok (.aload_n 2, 1) := by decide +kernel
theorem d37_3 : decode method_4_code 3 = .ok (.arraylength, 1) := by decide +kernel
theorem d37_4 : decode method_4_code 4 = .ok (.ifCond .le 13, 3) := by decide +kernel
theorem d37_17 : decode method_4_code 17 = .ok (.aload_n 2, 1) := by decide +kernel
theorem d37_18 : decode method_4_code 18 = .ok (.arraylength, 1) := by decide +kernel
theorem d37_19 : decode method_4_code 19 = .ok (.iconst 1, 1) := by decide +kernel
theorem d37_20 : decode method_4_code 20 = .ok (.if_icmp .le 13, 3) := by decide +kernel
theorem d37_33 : decode method_4_code 33 = .ok (.aload_n 2, 1) := by decide +kernel
theorem d37_34 : decode method_4_code 34 = .ok (.arraylength, 1) := by decide +kernel
theorem d37_35 : decode method_4_code 35 = .ok (.iconst 2, 1) := by decide +kernel
theorem d37_36 : decode method_4_code 36 = .ok (.if_icmp .le 13, 3) := by decide +kernel
theorem d37_49 : decode method_4_code 49 = .ok (.aload_n 2, 1) := by decide +kernel
theorem d37_50 : decode method_4_code 50 = .ok (.arraylength, 1) := by decide +kernel
theorem d37_51 : decode method_4_code 51 = .ok (.iconst 3, 1) := by decide +kernel
theorem d37_52 : decode method_4_code 52 = .ok (.if_icmp .le 13, 3) := by decide +kernel
theorem d37_65 : decode method_4_code 65 = .ok (.iload_n 3, 1) := by decide +kernel
theorem d37_66 : decode method_4_code 66 = .ok (.ireturn, 1) := by decide +kernel
theorem ef_c40 (m : MethodId) (x0 : Addr) (x1 : Int32) (x2 : Addr) : entryFrame m #[(.ref x0), (.int x1), (.ref x2)] 4 = mkF m 0 #[.val (.ref x0), .val (.int x1), .val (.ref x2), .unset] [] := by first | (simp [entryFrame, mkF, argsToLocals, Value.category]; done) | rfl
set_option maxRecDepth 65536 in
set_option maxHeartbeats 40000000 in
theorem rmc40 (l : Launch) (Z : State) (a0 : Array Value) (hw : ∀ d ∈ tables_1, d.before a0 Z = true) (ws : List Jvm.Cond) (b : Addr) (p2 : Int32) (a3 : Addr) (kb k3 : ClassId) (z : Int32) (cs : List Int32) (h0 : Heap) (n0 : Nat) (Z0 : n0 ≤ h0.size) (Vb : Arv Z h0 b kb .char z (List.map Value.int cs) (.int (0 : Int32))) (V3 : Arv Z h0 a3 k3 .char (0 : Int32) (List.map Value.int []) (.int (0 : Int32))) (g_b : n0 ≤ b) (n3b : a3 ≠ b) (hp : p2.toInt = cs.length) (hc : cs.length ≤ 900) (hf : (cs.length : Int) + 0 ≤ z.toInt) :
    MetFree l mN_42 (head1 (Jvm.Cond.code mN_42 method_4_code 4 (some .int) :: ws) ({ frames := 0, cells := 0, slots := 0, locals := 0 } : Room)) (fun a U => a = #[(.ref b), (.int p2), (.ref a3)] ∧ Z.Warmed39 U.vm ∧ U.heap = h0) (fun _ _ _ _ _ => True) (fun _ U o U' => ∃ v L, o = .returned v ∧ (Qc4 Z b kb z cs [] h0 n0) v U'.heap L ∧ FrameEnd U o U' L ({ frames := 0, cells := 0, slots := 0, locals := 0 } : Room).cells ({ frames := 0, cells := 0, slots := 0, locals := 0 } : Room).slots) := by
  refine MetFree.of_bodySF (plainFor_of_name pn_10) hisR ?_
  intro p e s m args below meth c s₁ Bd hml0 hP hK
  obtain ⟨rfl, hZ, hh⟩ := hP
  have hx := Bd.exec
  have hby := Bd.bytes
  have hml : c.maxLocals = 4 := hml0
  have hown : s.vm.findClass "com/example/handover/handover/ProblemToStringPinLaw" = some m.cls := findClass_of_methodNamed Bd.named
  have hnm := (name_of_methodNamed Bd.named Bd.method).1
  have hlk := Bd.notSynchronized
  have X0 : Stand p l e ({ frames := 0, cells := 0, slots := 0, locals := 0 } : Room) s m #[(.ref b), (.int p2), (.ref a3)] below meth c s₁ [] 0 0 := Stand.of_body Bd
  have e0 : s₁.heap = h0 := by rw [← hh, Bd.state]; rfl
  have N0 := Fr.nil n0
  have KK := Keep.refl h0 [b]
  show own_Ends p e below s FrameEnd (Qc4 Z b kb z cs [] h0 n0) 0 0 (s₁.setTop (entryFrame m #[(.ref b), (.int p2), (.ref a3)] 4))
  refine own_of (U' := (s₁.setTop (mkF m 0 #[.val (.ref b), .val (.int p2), .val (.ref a3), .unset] []))) (fun _ k => castTop (ef_c40 m b p2 a3) k) ?_
  refine own_iloadN X0 hx hby d37_0 rfl ?_
  refine own_istoreN X0 hx hby d37_1 (l' := #[.val (.ref b), .val (.int p2), .val (.ref a3), .val (.int p2)]) rfl ?_
  refine own_aloadN X0 hx hby d37_2 rfl rfl ?_
  obtain ⟨cl314, Ar314, qa314, Sa314, Na314, -, -⟩ := id V3
  have al314 := X0.arraylength hx (by rw [e0]; exact Ar314.1) (State.isArrayOf_alike hZ.alike Ar314.2.1) (g := (mkF m 3 #[.val (.ref b), .val (.int p2), .val (.ref a3), .val (.int p2)] [(.ref a3)])) rfl rfl (hb hby d37_3)
  rw [len_of Sa314 Na314] at al314
  refine own_of (U' := (s₁.setTop (mkF m 4 #[.val (.ref b), .val (.int p2), .val (.ref a3), .val (.int p2)] [(.int (0 : Int32))]))) (al314) ?_
  have hc4_315 : ¬ ((0 : Int32) < (0 : Int32)) := by decide
  refine own_ifYes X0 hx hby 4 17 d37_4 ((if0 _ _).trans (flt hc4_315).2.2.2) (by decide) (by decide) ?_
  refine own_aloadN X0 hx hby d37_17 rfl rfl ?_
  obtain ⟨cl316, Ar316, qa316, Sa316, Na316, -, -⟩ := id V3
  have al316 := X0.arraylength hx (by rw [e0]; exact Ar316.1) (State.isArrayOf_alike hZ.alike Ar316.2.1) (g := (mkF m 18 #[.val (.ref b), .val (.int p2), .val (.ref a3), .val (.int p2)] [(.ref a3)])) rfl rfl (hb hby d37_18)
  rw [len_of Sa316 Na316] at al316
  refine own_of (U' := (s₁.setTop (mkF m 19 #[.val (.ref b), .val (.int p2), .val (.ref a3), .val (.int p2)] [(.int (0 : Int32))]))) (al316) ?_
  refine own_iconst X0 hx hby 1 d37_19 rfl ?_
  have hc20_317 : ¬ ((1 : Int32) < (0 : Int32)) := by decide
  refine own_icmpYes X0 hx hby 20 33 d37_20 (flt hc20_317).2.2.2 (by decide) (by decide) ?_
  refine own_aloadN X0 hx hby d37_33 rfl rfl ?_
  obtain ⟨cl318, Ar318, qa318, Sa318, Na318, -, -⟩ := id V3
  have al318 := X0.arraylength hx (by rw [e0]; exact Ar318.1) (State.isArrayOf_alike hZ.alike Ar318.2.1) (g := (mkF m 34 #[.val (.ref b), .val (.int p2), .val (.ref a3), .val (.int p2)] [(.ref a3)])) rfl rfl (hb hby d37_34)
  rw [len_of Sa318 Na318] at al318
  refine own_of (U' := (s₁.setTop (mkF m 35 #[.val (.ref b), .val (.int p2), .val (.ref a3), .val (.int p2)] [(.int (0 : Int32))]))) (al318) ?_
  refine own_iconst X0 hx hby 2 d37_35 rfl ?_
  have hc36_319 : ¬ ((2 : Int32) < (0 : Int32)) := by decide
  refine own_icmpYes X0 hx hby 36 49 d37_36 (flt hc36_319).2.2.2 (by decide) (by decide) ?_
  refine own_aloadN X0 hx hby d37_49 rfl rfl ?_
  obtain ⟨cl320, Ar320, qa320, Sa320, Na320, -, -⟩ := id V3
  have al320 := X0.arraylength hx (by rw [e0]; exact Ar320.1) (State.isArrayOf_alike hZ.alike Ar320.2.1) (g := (mkF m 50 #[.val (.ref b), .val (.int p2), .val (.ref a3), .val (.int p2)] [(.ref a3)])) rfl rfl (hb hby d37_50)
  rw [len_of Sa320 Na320] at al320
  refine own_of (U' := (s₁.setTop (mkF m 51 #[.val (.ref b), .val (.int p2), .val (.ref a3), .val (.int p2)] [(.int (0 : Int32))]))) (al320) ?_
  refine own_iconst X0 hx hby 3 d37_51 rfl ?_
  have hc52_321 : ¬ ((3 : Int32) < (0 : Int32)) := by decide
  refine own_icmpYes X0 hx hby 52 65 d37_52 (flt hc52_321).2.2.2 (by decide) (by decide) ?_
  refine own_iloadN X0 hx hby d37_65 rfl ?_
  exact own_retI X0 hx hlk Bd.returns (hb hby d37_66) (by decide) (by decide) (by rw [e0]; exact ⟨p2, rfl, N0, KK, (by rw [own_n0 hp (by omega)]; rfl), (by rw [show cs ++ List.map (nar .char) ([] : List Int32) = cs from List.append_nil cs]; exact Vb)⟩)
theorem d37_7 : decode method_4_code 7 = .ok (.aload_n 0, 1) := by decide +kernel
theorem d37_8 : decode method_4_code 8 = .ok (.iload_n 3, 1) := by decide +kernel
theorem d37_9 : decode method_4_code 9 = .ok (.aload_n 2, 1) := by decide +kernel
theorem d37_10 : decode method_4_code 10 = .ok (.iconst 0, 1) := by decide +kernel
theorem d37_11 : decode method_4_code 11 = .ok (.caload, 1) := by decide +kernel
theorem d37_12 : decode method_4_code 12 = .ok (.castore, 1) := by decide +kernel
theorem d37_13 : decode method_4_code 13 = .ok (.iload_n 3, 1) := by decide +kernel
theorem d37_14 : decode method_4_code 14 = .ok (.iconst 1, 1) := by decide +kernel
theorem d37_15 : decode method_4_code 15 = .ok (.iadd, 1) := by decide +kernel
theorem d37_16 : decode method_4_code 16 = .ok (.istore_n 3, 1) := by decide +kernel
theorem ef_c41 (m : MethodId) (x0 : Addr) (x1 : Int32) (x2 : Addr) : entryFrame m #[(.ref x0), (.int x1), (.ref x2)] 4 = mkF m 0 #[.val (.ref x0), .val (.int x1), .val (.ref x2), .unset] [] := by first | (simp [entryFrame, mkF, argsToLocals, Value.category]; done) | rfl
set_option maxRecDepth 65536 in
set_option maxHeartbeats 40000000 in
theorem rmc41 (l : Launch) (Z : State) (a0 : Array Value) (hw : ∀ d ∈ tables_1, d.before a0 Z = true) (ws : List Jvm.Cond) (b : Addr) (p2 : Int32) (a3 : Addr) (kb k3 : ClassId) (z : Int32) (cs : List Int32) (q0 : Int32) (h0 : Heap) (n0 : Nat) (Z0 : n0 ≤ h0.size) (Vb : Arv Z h0 b kb .char z (List.map Value.int cs) (.int (0 : Int32))) (V3 : Arv Z h0 a3 k3 .char (1 : Int32) (List.map Value.int [q0]) (.int (0 : Int32))) (g_b : n0 ≤ b) (n3b : a3 ≠ b) (hp : p2.toInt = cs.length) (hc : cs.length ≤ 900) (hf : (cs.length : Int) + 1 ≤ z.toInt) :
    MetFree l mN_42 (head1 (Jvm.Cond.code mN_42 method_4_code 4 (some .int) :: ws) ({ frames := 0, cells := 0, slots := 0, locals := 0 } : Room)) (fun a U => a = #[(.ref b), (.int p2), (.ref a3)] ∧ Z.Warmed39 U.vm ∧ U.heap = h0) (fun _ _ _ _ _ => True) (fun _ U o U' => ∃ v L, o = .returned v ∧ (Qc4 Z b kb z cs [q0] h0 n0) v U'.heap L ∧ FrameEnd U o U' L ({ frames := 0, cells := 0, slots := 0, locals := 0 } : Room).cells ({ frames := 0, cells := 0, slots := 0, locals := 0 } : Room).slots) := by
  refine MetFree.of_bodySF (plainFor_of_name pn_10) hisR ?_
  intro p e s m args below meth c s₁ Bd hml0 hP hK
  obtain ⟨rfl, hZ, hh⟩ := hP
  have hx := Bd.exec
  have hby := Bd.bytes
  have hml : c.maxLocals = 4 := hml0
  have hown : s.vm.findClass "com/example/handover/handover/ProblemToStringPinLaw" = some m.cls := findClass_of_methodNamed Bd.named
  have hnm := (name_of_methodNamed Bd.named Bd.method).1
  have hlk := Bd.notSynchronized
  have X0 : Stand p l e ({ frames := 0, cells := 0, slots := 0, locals := 0 } : Room) s m #[(.ref b), (.int p2), (.ref a3)] below meth c s₁ [] 0 0 := Stand.of_body Bd
  have e0 : s₁.heap = h0 := by rw [← hh, Bd.state]; rfl
  have N0 := Fr.nil n0
  have KK := Keep.refl h0 [b]
  show own_Ends p e below s FrameEnd (Qc4 Z b kb z cs [q0] h0 n0) 0 0 (s₁.setTop (entryFrame m #[(.ref b), (.int p2), (.ref a3)] 4))
  refine own_of (U' := (s₁.setTop (mkF m 0 #[.val (.ref b), .val (.int p2), .val (.ref a3), .unset] []))) (fun _ k => castTop (ef_c41 m b p2 a3) k) ?_
  replace Vb := Arv.pad Vb (own_padk cs 1)
  replace Vb : Arv Z h0 b kb .char z (List.map Value.int (cs ++ [(0 : Int32)])) (.int (0 : Int32)) := Vb
  refine own_iloadN X0 hx hby d37_0 rfl ?_
  refine own_istoreN X0 hx hby d37_1 (l' := #[.val (.ref b), .val (.int p2), .val (.ref a3), .val (.int p2)]) rfl ?_
  refine own_aloadN X0 hx hby d37_2 rfl rfl ?_
  obtain ⟨cl322, Ar322, qa322, Sa322, Na322, -, -⟩ := id V3
  have al322 := X0.arraylength hx (by rw [e0]; exact Ar322.1) (State.isArrayOf_alike hZ.alike Ar322.2.1) (g := (mkF m 3 #[.val (.ref b), .val (.int p2), .val (.ref a3), .val (.int p2)] [(.ref a3)])) rfl rfl (hb hby d37_3)
  rw [len_of Sa322 Na322] at al322
  refine own_of (U' := (s₁.setTop (mkF m 4 #[.val (.ref b), .val (.int p2), .val (.ref a3), .val (.int p2)] [(.int (1 : Int32))]))) (al322) ?_
  have hc4_323 : (0 : Int32) < (1 : Int32) := by decide
  refine own_ifNo X0 hx hby d37_4 ((if0 _ _).trans (tlt hc4_323).2.2.2) ?_
  refine own_aloadN X0 hx hby d37_7 rfl rfl ?_
  refine own_iloadN X0 hx hby d37_8 rfl ?_
  refine own_aloadN X0 hx hby d37_9 rfl rfl ?_
  refine own_iconst X0 hx hby 0 d37_10 rfl ?_
  obtain ⟨cl324, Ar324, qa324, Sa324, Na324, Ha324, Ga324⟩ := id V3
  have hin324 : ¬ ((0 : Int32) < 0 ∨ cl324.slots.size ≤ ((0 : Int32)).toNatClampNeg) := inb_of Sa324 ⟨by decide, by decide⟩
  have hat324 : cl324.slots[((0 : Int32)).toNatClampNeg]? = some (.int q0) := Has.at Ha324 hin324 rfl
  refine own_of (U' := (s₁.setTop (mkF m 12 #[.val (.ref b), .val (.int p2), .val (.ref a3), .val (.int p2)] [(.int q0), (.int p2), (.ref b)]))) (X0.caload hx (j := (0 : Int32)) (v := (.int q0)) (by rw [e0]; exact Ar324.1) (State.isArrayOf_alike hZ.alike Ar324.2.1) Ar324.2.2 hin324 hat324 (g := (mkF m 11 #[.val (.ref b), .val (.int p2), .val (.ref a3), .val (.int p2)] [(.int (0 : Int32)), (.ref a3), (.int p2), (.ref b)])) rfl rfl (hb hby d37_11)) ?_
  obtain ⟨cl325, Ar325, qa325, Sa325, Na325, Ha325, Ga325⟩ := Vb
  have hin325 : ¬ (p2 < 0 ∨ cl325.slots.size ≤ (p2).toNatClampNeg) := inb_of Sa325 ⟨own_ge0 (by rw [own_n0 hp (by omega)]; omega), by rw [own_ltI, own_n0 hp (by omega)]; omega⟩
  obtain ⟨T325, h325, X325, e325, W325, st325⟩ := stC X0 hx hZ e0 Ar325 (j := p2) hin325 (g := (mkF m 12 #[.val (.ref b), .val (.int p2), .val (.ref a3), .val (.int p2)] [(.int q0), (.int p2), (.ref b)])) rfl rfl (hb hby d37_12)
  replace Vb : Arv Z h325 b kb .char z (List.map Value.int (cs ++ [(nar .char q0)])) (.int (0 : Int32)) := by have q := Arv.set Ar325 qa325 Sa325 Na325 Ha325 Ga325 (fits_nar_char _) W325 (cs.length + 0) (own_clamp (by rw [own_n0 hp (by omega)]; omega)) (by rw [List.length_map, List.length_append]; exact Nat.add_lt_add_left (by show 0 < 1; decide) _); rw [← List.map_set, List.set_append_right _ _ (Nat.le_add_right _ _), Nat.add_sub_cancel_left] at q; exact q
  replace Z0 := Nat.le_trans Z0 (Keep.of_wr W325).1
  replace V3 := V3.other W325 n3b
  replace KK := KK.wr W325 (Or.inl (List.mem_of_getElem? (i := 0) rfl))
  have N325 := Fr.snoc X325 N0 g_b
  refine own_of (U' := (T325.setTop (mkF m 13 #[.val (.ref b), .val (.int p2), .val (.ref a3), .val (.int p2)] []))) (st325) ?_
  refine own_iloadN X325 hx hby d37_13 rfl ?_
  refine own_iconst X325 hx hby 1 d37_14 rfl ?_
  refine own_iadd X325 hx hby d37_15 ?_
  refine own_istoreN X325 hx hby d37_16 (l' := #[.val (.ref b), .val (.int p2), .val (.ref a3), .val (.int (p2 + (1 : Int32)))]) rfl ?_
  refine own_aloadN X325 hx hby d37_17 rfl rfl ?_
  obtain ⟨cl326, Ar326, qa326, Sa326, Na326, -, -⟩ := id V3
  have al326 := X325.arraylength hx (by rw [e325]; exact Ar326.1) (State.isArrayOf_alike hZ.alike Ar326.2.1) (g := (mkF m 18 #[.val (.ref b), .val (.int p2), .val (.ref a3), .val (.int (p2 + (1 : Int32)))] [(.ref a3)])) rfl rfl (hb hby d37_18)
  rw [len_of Sa326 Na326] at al326
  refine own_of (U' := (T325.setTop (mkF m 19 #[.val (.ref b), .val (.int p2), .val (.ref a3), .val (.int (p2 + (1 : Int32)))] [(.int (1 : Int32))]))) (al326) ?_
  refine own_iconst X325 hx hby 1 d37_19 rfl ?_
  have hc20_327 : ¬ ((1 : Int32) < (1 : Int32)) := by decide
  refine own_icmpYes X325 hx hby 20 33 d37_20 (flt hc20_327).2.2.2 (by decide) (by decide) ?_
  refine own_aloadN X325 hx hby d37_33 rfl rfl ?_
  obtain ⟨cl328, Ar328, qa328, Sa328, Na328, -, -⟩ := id V3
  have al328 := X325.arraylength hx (by rw [e325]; exact Ar328.1) (State.isArrayOf_alike hZ.alike Ar328.2.1) (g := (mkF m 34 #[.val (.ref b), .val (.int p2), .val (.ref a3), .val (.int (p2 + (1 : Int32)))] [(.ref a3)])) rfl rfl (hb hby d37_34)
  rw [len_of Sa328 Na328] at al328
  refine own_of (U' := (T325.setTop (mkF m 35 #[.val (.ref b), .val (.int p2), .val (.ref a3), .val (.int (p2 + (1 : Int32)))] [(.int (1 : Int32))]))) (al328) ?_
  refine own_iconst X325 hx hby 2 d37_35 rfl ?_
  have hc36_329 : ¬ ((2 : Int32) < (1 : Int32)) := by decide
  refine own_icmpYes X325 hx hby 36 49 d37_36 (flt hc36_329).2.2.2 (by decide) (by decide) ?_
  refine own_aloadN X325 hx hby d37_49 rfl rfl ?_
  obtain ⟨cl330, Ar330, qa330, Sa330, Na330, -, -⟩ := id V3
  have al330 := X325.arraylength hx (by rw [e325]; exact Ar330.1) (State.isArrayOf_alike hZ.alike Ar330.2.1) (g := (mkF m 50 #[.val (.ref b), .val (.int p2), .val (.ref a3), .val (.int (p2 + (1 : Int32)))] [(.ref a3)])) rfl rfl (hb hby d37_50)
  rw [len_of Sa330 Na330] at al330
  refine own_of (U' := (T325.setTop (mkF m 51 #[.val (.ref b), .val (.int p2), .val (.ref a3), .val (.int (p2 + (1 : Int32)))] [(.int (1 : Int32))]))) (al330) ?_
  refine own_iconst X325 hx hby 3 d37_51 rfl ?_
  have hc52_331 : ¬ ((3 : Int32) < (1 : Int32)) := by decide
  refine own_icmpYes X325 hx hby 52 65 d37_52 (flt hc52_331).2.2.2 (by decide) (by decide) ?_
  refine own_iloadN X325 hx hby d37_65 rfl ?_
  exact own_retI X325 hx hlk Bd.returns (hb hby d37_66) (by decide) (by decide) (by rw [e325]; exact ⟨(p2 + (1 : Int32)), rfl, N325, KK, (by rw [own_n1 hp (by omega)]; rfl), Vb⟩)
theorem d37_23 : decode method_4_code 23 = .ok (.aload_n 0, 1) := by decide +kernel
theorem d37_24 : decode method_4_code 24 = .ok (.iload_n 3, 1) := by decide +kernel
theorem d37_25 : decode method_4_code 25 = .ok (.aload_n 2, 1) := by decide +kernel
theorem d37_26 : decode method_4_code 26 = .ok (.iconst 1, 1) := by decide +kernel
theorem d37_27 : decode method_4_code 27 = .ok (.caload, 1) := by decide +kernel
theorem d37_28 : decode method_4_code 28 = .ok (.castore, 1) := by decide +kernel
theorem d37_29 : decode method_4_code 29 = .ok (.iload_n 3, 1) := by decide +kernel
theorem d37_30 : decode method_4_code 30 = .ok (.iconst 1, 1) := by decide +kernel
theorem d37_31 : decode method_4_code 31 = .ok (.iadd, 1) := by decide +kernel
theorem d37_32 : decode method_4_code 32 = .ok (.istore_n 3, 1) := by decide +kernel
theorem ef_c42 (m : MethodId) (x0 : Addr) (x1 : Int32) (x2 : Addr) : entryFrame m #[(.ref x0), (.int x1), (.ref x2)] 4 = mkF m 0 #[.val (.ref x0), .val (.int x1), .val (.ref x2), .unset] [] := by first | (simp [entryFrame, mkF, argsToLocals, Value.category]; done) | rfl
set_option maxRecDepth 65536 in
set_option maxHeartbeats 40000000 in
theorem rmc42 (l : Launch) (Z : State) (a0 : Array Value) (hw : ∀ d ∈ tables_1, d.before a0 Z = true) (ws : List Jvm.Cond) (b : Addr) (p2 : Int32) (a3 : Addr) (kb k3 : ClassId) (z : Int32) (cs : List Int32) (q0 q1 : Int32) (h0 : Heap) (n0 : Nat) (Z0 : n0 ≤ h0.size) (Vb : Arv Z h0 b kb .char z (List.map Value.int cs) (.int (0 : Int32))) (V3 : Arv Z h0 a3 k3 .char (2 : Int32) (List.map Value.int [q0, q1]) (.int (0 : Int32))) (g_b : n0 ≤ b) (n3b : a3 ≠ b) (hp : p2.toInt = cs.length) (hc : cs.length ≤ 900) (hf : (cs.length : Int) + 2 ≤ z.toInt) :
    MetFree l mN_42 (head1 (Jvm.Cond.code mN_42 method_4_code 4 (some .int) :: ws) ({ frames := 0, cells := 0, slots := 0, locals := 0 } : Room)) (fun a U => a = #[(.ref b), (.int p2), (.ref a3)] ∧ Z.Warmed39 U.vm ∧ U.heap = h0) (fun _ _ _ _ _ => True) (fun _ U o U' => ∃ v L, o = .returned v ∧ (Qc4 Z b kb z cs [q0, q1] h0 n0) v U'.heap L ∧ FrameEnd U o U' L ({ frames := 0, cells := 0, slots := 0, locals := 0 } : Room).cells ({ frames := 0, cells := 0, slots := 0, locals := 0 } : Room).slots) := by
  refine MetFree.of_bodySF (plainFor_of_name pn_10) hisR ?_
  intro p e s m args below meth c s₁ Bd hml0 hP hK
  obtain ⟨rfl, hZ, hh⟩ := hP
  have hx := Bd.exec
  have hby := Bd.bytes
  have hml : c.maxLocals = 4 := hml0
  have hown : s.vm.findClass "com/example/handover/handover/ProblemToStringPinLaw" = some m.cls := findClass_of_methodNamed Bd.named
  have hnm := (name_of_methodNamed Bd.named Bd.method).1
  have hlk := Bd.notSynchronized
  have X0 : Stand p l e ({ frames := 0, cells := 0, slots := 0, locals := 0 } : Room) s m #[(.ref b), (.int p2), (.ref a3)] below meth c s₁ [] 0 0 := Stand.of_body Bd
  have e0 : s₁.heap = h0 := by rw [← hh, Bd.state]; rfl
  have N0 := Fr.nil n0
  have KK := Keep.refl h0 [b]
  show own_Ends p e below s FrameEnd (Qc4 Z b kb z cs [q0, q1] h0 n0) 0 0 (s₁.setTop (entryFrame m #[(.ref b), (.int p2), (.ref a3)] 4))
  refine own_of (U' := (s₁.setTop (mkF m 0 #[.val (.ref b), .val (.int p2), .val (.ref a3), .unset] []))) (fun _ k => castTop (ef_c42 m b p2 a3) k) ?_
  replace Vb := Arv.pad Vb (own_padk cs 2)
  replace Vb : Arv Z h0 b kb .char z (List.map Value.int (cs ++ [(0 : Int32), (0 : Int32)])) (.int (0 : Int32)) := Vb
  refine own_iloadN X0 hx hby d37_0 rfl ?_
  refine own_istoreN X0 hx hby d37_1 (l' := #[.val (.ref b), .val (.int p2), .val (.ref a3), .val (.int p2)]) rfl ?_
  refine own_aloadN X0 hx hby d37_2 rfl rfl ?_
  obtain ⟨cl332, Ar332, qa332, Sa332, Na332, -, -⟩ := id V3
  have al332 := X0.arraylength hx (by rw [e0]; exact Ar332.1) (State.isArrayOf_alike hZ.alike Ar332.2.1) (g := (mkF m 3 #[.val (.ref b), .val (.int p2), .val (.ref a3), .val (.int p2)] [(.ref a3)])) rfl rfl (hb hby d37_3)
  rw [len_of Sa332 Na332] at al332
  refine own_of (U' := (s₁.setTop (mkF m 4 #[.val (.ref b), .val (.int p2), .val (.ref a3), .val (.int p2)] [(.int (2 : Int32))]))) (al332) ?_
  have hc4_333 : (0 : Int32) < (2 : Int32) := by decide
  refine own_ifNo X0 hx hby d37_4 ((if0 _ _).trans (tlt hc4_333).2.2.2) ?_
  refine own_aloadN X0 hx hby d37_7 rfl rfl ?_
  refine own_iloadN X0 hx hby d37_8 rfl ?_
  refine own_aloadN X0 hx hby d37_9 rfl rfl ?_
  refine own_iconst X0 hx hby 0 d37_10 rfl ?_
  obtain ⟨cl334, Ar334, qa334, Sa334, Na334, Ha334, Ga334⟩ := id V3
  have hin334 : ¬ ((0 : Int32) < 0 ∨ cl334.slots.size ≤ ((0 : Int32)).toNatClampNeg) := inb_of Sa334 ⟨by decide, by decide⟩
  have hat334 : cl334.slots[((0 : Int32)).toNatClampNeg]? = some (.int q0) := Has.at Ha334 hin334 rfl
  refine own_of (U' := (s₁.setTop (mkF m 12 #[.val (.ref b), .val (.int p2), .val (.ref a3), .val (.int p2)] [(.int q0), (.int p2), (.ref b)]))) (X0.caload hx (j := (0 : Int32)) (v := (.int q0)) (by rw [e0]; exact Ar334.1) (State.isArrayOf_alike hZ.alike Ar334.2.1) Ar334.2.2 hin334 hat334 (g := (mkF m 11 #[.val (.ref b), .val (.int p2), .val (.ref a3), .val (.int p2)] [(.int (0 : Int32)), (.ref a3), (.int p2), (.ref b)])) rfl rfl (hb hby d37_11)) ?_
  obtain ⟨cl335, Ar335, qa335, Sa335, Na335, Ha335, Ga335⟩ := Vb
  have hin335 : ¬ (p2 < 0 ∨ cl335.slots.size ≤ (p2).toNatClampNeg) := inb_of Sa335 ⟨own_ge0 (by rw [own_n0 hp (by omega)]; omega), by rw [own_ltI, own_n0 hp (by omega)]; omega⟩
  obtain ⟨T335, h335, X335, e335, W335, st335⟩ := stC X0 hx hZ e0 Ar335 (j := p2) hin335 (g := (mkF m 12 #[.val (.ref b), .val (.int p2), .val (.ref a3), .val (.int p2)] [(.int q0), (.int p2), (.ref b)])) rfl rfl (hb hby d37_12)
  replace Vb : Arv Z h335 b kb .char z (List.map Value.int (cs ++ [(nar .char q0), (0 : Int32)])) (.int (0 : Int32)) := by have q := Arv.set Ar335 qa335 Sa335 Na335 Ha335 Ga335 (fits_nar_char _) W335 (cs.length + 0) (own_clamp (by rw [own_n0 hp (by omega)]; omega)) (by rw [List.length_map, List.length_append]; exact Nat.add_lt_add_left (by show 0 < 2; decide) _); rw [← List.map_set, List.set_append_right _ _ (Nat.le_add_right _ _), Nat.add_sub_cancel_left] at q; exact q
  replace Z0 := Nat.le_trans Z0 (Keep.of_wr W335).1
  replace V3 := V3.other W335 n3b
  replace KK := KK.wr W335 (Or.inl (List.mem_of_getElem? (i := 0) rfl))
  have N335 := Fr.snoc X335 N0 g_b
  refine own_of (U' := (T335.setTop (mkF m 13 #[.val (.ref b), .val (.int p2), .val (.ref a3), .val (.int p2)] []))) (st335) ?_
  refine own_iloadN X335 hx hby d37_13 rfl ?_
  refine own_iconst X335 hx hby 1 d37_14 rfl ?_
  refine own_iadd X335 hx hby d37_15 ?_
  refine own_istoreN X335 hx hby d37_16 (l' := #[.val (.ref b), .val (.int p2), .val (.ref a3), .val (.int (p2 + (1 : Int32)))]) rfl ?_
  refine own_aloadN X335 hx hby d37_17 rfl rfl ?_
  obtain ⟨cl336, Ar336, qa336, Sa336, Na336, -, -⟩ := id V3
  have al336 := X335.arraylength hx (by rw [e335]; exact Ar336.1) (State.isArrayOf_alike hZ.alike Ar336.2.1) (g := (mkF m 18 #[.val (.ref b), .val (.int p2), .val (.ref a3), .val (.int (p2 + (1 : Int32)))] [(.ref a3)])) rfl rfl (hb hby d37_18)
  rw [len_of Sa336 Na336] at al336
  refine own_of (U' := (T335.setTop (mkF m 19 #[.val (.ref b), .val (.int p2), .val (.ref a3), .val (.int (p2 + (1 : Int32)))] [(.int (2 : Int32))]))) (al336) ?_
  refine own_iconst X335 hx hby 1 d37_19 rfl ?_
  have hc20_337 : (1 : Int32) < (2 : Int32) := by decide
  refine own_icmpNo X335 hx hby d37_20 (tlt hc20_337).2.2.2 ?_
  refine own_aloadN X335 hx hby d37_23 rfl rfl ?_
  refine own_iloadN X335 hx hby d37_24 rfl ?_
  refine own_aloadN X335 hx hby d37_25 rfl rfl ?_
  refine own_iconst X335 hx hby 1 d37_26 rfl ?_
  obtain ⟨cl338, Ar338, qa338, Sa338, Na338, Ha338, Ga338⟩ := id V3
  have hin338 : ¬ ((1 : Int32) < 0 ∨ cl338.slots.size ≤ ((1 : Int32)).toNatClampNeg) := inb_of Sa338 ⟨by decide, by decide⟩
  have hat338 : cl338.slots[((1 : Int32)).toNatClampNeg]? = some (.int q1) := Has.at Ha338 hin338 rfl
  refine own_of (U' := (T335.setTop (mkF m 28 #[.val (.ref b), .val (.int p2), .val (.ref a3), .val (.int (p2 + (1 : Int32)))] [(.int q1), (.int (p2 + (1 : Int32))), (.ref b)]))) (X335.caload hx (j := (1 : Int32)) (v := (.int q1)) (by rw [e335]; exact Ar338.1) (State.isArrayOf_alike hZ.alike Ar338.2.1) Ar338.2.2 hin338 hat338 (g := (mkF m 27 #[.val (.ref b), .val (.int p2), .val (.ref a3), .val (.int (p2 + (1 : Int32)))] [(.int (1 : Int32)), (.ref a3), (.int (p2 + (1 : Int32))), (.ref b)])) rfl rfl (hb hby d37_27)) ?_
  obtain ⟨cl339, Ar339, qa339, Sa339, Na339, Ha339, Ga339⟩ := Vb
  have hin339 : ¬ ((p2 + (1 : Int32)) < 0 ∨ cl339.slots.size ≤ ((p2 + (1 : Int32))).toNatClampNeg) := inb_of Sa339 ⟨own_ge0 (by rw [own_n1 hp (by omega)]; omega), by rw [own_ltI, own_n1 hp (by omega)]; omega⟩
  obtain ⟨T339, h339, X339, e339, W339, st339⟩ := stC X335 hx hZ e335 Ar339 (j := (p2 + (1 : Int32))) hin339 (g := (mkF m 28 #[.val (.ref b), .val (.int p2), .val (.ref a3), .val (.int (p2 + (1 : Int32)))] [(.int q1), (.int (p2 + (1 : Int32))), (.ref b)])) rfl rfl (hb hby d37_28)
  replace Vb : Arv Z h339 b kb .char z (List.map Value.int (cs ++ [(nar .char q0), (nar .char q1)])) (.int (0 : Int32)) := by have q := Arv.set Ar339 qa339 Sa339 Na339 Ha339 Ga339 (fits_nar_char _) W339 (cs.length + 1) (own_clamp (by rw [own_n1 hp (by omega)]; omega)) (by rw [List.length_map, List.length_append]; exact Nat.add_lt_add_left (by show 1 < 2; decide) _); rw [← List.map_set, List.set_append_right _ _ (Nat.le_add_right _ _), Nat.add_sub_cancel_left] at q; exact q
  replace Z0 := Nat.le_trans Z0 (Keep.of_wr W339).1
  replace V3 := V3.other W339 n3b
  replace KK := KK.wr W339 (Or.inl (List.mem_of_getElem? (i := 0) rfl))
  have N339 := Fr.snoc X339 N335 g_b
  refine own_of (U' := (T339.setTop (mkF m 29 #[.val (.ref b), .val (.int p2), .val (.ref a3), .val (.int (p2 + (1 : Int32)))] []))) (st339) ?_
  refine own_iloadN X339 hx hby d37_29 rfl ?_
  refine own_iconst X339 hx hby 1 d37_30 rfl ?_
  refine own_iadd X339 hx hby d37_31 ?_
  refine own_istoreN X339 hx hby d37_32 (l' := #[.val (.ref b), .val (.int p2), .val (.ref a3), .val (.int ((p2 + (1 : Int32)) + (1 : Int32)))]) rfl ?_
  refine own_aloadN X339 hx hby d37_33 rfl rfl ?_
  obtain ⟨cl340, Ar340, qa340, Sa340, Na340, -, -⟩ := id V3
  have al340 := X339.arraylength hx (by rw [e339]; exact Ar340.1) (State.isArrayOf_alike hZ.alike Ar340.2.1) (g := (mkF m 34 #[.val (.ref b), .val (.int p2), .val (.ref a3), .val (.int ((p2 + (1 : Int32)) + (1 : Int32)))] [(.ref a3)])) rfl rfl (hb hby d37_34)
  rw [len_of Sa340 Na340] at al340
  refine own_of (U' := (T339.setTop (mkF m 35 #[.val (.ref b), .val (.int p2), .val (.ref a3), .val (.int ((p2 + (1 : Int32)) + (1 : Int32)))] [(.int (2 : Int32))]))) (al340) ?_
  refine own_iconst X339 hx hby 2 d37_35 rfl ?_
  have hc36_341 : ¬ ((2 : Int32) < (2 : Int32)) := by decide
  refine own_icmpYes X339 hx hby 36 49 d37_36 (flt hc36_341).2.2.2 (by decide) (by decide) ?_
  refine own_aloadN X339 hx hby d37_49 rfl rfl ?_
  obtain ⟨cl342, Ar342, qa342, Sa342, Na342, -, -⟩ := id V3
  have al342 := X339.arraylength hx (by rw [e339]; exact Ar342.1) (State.isArrayOf_alike hZ.alike Ar342.2.1) (g := (mkF m 50 #[.val (.ref b), .val (.int p2), .val (.ref a3), .val (.int ((p2 + (1 : Int32)) + (1 : Int32)))] [(.ref a3)])) rfl rfl (hb hby d37_50)
  rw [len_of Sa342 Na342] at al342
  refine own_of (U' := (T339.setTop (mkF m 51 #[.val (.ref b), .val (.int p2), .val (.ref a3), .val (.int ((p2 + (1 : Int32)) + (1 : Int32)))] [(.int (2 : Int32))]))) (al342) ?_
  refine own_iconst X339 hx hby 3 d37_51 rfl ?_
  have hc52_343 : ¬ ((3 : Int32) < (2 : Int32)) := by decide
  refine own_icmpYes X339 hx hby 52 65 d37_52 (flt hc52_343).2.2.2 (by decide) (by decide) ?_
  refine own_iloadN X339 hx hby d37_65 rfl ?_
  exact own_retI X339 hx hlk Bd.returns (hb hby d37_66) (by decide) (by decide) (by rw [e339]; exact ⟨((p2 + (1 : Int32)) + (1 : Int32)), rfl, N339, KK, (by rw [own_n2 hp (by omega)]; rfl), Vb⟩)
theorem d37_39 : decode method_4_code 39 = .ok (.aload_n 0, 1) := by decide +kernel
theorem d37_40 : decode method_4_code 40 = .ok (.iload_n 3, 1) := by decide +kernel
theorem d37_41 : decode method_4_code 41 = .ok (.aload_n 2, 1) := by decide +kernel
theorem d37_42 : decode method_4_code 42 = .ok (.iconst 2, 1) := by decide +kernel
theorem d37_43 : decode method_4_code 43 = .ok (.caload, 1) := by decide +kernel
theorem d37_44 : decode method_4_code 44 = .ok (.castore, 1) := by decide +kernel
theorem d37_45 : decode method_4_code 45 = .ok (.iload_n 3, 1) := by decide +kernel
theorem d37_46 : decode method_4_code 46 = .ok (.iconst 1, 1) := by decide +kernel
theorem d37_47 : decode method_4_code 47 = .ok (.iadd, 1) := by decide +kernel
theorem d37_48 : decode method_4_code 48 = .ok (.istore_n 3, 1) := by decide +kernel
theorem d37_55 : decode method_4_code 55 = .ok (.aload_n 0, 1) := by decide +kernel
theorem d37_56 : decode method_4_code 56 = .ok (.iload_n 3, 1) := by decide +kernel
theorem d37_57 : decode method_4_code 57 = .ok (.aload_n 2, 1) := by decide +kernel
theorem d37_58 : decode method_4_code 58 = .ok (.iconst 3, 1) := by decide +kernel
theorem d37_59 : decode method_4_code 59 = .ok (.caload, 1) := by decide +kernel
theorem d37_60 : decode method_4_code 60 = .ok (.castore, 1) := by decide +kernel
theorem d37_61 : decode method_4_code 61 = .ok (.iload_n 3, 1) := by decide +kernel
theorem d37_62 : decode method_4_code 62 = .ok (.iconst 1, 1) := by decide +kernel
theorem d37_63 : decode method_4_code 63 = .ok (.iadd, 1) := by decide +kernel
theorem d37_64 : decode method_4_code 64 = .ok (.istore_n 3, 1) := by decide +kernel
theorem ef_c44 (m : MethodId) (x0 : Addr) (x1 : Int32) (x2 : Addr) : entryFrame m #[(.ref x0), (.int x1), (.ref x2)] 4 = mkF m 0 #[.val (.ref x0), .val (.int x1), .val (.ref x2), .unset] [] := by first | (simp [entryFrame, mkF, argsToLocals, Value.category]; done) | rfl
set_option maxRecDepth 65536 in
set_option maxHeartbeats 40000000 in
theorem rmc44 (l : Launch) (Z : State) (a0 : Array Value) (hw : ∀ d ∈ tables_1, d.before a0 Z = true) (ws : List Jvm.Cond) (b : Addr) (p2 : Int32) (a3 : Addr) (kb k3 : ClassId) (z : Int32) (cs : List Int32) (q0 q1 q2 q3 : Int32) (h0 : Heap) (n0 : Nat) (Z0 : n0 ≤ h0.size) (Vb : Arv Z h0 b kb .char z (List.map Value.int cs) (.int (0 : Int32))) (V3 : Arv Z h0 a3 k3 .char (4 : Int32) (List.map Value.int [q0, q1, q2, q3]) (.int (0 : Int32))) (g_b : n0 ≤ b) (n3b : a3 ≠ b) (hp : p2.toInt = cs.length) (hc : cs.length ≤ 900) (hf : (cs.length : Int) + 4 ≤ z.toInt) :
    MetFree l mN_42 (head1 (Jvm.Cond.code mN_42 method_4_code 4 (some .int) :: ws) ({ frames := 0, cells := 0, slots := 0, locals := 0 } : Room)) (fun a U => a = #[(.ref b), (.int p2), (.ref a3)] ∧ Z.Warmed39 U.vm ∧ U.heap = h0) (fun _ _ _ _ _ => True) (fun _ U o U' => ∃ v L, o = .returned v ∧ (Qc4 Z b kb z cs [q0, q1, q2, q3] h0 n0) v U'.heap L ∧ FrameEnd U o U' L ({ frames := 0, cells := 0, slots := 0, locals := 0 } : Room).cells ({ frames := 0, cells := 0, slots := 0, locals := 0 } : Room).slots) := by
  refine MetFree.of_bodySF (plainFor_of_name pn_10) hisR ?_
  intro p e s m args below meth c s₁ Bd hml0 hP hK
  obtain ⟨rfl, hZ, hh⟩ := hP
  have hx := Bd.exec
  have hby := Bd.bytes
  have hml : c.maxLocals = 4 := hml0
  have hown : s.vm.findClass "com/example/handover/handover/ProblemToStringPinLaw" = some m.cls := findClass_of_methodNamed Bd.named
  have hnm := (name_of_methodNamed Bd.named Bd.method).1
  have hlk := Bd.notSynchronized
  have X0 : Stand p l e ({ frames := 0, cells := 0, slots := 0, locals := 0 } : Room) s m #[(.ref b), (.int p2), (.ref a3)] below meth c s₁ [] 0 0 := Stand.of_body Bd
  have e0 : s₁.heap = h0 := by rw [← hh, Bd.state]; rfl
  have N0 := Fr.nil n0
  have KK := Keep.refl h0 [b]
  show own_Ends p e below s FrameEnd (Qc4 Z b kb z cs [q0, q1, q2, q3] h0 n0) 0 0 (s₁.setTop (entryFrame m #[(.ref b), (.int p2), (.ref a3)] 4))
  refine own_of (U' := (s₁.setTop (mkF m 0 #[.val (.ref b), .val (.int p2), .val (.ref a3), .unset] []))) (fun _ k => castTop (ef_c44 m b p2 a3) k) ?_
  replace Vb := Arv.pad Vb (own_padk cs 4)
  replace Vb : Arv Z h0 b kb .char z (List.map Value.int (cs ++ [(0 : Int32), (0 : Int32), (0 : Int32), (0 : Int32)])) (.int (0 : Int32)) := Vb
  refine own_iloadN X0 hx hby d37_0 rfl ?_
  refine own_istoreN X0 hx hby d37_1 (l' := #[.val (.ref b), .val (.int p2), .val (.ref a3), .val (.int p2)]) rfl ?_
  refine own_aloadN X0 hx hby d37_2 rfl rfl ?_
  obtain ⟨cl344, Ar344, qa344, Sa344, Na344, -, -⟩ := id V3
  have al344 := X0.arraylength hx (by rw [e0]; exact Ar344.1) (State.isArrayOf_alike hZ.alike Ar344.2.1) (g := (mkF m 3 #[.val (.ref b), .val (.int p2), .val (.ref a3), .val (.int p2)] [(.ref a3)])) rfl rfl (hb hby d37_3)
  rw [len_of Sa344 Na344] at al344
  refine own_of (U' := (s₁.setTop (mkF m 4 #[.val (.ref b), .val (.int p2), .val (.ref a3), .val (.int p2)] [(.int (4 : Int32))]))) (al344) ?_
  have hc4_345 : (0 : Int32) < (4 : Int32) := by decide
  refine own_ifNo X0 hx hby d37_4 ((if0 _ _).trans (tlt hc4_345).2.2.2) ?_
  refine own_aloadN X0 hx hby d37_7 rfl rfl ?_
  refine own_iloadN X0 hx hby d37_8 rfl ?_
  refine own_aloadN X0 hx hby d37_9 rfl rfl ?_
  refine own_iconst X0 hx hby 0 d37_10 rfl ?_
  obtain ⟨cl346, Ar346, qa346, Sa346, Na346, Ha346, Ga346⟩ := id V3
  have hin346 : ¬ ((0 : Int32) < 0 ∨ cl346.slots.size ≤ ((0 : Int32)).toNatClampNeg) := inb_of Sa346 ⟨by decide, by decide⟩
  have hat346 : cl346.slots[((0 : Int32)).toNatClampNeg]? = some (.int q0) := Has.at Ha346 hin346 rfl
  refine own_of (U' := (s₁.setTop (mkF m 12 #[.val (.ref b), .val (.int p2), .val (.ref a3), .val (.int p2)] [(.int q0), (.int p2), (.ref b)]))) (X0.caload hx (j := (0 : Int32)) (v := (.int q0)) (by rw [e0]; exact Ar346.1) (State.isArrayOf_alike hZ.alike Ar346.2.1) Ar346.2.2 hin346 hat346 (g := (mkF m 11 #[.val (.ref b), .val (.int p2), .val (.ref a3), .val (.int p2)] [(.int (0 : Int32)), (.ref a3), (.int p2), (.ref b)])) rfl rfl (hb hby d37_11)) ?_
  obtain ⟨cl347, Ar347, qa347, Sa347, Na347, Ha347, Ga347⟩ := Vb
  have hin347 : ¬ (p2 < 0 ∨ cl347.slots.size ≤ (p2).toNatClampNeg) := inb_of Sa347 ⟨own_ge0 (by rw [own_n0 hp (by omega)]; omega), by rw [own_ltI, own_n0 hp (by omega)]; omega⟩
  obtain ⟨T347, h347, X347, e347, W347, st347⟩ := stC X0 hx hZ e0 Ar347 (j := p2) hin347 (g := (mkF m 12 #[.val (.ref b), .val (.int p2), .val (.ref a3), .val (.int p2)] [(.int q0), (.int p2), (.ref b)])) rfl rfl (hb hby d37_12)
  replace Vb : Arv Z h347 b kb .char z (List.map Value.int (cs ++ [(nar .char q0), (0 : Int32), (0 : Int32), (0 : Int32)])) (.int (0 : Int32)) := by have q := Arv.set Ar347 qa347 Sa347 Na347 Ha347 Ga347 (fits_nar_char _) W347 (cs.length + 0) (own_clamp (by rw [own_n0 hp (by omega)]; omega)) (by rw [List.length_map, List.length_append]; exact Nat.add_lt_add_left (by show 0 < 4; decide) _); rw [← List.map_set, List.set_append_right _ _ (Nat.le_add_right _ _), Nat.add_sub_cancel_left] at q; exact q
  replace Z0 := Nat.le_trans Z0 (Keep.of_wr W347).1
  replace V3 := V3.other W347 n3b
  replace KK := KK.wr W347 (Or.inl (List.mem_of_getElem? (i := 0) rfl))
  have N347 := Fr.snoc X347 N0 g_b
  refine own_of (U' := (T347.setTop (mkF m 13 #[.val (.ref b), .val (.int p2), .val (.ref a3), .val (.int p2)] []))) (st347) ?_
  refine own_iloadN X347 hx hby d37_13 rfl ?_
  refine own_iconst X347 hx hby 1 d37_14 rfl ?_
  refine own_iadd X347 hx hby d37_15 ?_
  refine own_istoreN X347 hx hby d37_16 (l' := #[.val (.ref b), .val (.int p2), .val (.ref a3), .val (.int (p2 + (1 : Int32)))]) rfl ?_
  refine own_aloadN X347 hx hby d37_17 rfl rfl ?_
  obtain ⟨cl348, Ar348, qa348, Sa348, Na348, -, -⟩ := id V3
  have al348 := X347.arraylength hx (by rw [e347]; exact Ar348.1) (State.isArrayOf_alike hZ.alike Ar348.2.1) (g := (mkF m 18 #[.val (.ref b), .val (.int p2), .val (.ref a3), .val (.int (p2 + (1 : Int32)))] [(.ref a3)])) rfl rfl (hb hby d37_18)
  rw [len_of Sa348 Na348] at al348
  refine own_of (U' := (T347.setTop (mkF m 19 #[.val (.ref b), .val (.int p2), .val (.ref a3), .val (.int (p2 + (1 : Int32)))] [(.int (4 : Int32))]))) (al348) ?_
  refine own_iconst X347 hx hby 1 d37_19 rfl ?_
  have hc20_349 : (1 : Int32) < (4 : Int32) := by decide
  refine own_icmpNo X347 hx hby d37_20 (tlt hc20_349).2.2.2 ?_
  refine own_aloadN X347 hx hby d37_23 rfl rfl ?_
  refine own_iloadN X347 hx hby d37_24 rfl ?_
  refine own_aloadN X347 hx hby d37_25 rfl rfl ?_
  refine own_iconst X347 hx hby 1 d37_26 rfl ?_
  obtain ⟨cl350, Ar350, qa350, Sa350, Na350, Ha350, Ga350⟩ := id V3
  have hin350 : ¬ ((1 : Int32) < 0 ∨ cl350.slots.size ≤ ((1 : Int32)).toNatClampNeg) := inb_of Sa350 ⟨by decide, by decide⟩
  have hat350 : cl350.slots[((1 : Int32)).toNatClampNeg]? = some (.int q1) := Has.at Ha350 hin350 rfl
  refine own_of (U' := (T347.setTop (mkF m 28 #[.val (.ref b), .val (.int p2), .val (.ref a3), .val (.int (p2 + (1 : Int32)))] [(.int q1), (.int (p2 + (1 : Int32))), (.ref b)]))) (X347.caload hx (j := (1 : Int32)) (v := (.int q1)) (by rw [e347]; exact Ar350.1) (State.isArrayOf_alike hZ.alike Ar350.2.1) Ar350.2.2 hin350 hat350 (g := (mkF m 27 #[.val (.ref b), .val (.int p2), .val (.ref a3), .val (.int (p2 + (1 : Int32)))] [(.int (1 : Int32)), (.ref a3), (.int (p2 + (1 : Int32))), (.ref b)])) rfl rfl (hb hby d37_27)) ?_
  obtain ⟨cl351, Ar351, qa351, Sa351, Na351, Ha351, Ga351⟩ := Vb
  have hin351 : ¬ ((p2 + (1 : Int32)) < 0 ∨ cl351.slots.size ≤ ((p2 + (1 : Int32))).toNatClampNeg) := inb_of Sa351 ⟨own_ge0 (by rw [own_n1 hp (by omega)]; omega), by rw [own_ltI, own_n1 hp (by omega)]; omega⟩
  obtain ⟨T351, h351, X351, e351, W351, st351⟩ := stC X347 hx hZ e347 Ar351 (j := (p2 + (1 : Int32))) hin351 (g := (mkF m 28 #[.val (.ref b), .val (.int p2), .val (.ref a3), .val (.int (p2 + (1 : Int32)))] [(.int q1), (.int (p2 + (1 : Int32))), (.ref b)])) rfl rfl (hb hby d37_28)
  replace Vb : Arv Z h351 b kb .char z (List.map Value.int (cs ++ [(nar .char q0), (nar .char q1), (0 : Int32), (0 : Int32)])) (.int (0 : Int32)) := by have q := Arv.set Ar351 qa351 Sa351 Na351 Ha351 Ga351 (fits_nar_char _) W351 (cs.length + 1) (own_clamp (by rw [own_n1 hp (by omega)]; omega)) (by rw [List.length_map, List.length_append]; exact Nat.add_lt_add_left (by show 1 < 4; decide) _); rw [← List.map_set, List.set_append_right _ _ (Nat.le_add_right _ _), Nat.add_sub_cancel_left] at q; exact q
  replace Z0 := Nat.le_trans Z0 (Keep.of_wr W351).1
  replace V3 := V3.other W351 n3b
  replace KK := KK.wr W351 (Or.inl (List.mem_of_getElem? (i := 0) rfl))
  have N351 := Fr.snoc X351 N347 g_b
  refine own_of (U' := (T351.setTop (mkF m 29 #[.val (.ref b), .val (.int p2), .val (.ref a3), .val (.int (p2 + (1 : Int32)))] []))) (st351) ?_
  refine own_iloadN X351 hx hby d37_29 rfl ?_
  refine own_iconst X351 hx hby 1 d37_30 rfl ?_
  refine own_iadd X351 hx hby d37_31 ?_
  refine own_istoreN X351 hx hby d37_32 (l' := #[.val (.ref b), .val (.int p2), .val (.ref a3), .val (.int ((p2 + (1 : Int32)) + (1 : Int32)))]) rfl ?_
  refine own_aloadN X351 hx hby d37_33 rfl rfl ?_
  obtain ⟨cl352, Ar352, qa352, Sa352, Na352, -, -⟩ := id V3
  have al352 := X351.arraylength hx (by rw [e351]; exact Ar352.1) (State.isArrayOf_alike hZ.alike Ar352.2.1) (g := (mkF m 34 #[.val (.ref b), .val (.int p2), .val (.ref a3), .val (.int ((p2 + (1 : Int32)) + (1 : Int32)))] [(.ref a3)])) rfl rfl (hb hby d37_34)
  rw [len_of Sa352 Na352] at al352
  refine own_of (U' := (T351.setTop (mkF m 35 #[.val (.ref b), .val (.int p2), .val (.ref a3), .val (.int ((p2 + (1 : Int32)) + (1 : Int32)))] [(.int (4 : Int32))]))) (al352) ?_
  refine own_iconst X351 hx hby 2 d37_35 rfl ?_
  have hc36_353 : (2 : Int32) < (4 : Int32) := by decide
  refine own_icmpNo X351 hx hby d37_36 (tlt hc36_353).2.2.2 ?_
  refine own_aloadN X351 hx hby d37_39 rfl rfl ?_
  refine own_iloadN X351 hx hby d37_40 rfl ?_
  refine own_aloadN X351 hx hby d37_41 rfl rfl ?_
  refine own_iconst X351 hx hby 2 d37_42 rfl ?_
  obtain ⟨cl354, Ar354, qa354, Sa354, Na354, Ha354, Ga354⟩ := id V3
  have hin354 : ¬ ((2 : Int32) < 0 ∨ cl354.slots.size ≤ ((2 : Int32)).toNatClampNeg) := inb_of Sa354 ⟨by decide, by decide⟩
  have hat354 : cl354.slots[((2 : Int32)).toNatClampNeg]? = some (.int q2) := Has.at Ha354 hin354 rfl
  refine own_of (U' := (T351.setTop (mkF m 44 #[.val (.ref b), .val (.int p2), .val (.ref a3), .val (.int ((p2 + (1 : Int32)) + (1 : Int32)))] [(.int q2), (.int ((p2 + (1 : Int32)) + (1 : Int32))), (.ref b)]))) (X351.caload hx (j := (2 : Int32)) (v := (.int q2)) (by rw [e351]; exact Ar354.1) (State.isArrayOf_alike hZ.alike Ar354.2.1) Ar354.2.2 hin354 hat354 (g := (mkF m 43 #[.val (.ref b), .val (.int p2), .val (.ref a3), .val (.int ((p2 + (1 : Int32)) + (1 : Int32)))] [(.int (2 : Int32)), (.ref a3), (.int ((p2 + (1 : Int32)) + (1 : Int32))), (.ref b)])) rfl rfl (hb hby d37_43)) ?_
  obtain ⟨cl355, Ar355, qa355, Sa355, Na355, Ha355, Ga355⟩ := Vb
  have hin355 : ¬ (((p2 + (1 : Int32)) + (1 : Int32)) < 0 ∨ cl355.slots.size ≤ (((p2 + (1 : Int32)) + (1 : Int32))).toNatClampNeg) := inb_of Sa355 ⟨own_ge0 (by rw [own_n2 hp (by omega)]; omega), by rw [own_ltI, own_n2 hp (by omega)]; omega⟩
  obtain ⟨T355, h355, X355, e355, W355, st355⟩ := stC X351 hx hZ e351 Ar355 (j := ((p2 + (1 : Int32)) + (1 : Int32))) hin355 (g := (mkF m 44 #[.val (.ref b), .val (.int p2), .val (.ref a3), .val (.int ((p2 + (1 : Int32)) + (1 : Int32)))] [(.int q2), (.int ((p2 + (1 : Int32)) + (1 : Int32))), (.ref b)])) rfl rfl (hb hby d37_44)
  replace Vb : Arv Z h355 b kb .char z (List.map Value.int (cs ++ [(nar .char q0), (nar .char q1), (nar .char q2), (0 : Int32)])) (.int (0 : Int32)) := by have q := Arv.set Ar355 qa355 Sa355 Na355 Ha355 Ga355 (fits_nar_char _) W355 (cs.length + 2) (own_clamp (by rw [own_n2 hp (by omega)]; omega)) (by rw [List.length_map, List.length_append]; exact Nat.add_lt_add_left (by show 2 < 4; decide) _); rw [← List.map_set, List.set_append_right _ _ (Nat.le_add_right _ _), Nat.add_sub_cancel_left] at q; exact q
  replace Z0 := Nat.le_trans Z0 (Keep.of_wr W355).1
  replace V3 := V3.other W355 n3b
  replace KK := KK.wr W355 (Or.inl (List.mem_of_getElem? (i := 0) rfl))
  have N355 := Fr.snoc X355 N351 g_b
  refine own_of (U' := (T355.setTop (mkF m 45 #[.val (.ref b), .val (.int p2), .val (.ref a3), .val (.int ((p2 + (1 : Int32)) + (1 : Int32)))] []))) (st355) ?_
  refine own_iloadN X355 hx hby d37_45 rfl ?_
  refine own_iconst X355 hx hby 1 d37_46 rfl ?_
  refine own_iadd X355 hx hby d37_47 ?_
  refine own_istoreN X355 hx hby d37_48 (l' := #[.val (.ref b), .val (.int p2), .val (.ref a3), .val (.int (((p2 + (1 : Int32)) + (1 : Int32)) + (1 : Int32)))]) rfl ?_
  refine own_aloadN X355 hx hby d37_49 rfl rfl ?_
  obtain ⟨cl356, Ar356, qa356, Sa356, Na356, -, -⟩ := id V3
  have al356 := X355.arraylength hx (by rw [e355]; exact Ar356.1) (State.isArrayOf_alike hZ.alike Ar356.2.1) (g := (mkF m 50 #[.val (.ref b), .val (.int p2), .val (.ref a3), .val (.int (((p2 + (1 : Int32)) + (1 : Int32)) + (1 : Int32)))] [(.ref a3)])) rfl rfl (hb hby d37_50)
  rw [len_of Sa356 Na356] at al356
  refine own_of (U' := (T355.setTop (mkF m 51 #[.val (.ref b), .val (.int p2), .val (.ref a3), .val (.int (((p2 + (1 : Int32)) + (1 : Int32)) + (1 : Int32)))] [(.int (4 : Int32))]))) (al356) ?_
  refine own_iconst X355 hx hby 3 d37_51 rfl ?_
  have hc52_357 : (3 : Int32) < (4 : Int32) := by decide
  refine own_icmpNo X355 hx hby d37_52 (tlt hc52_357).2.2.2 ?_
  refine own_aloadN X355 hx hby d37_55 rfl rfl ?_
  refine own_iloadN X355 hx hby d37_56 rfl ?_
  refine own_aloadN X355 hx hby d37_57 rfl rfl ?_
  refine own_iconst X355 hx hby 3 d37_58 rfl ?_
  obtain ⟨cl358, Ar358, qa358, Sa358, Na358, Ha358, Ga358⟩ := id V3
  have hin358 : ¬ ((3 : Int32) < 0 ∨ cl358.slots.size ≤ ((3 : Int32)).toNatClampNeg) := inb_of Sa358 ⟨by decide, by decide⟩
  have hat358 : cl358.slots[((3 : Int32)).toNatClampNeg]? = some (.int q3) := Has.at Ha358 hin358 rfl
  refine own_of (U' := (T355.setTop (mkF m 60 #[.val (.ref b), .val (.int p2), .val (.ref a3), .val (.int (((p2 + (1 : Int32)) + (1 : Int32)) + (1 : Int32)))] [(.int q3), (.int (((p2 + (1 : Int32)) + (1 : Int32)) + (1 : Int32))), (.ref b)]))) (X355.caload hx (j := (3 : Int32)) (v := (.int q3)) (by rw [e355]; exact Ar358.1) (State.isArrayOf_alike hZ.alike Ar358.2.1) Ar358.2.2 hin358 hat358 (g := (mkF m 59 #[.val (.ref b), .val (.int p2), .val (.ref a3), .val (.int (((p2 + (1 : Int32)) + (1 : Int32)) + (1 : Int32)))] [(.int (3 : Int32)), (.ref a3), (.int (((p2 + (1 : Int32)) + (1 : Int32)) + (1 : Int32))), (.ref b)])) rfl rfl (hb hby d37_59)) ?_
  obtain ⟨cl359, Ar359, qa359, Sa359, Na359, Ha359, Ga359⟩ := Vb
  have hin359 : ¬ ((((p2 + (1 : Int32)) + (1 : Int32)) + (1 : Int32)) < 0 ∨ cl359.slots.size ≤ ((((p2 + (1 : Int32)) + (1 : Int32)) + (1 : Int32))).toNatClampNeg) := inb_of Sa359 ⟨own_ge0 (by rw [own_n3 hp (by omega)]; omega), by rw [own_ltI, own_n3 hp (by omega)]; omega⟩
  obtain ⟨T359, h359, X359, e359, W359, st359⟩ := stC X355 hx hZ e355 Ar359 (j := (((p2 + (1 : Int32)) + (1 : Int32)) + (1 : Int32))) hin359 (g := (mkF m 60 #[.val (.ref b), .val (.int p2), .val (.ref a3), .val (.int (((p2 + (1 : Int32)) + (1 : Int32)) + (1 : Int32)))] [(.int q3), (.int (((p2 + (1 : Int32)) + (1 : Int32)) + (1 : Int32))), (.ref b)])) rfl rfl (hb hby d37_60)
  replace Vb : Arv Z h359 b kb .char z (List.map Value.int (cs ++ [(nar .char q0), (nar .char q1), (nar .char q2), (nar .char q3)])) (.int (0 : Int32)) := by have q := Arv.set Ar359 qa359 Sa359 Na359 Ha359 Ga359 (fits_nar_char _) W359 (cs.length + 3) (own_clamp (by rw [own_n3 hp (by omega)]; omega)) (by rw [List.length_map, List.length_append]; exact Nat.add_lt_add_left (by show 3 < 4; decide) _); rw [← List.map_set, List.set_append_right _ _ (Nat.le_add_right _ _), Nat.add_sub_cancel_left] at q; exact q
  replace Z0 := Nat.le_trans Z0 (Keep.of_wr W359).1
  replace V3 := V3.other W359 n3b
  replace KK := KK.wr W359 (Or.inl (List.mem_of_getElem? (i := 0) rfl))
  have N359 := Fr.snoc X359 N355 g_b
  refine own_of (U' := (T359.setTop (mkF m 61 #[.val (.ref b), .val (.int p2), .val (.ref a3), .val (.int (((p2 + (1 : Int32)) + (1 : Int32)) + (1 : Int32)))] []))) (st359) ?_
  refine own_iloadN X359 hx hby d37_61 rfl ?_
  refine own_iconst X359 hx hby 1 d37_62 rfl ?_
  refine own_iadd X359 hx hby d37_63 ?_
  refine own_istoreN X359 hx hby d37_64 (l' := #[.val (.ref b), .val (.int p2), .val (.ref a3), .val (.int ((((p2 + (1 : Int32)) + (1 : Int32)) + (1 : Int32)) + (1 : Int32)))]) rfl ?_
  refine own_iloadN X359 hx hby d37_65 rfl ?_
  exact own_retI X359 hx hlk Bd.returns (hb hby d37_66) (by decide) (by decide) (by rw [e359]; exact ⟨((((p2 + (1 : Int32)) + (1 : Int32)) + (1 : Int32)) + (1 : Int32)), rfl, N359, KK, (by rw [own_n4 hp (by omega)]; rfl), Vb⟩)
set_option maxRecDepth 65536 in
theorem rmc4 (l : Launch) (Z : State) (a0 : Array Value) (hw : ∀ d ∈ tables_1, d.before a0 Z = true) (ws : List Jvm.Cond) (b : Addr) (p2 : Int32) (a3 : Addr) (kb k3 : ClassId) (z : Int32) (cs : List Int32) (k p : Int32) (h0 : Heap) (n0 : Nat) (Z0 : n0 ≤ h0.size) (Vb : Arv Z h0 b kb .char z (List.map Value.int cs) (.int (0 : Int32))) (V3 : Arv Z h0 a3 k3 .char (own_pl k) (List.map Value.int (own_pt k p)) (.int (0 : Int32))) (g_b : n0 ≤ b) (n3b : a3 ≠ b) (hp : p2.toInt = cs.length) (hc : cs.length ≤ 900) (hf : (cs.length : Int) + (own_pt k p).length ≤ z.toInt) (hk : k = 0 ∨ k = 1 ∨ k = 2 ∨ k = 3) :
    MetFree l mN_42 (head1 (Jvm.Cond.code mN_42 method_4_code 4 (some .int) :: ws) ({ frames := 0, cells := 0, slots := 0, locals := 0 } : Room)) (fun a U => a = #[(.ref b), (.int p2), (.ref a3)] ∧ Z.Warmed39 U.vm ∧ U.heap = h0) (fun _ _ _ _ _ => True) (fun _ U o U' => ∃ v L, o = .returned v ∧ (Qc4 Z b kb z cs (own_pt k p) h0 n0) v U'.heap L ∧ FrameEnd U o U' L ({ frames := 0, cells := 0, slots := 0, locals := 0 } : Room).cells ({ frames := 0, cells := 0, slots := 0, locals := 0 } : Room).slots) := by
  rcases hk with rfl | rfl | rfl | rfl
  · exact rmc40 l Z a0 hw ws b p2 a3 kb k3 z cs  h0 n0 Z0 Vb V3 g_b n3b hp hc hf
  · exact rmc41 l Z a0 hw ws b p2 a3 kb k3 z cs (own_c0 p) h0 n0 Z0 Vb V3 g_b n3b hp hc hf
  · exact rmc42 l Z a0 hw ws b p2 a3 kb k3 z cs (own_c0 p) (own_c1 p) h0 n0 Z0 Vb V3 g_b n3b hp hc hf
  · exact rmc44 l Z a0 hw ws b p2 a3 kb k3 z cs 110 117 108 108 h0 n0 Z0 Vb V3 g_b n3b hp hc hf
def own_dgt (v pw : Int64) : Int32 := nar .char (((48 : Int32) + (((v / pw) - ((v / pw) / (10 : Int64)) * (10 : Int64)).toInt32)).toUInt32.toUInt16.toUInt32.toInt32)
def own_pd (nd k : Int32) (v pw : Int64) : List Int32 := if k < nd then [own_dgt v pw] else []
theorem own_pdl (nd k : Int32) (v pw : Int64) : (k.toInt < nd.toInt ∧ (own_pd nd k v pw).length = 1) ∨ (nd.toInt ≤ k.toInt ∧ (own_pd nd k v pw).length = 0) := by
  unfold own_pd
  by_cases h : k < nd
  · rw [if_pos h]; exact Or.inl ⟨own_ltI.mp h, rfl⟩
  · rw [if_neg h]; exact Or.inr ⟨by rw [own_ltI] at h; omega, rfl⟩
abbrev mN_43 : MethodName := ⟨"com/example/handover/handover/ProblemToStringPinLaw", "putDigit", "([CIIIJJ)I"⟩
theorem d38_0 : decode method_5_code 0 = .ok (.iload_n 2, 1) := by decide +kernel
theorem d38_1 : decode method_5_code 1 = .ok (.iload_n 3, 1) := by decide +kernel
theorem d38_2 : decode method_5_code 2 = .ok (.if_icmp .le 24, 3) := by decide +kernel
theorem d38_5 : decode method_5_code 5 = .ok (.aload_n 0, 1) := by decide +kernel
theorem d38_6 : decode method_5_code 6 = .ok (.iload_n 1, 1) := by decide +kernel
theorem d38_7 : decode method_5_code 7 = .ok (.bipush 48, 2) := by decide +kernel
theorem d38_9 : decode method_5_code 9 = .ok (.lload 4, 2) := by decide +kernel
theorem d38_11 : decode method_5_code 11 = .ok (.lload 6, 2) := by decide +kernel
theorem d38_13 : decode method_5_code 13 = .ok (.ldiv, 1) := by decide +kernel
theorem d38_14 : decode method_5_code 14 = .ok (.ldc2_w 12, 3) := by decide +kernel
theorem d38_17 : decode method_5_code 17 = .ok (.lrem, 1) := by decide +kernel
theorem d38_18 : decode method_5_code 18 = .ok (.l2i, 1) := by decide +kernel
theorem d38_19 : decode method_5_code 19 = .ok (.iadd, 1) := by decide +kernel
theorem d38_20 : decode method_5_code 20 = .ok (.i2c, 1) := by decide +kernel
theorem d38_21 : decode method_5_code 21 = .ok (.castore, 1) := by decide +kernel
theorem d38_22 : decode method_5_code 22 = .ok (.iload_n 1, 1) := by decide +kernel
theorem d38_23 : decode method_5_code 23 = .ok (.iconst 1, 1) := by decide +kernel
theorem d38_24 : decode method_5_code 24 = .ok (.iadd, 1) := by decide +kernel
theorem d38_25 : decode method_5_code 25 = .ok (.ireturn, 1) := by decide +kernel
theorem d38_26 : decode method_5_code 26 = .ok (.iload_n 1, 1) := by decide +kernel
theorem d38_27 : decode method_5_code 27 = .ok (.ireturn, 1) := by decide +kernel
theorem ef_pd (m : MethodId) (x0 : Addr) (x1 : Int32) (x2 : Int32) (x3 : Int32) (x4 : Int64) (x5 : Int64) : entryFrame m #[(.ref x0), (.int x1), (.int x2), (.int x3), (.long x4), (.long x5)] 8 = mkF m 0 #[.val (.ref x0), .val (.int x1), .val (.int x2), .val (.int x3), .val (.long x4), .second, .val (.long x5), .second] [] := by first | (simp [entryFrame, mkF, argsToLocals, Value.category]; done) | rfl
def Qpd (Z : State) (b : Addr) (kb : ClassId) (z : Int32) (cs us : List Int32) (h0 : Heap) (n0 : Nat) (v : Option Value) (h : Heap) (L : List Loc) : Prop := ∃ r : Int32, v = some (.int r) ∧ Fr n0 L ∧ Keep h0 h [b] ∧ r.toInt = (cs.length : Int) + us.length ∧ Arv Z h b kb .char z (List.map Value.int (cs ++ us)) (.int (0 : Int32))
set_option maxRecDepth 65536 in
set_option maxHeartbeats 40000000 in
theorem rmpd (l : Launch) (Z : State) (a0 : Array Value) (hw : ∀ d ∈ tables_1, d.before a0 Z = true) (ws : List Jvm.Cond) (b : Addr) (p2 p3 p4 : Int32) (p5 p6 : Int64) (kb : ClassId) (z : Int32) (cs : List Int32) (h0 : Heap) (n0 : Nat) (Z0 : n0 ≤ h0.size) (Vb : Arv Z h0 b kb .char z (List.map Value.int cs) (.int (0 : Int32))) (g_b : n0 ≤ b) (hnz : ¬ (p6 = (0 : Int64))) (hp : p2.toInt = cs.length) (hc : cs.length ≤ 900) (hf : p4 < p3 → (cs.length : Int) + 1 ≤ z.toInt) :
    MetFree l mN_43 (head1 (Jvm.Cond.code mN_43 method_5_code 8 (some .int) :: ws) ({ frames := 0, cells := 0, slots := 0, locals := 0 } : Room)) (fun a U => a = #[(.ref b), (.int p2), (.int p3), (.int p4), (.long p5), (.long p6)] ∧ Z.Warmed39 U.vm ∧ U.heap = h0) (fun _ _ _ _ _ => True) (fun _ U o U' => ∃ v L, o = .returned v ∧ (Qpd Z b kb z cs (own_pd p3 p4 p5 p6) h0 n0) v U'.heap L ∧ FrameEnd U o U' L ({ frames := 0, cells := 0, slots := 0, locals := 0 } : Room).cells ({ frames := 0, cells := 0, slots := 0, locals := 0 } : Room).slots) := by
  refine MetFree.of_bodySF (plainFor_of_name pn_10) hisR ?_
  intro p e s m args below meth c s₁ Bd hml0 hP hK
  obtain ⟨rfl, hZ, hh⟩ := hP
  have hx := Bd.exec
  have hby := Bd.bytes
  have hml : c.maxLocals = 8 := hml0
  have hown : s.vm.findClass "com/example/handover/handover/ProblemToStringPinLaw" = some m.cls := findClass_of_methodNamed Bd.named
  have hnm := (name_of_methodNamed Bd.named Bd.method).1
  have hlk := Bd.notSynchronized
  have X0 : Stand p l e ({ frames := 0, cells := 0, slots := 0, locals := 0 } : Room) s m #[(.ref b), (.int p2), (.int p3), (.int p4), (.long p5), (.long p6)] below meth c s₁ [] 0 0 := Stand.of_body Bd
  have e0 : s₁.heap = h0 := by rw [← hh, Bd.state]; rfl
  have N0 := Fr.nil n0
  have KK := Keep.refl h0 [b]
  show own_Ends p e below s FrameEnd (Qpd Z b kb z cs (own_pd p3 p4 p5 p6) h0 n0) 0 0 (s₁.setTop (entryFrame m #[(.ref b), (.int p2), (.int p3), (.int p4), (.long p5), (.long p6)] 8))
  refine own_of (U' := (s₁.setTop (mkF m 0 #[.val (.ref b), .val (.int p2), .val (.int p3), .val (.int p4), .val (.long p5), .second, .val (.long p6), .second] []))) (fun _ k => castTop (ef_pd m b p2 p3 p4 p5 p6) k) ?_
  refine own_iloadN X0 hx hby d38_0 rfl ?_
  refine own_iloadN X0 hx hby d38_1 rfl ?_
  by_cases hc2_360 : p4 < p3
  · skip
    refine own_icmpNo X0 hx hby d38_2 (tlt hc2_360).2.2.2 ?_
    have hf1 := hf hc2_360
    replace Vb := Arv.pad Vb (own_padk cs 1)
    replace Vb : Arv Z h0 b kb .char z (List.map Value.int (cs ++ [(0 : Int32)])) (.int (0 : Int32)) := Vb
    refine own_aloadN X0 hx hby d38_5 rfl rfl ?_
    refine own_iloadN X0 hx hby d38_6 rfl ?_
    refine own_bipush X0 hx hby 48 d38_7 rfl ?_
    refine own_lload X0 hx hby d38_9 rfl ?_
    refine own_lload X0 hx hby d38_11 rfl ?_
    refine own_of (U' := (s₁.setTop (mkF m 14 #[.val (.ref b), .val (.int p2), .val (.int p3), .val (.int p4), .val (.long p5), .second, .val (.long p6), .second] [(.long (p5 / p6)), (.int (48 : Int32)), (.int p2), (.ref b)]))) (fun _ k => XT.ldiv X0.here hx rfl (hb hby d38_13) rfl (hnz) k) ?_
    refine own_of (U' := (s₁.setTop (mkF m 17 #[.val (.ref b), .val (.int p2), .val (.int p3), .val (.int p4), .val (.long p5), .second, .val (.long p6), .second] [(.long (10 : Int64)), (.long (p5 / p6)), (.int (48 : Int32)), (.int p2), (.ref b)]))) (X0.ldc2Long hx hown (mvT hZ (own_w hw 193 rfl)) (g := (mkF m 14 #[.val (.ref b), .val (.int p2), .val (.int p3), .val (.int p4), .val (.long p5), .second, .val (.long p6), .second] [(.long (p5 / p6)), (.int (48 : Int32)), (.int p2), (.ref b)])) rfl (hb hby d38_14)) ?_
    refine own_of (U' := (s₁.setTop (mkF m 18 #[.val (.ref b), .val (.int p2), .val (.int p3), .val (.int p4), .val (.long p5), .second, .val (.long p6), .second] [(.long ((p5 / p6) - ((p5 / p6) / (10 : Int64)) * (10 : Int64))), (.int (48 : Int32)), (.int p2), (.ref b)]))) (fun _ k => XT.lrem X0.here hx rfl (hb hby d38_17) rfl (by decide) k) ?_
    refine own_l2i X0 hx hby d38_18 ?_
    refine own_iadd X0 hx hby d38_19 ?_
    refine own_i2c X0 hx hby d38_20 ?_
    obtain ⟨cl361, Ar361, qa361, Sa361, Na361, Ha361, Ga361⟩ := Vb
    have hin361 : ¬ (p2 < 0 ∨ cl361.slots.size ≤ (p2).toNatClampNeg) := inb_of Sa361 ⟨own_ge0 (by omega), by rw [own_ltI, hp]; omega⟩
    obtain ⟨T361, h361, X361, e361, W361, st361⟩ := stC X0 hx hZ e0 Ar361 (j := p2) hin361 (g := (mkF m 21 #[.val (.ref b), .val (.int p2), .val (.int p3), .val (.int p4), .val (.long p5), .second, .val (.long p6), .second] [(.int (((48 : Int32) + (((p5 / p6) - ((p5 / p6) / (10 : Int64)) * (10 : Int64)).toInt32)).toUInt32.toUInt16.toUInt32.toInt32)), (.int p2), (.ref b)])) rfl rfl (hb hby d38_21)
    replace Vb : Arv Z h361 b kb .char z (List.map Value.int (cs ++ [own_dgt p5 p6])) (.int (0 : Int32)) := by have q := Arv.set Ar361 qa361 Sa361 Na361 Ha361 Ga361 (fits_nar_char _) W361 (cs.length + 0) (own_clamp (by rw [hp]; rfl)) (by rw [List.length_map, List.length_append]; exact Nat.add_lt_add_left (by show 0 < 1; decide) _); rw [← List.map_set, List.set_append_right _ _ (Nat.le_add_right _ _), Nat.add_sub_cancel_left] at q; exact q
    replace Z0 := Nat.le_trans Z0 (Keep.of_wr W361).1
    replace KK := KK.wr W361 (Or.inl (List.mem_of_getElem? (i := 0) rfl))
    have N361 := Fr.snoc X361 N0 g_b
    refine own_of (U' := (T361.setTop (mkF m 22 #[.val (.ref b), .val (.int p2), .val (.int p3), .val (.int p4), .val (.long p5), .second, .val (.long p6), .second] []))) (st361) ?_
    refine own_iloadN X361 hx hby d38_22 rfl ?_
    refine own_iconst X361 hx hby 1 d38_23 rfl ?_
    refine own_iadd X361 hx hby d38_24 ?_
    exact own_retI X361 hx hlk Bd.returns (hb hby d38_25) (by decide) (by decide) (by rw [e361]; exact ⟨(p2 + (1 : Int32)), rfl, N361, KK, (by unfold own_pd; rw [if_pos hc2_360, own_n1 hp (by omega)]; rfl), (by unfold own_pd; rw [if_pos hc2_360]; exact Vb)⟩)
  · skip
    refine own_icmpYes X0 hx hby 2 26 d38_2 (flt hc2_360).2.2.2 (by decide) (by decide) ?_
    refine own_iloadN X0 hx hby d38_26 rfl ?_
    exact own_retI X0 hx hlk Bd.returns (hb hby d38_27) (by decide) (by decide) (by rw [e0]; exact ⟨p2, rfl, N0, KK, (by unfold own_pd; rw [if_neg hc2_360, hp]; simp), (by unfold own_pd; rw [if_neg hc2_360, List.append_nil]; exact Vb)⟩)
def own_nd (v : Int64) : Int32 := if XT.cmpL v (1000000000 : Int64) < (0 : Int32) then (if XT.cmpL v (100000000 : Int64) < (0 : Int32) then (if XT.cmpL v (10000000 : Int64) < (0 : Int32) then (if XT.cmpL v (1000000 : Int64) < (0 : Int32) then (if XT.cmpL v (100000 : Int64) < (0 : Int32) then (if XT.cmpL v (10000 : Int64) < (0 : Int32) then (if XT.cmpL v (1000 : Int64) < (0 : Int32) then (if XT.cmpL v (100 : Int64) < (0 : Int32) then (if XT.cmpL v (10 : Int64) < (0 : Int32) then (1 : Int32) else (2 : Int32)) else (3 : Int32)) else (4 : Int32)) else (5 : Int32)) else (6 : Int32)) else (7 : Int32)) else (8 : Int32)) else (9 : Int32)) else (10 : Int32)
theorem own_nd_bd (v : Int64) : 1 ≤ (own_nd v).toInt ∧ (own_nd v).toInt ≤ 10 := by
  unfold own_nd
  repeat (split; rotate_left; decide)
  decide
def own_sgc (neg : Int32) : List Int32 := if neg = (0 : Int32) then [] else [nar .char (45 : Int32)]
theorem own_capI {x : Int32} (h : x.toInt ≤ 22) : x.toNatClampNeg ≤ 22 := by simp only [Int32.toNatClampNeg]; omega
theorem own_ngl {neg ng : Int32} (h : ng = if neg = (0 : Int32) then (0 : Int32) else (1 : Int32)) : ng.toInt = ((own_sgc neg).length : Int) ∧ (own_sgc neg).length ≤ 1 := by
  unfold own_sgc
  by_cases q : neg = 0
  · rw [if_pos q] at h ⊢; rw [h]; decide
  · rw [if_neg q] at h ⊢; rw [h]; exact ⟨rfl, Nat.le_refl _⟩
theorem own_nnI {a b ng nd : Int32} {F M : Nat} {g : Nat} (ha : a.toInt = F) (hb : b.toInt = M) (hF : F ≤ 4) (hM : M ≤ 4) (hg : ng.toInt = g) (hg1 : g ≤ 1) (hd : 1 ≤ nd.toInt ∧ nd.toInt ≤ 10) : (((((a + (1 : Int32)) + ng) + nd) + (2 : Int32)) + b).toInt = (F : Int) + 1 + g + nd.toInt + 2 + M := by
  have c1 : (1 : Int32).toInt = 1 := by decide
  have c2 : (2 : Int32).toInt = 2 := by decide
  have e1 := own_addI (x := a) (y := 1) (by omega) (by omega)
  have e2 := own_addI (x := a + 1) (y := ng) (by omega) (by omega)
  have e3 := own_addI (x := a + 1 + ng) (y := nd) (by omega) (by omega)
  have e4 := own_addI (x := a + 1 + ng + nd) (y := 2) (by omega) (by omega)
  have e5 := own_addI (x := a + 1 + ng + nd + 2) (y := b) (by omega) (by omega)
  omega
theorem own_nc {c : Int32} (h : 0 ≤ c.toInt ∧ c.toInt ≤ 255) : nar .char c = c := by
  apply Int32.toInt_inj.mp
  have h2 := c_i2c c
  show (c.toUInt32.toUInt16.toUInt32.toInt32).toInt = _
  omega
theorem own_mapnc (k p : Int32) : List.map (nar .char) (own_pt k p) = own_pt k p := by
  have e : List.map (nar .char) (own_pt k p) = List.map id (own_pt k p) := List.map_congr_left fun c hc => own_nc (own_pt_bd k p c hc)
  rw [e, List.map_id]
theorem own_cl {x y : Int64} : XT.cmpL x y < (0 : Int32) ↔ x.toInt < y.toInt := by
  show (if y < x then (1 : Int32) else if x = y then 0 else -1) < 0 ↔ _
  by_cases h : y < x
  · have h' := Int64.lt_iff_toInt_lt.mp h
    rw [if_pos h]; exact ⟨fun q => absurd q (by decide), fun q => by omega⟩
  · have h' : ¬ y.toInt < x.toInt := fun q => h (Int64.lt_iff_toInt_lt.mpr q)
    rw [if_neg h]
    by_cases e : x = y
    · rw [if_pos e, e]; exact ⟨fun q => absurd q (by decide), fun q => by omega⟩
    · rw [if_neg e]
      refine ⟨fun _ => ?_, fun _ => by decide⟩
      have : x.toInt ≠ y.toInt := fun q => e (Int64.toInt_inj.mp q)
      omega
theorem own_rem10 (w : Int64) : -9 ≤ (w - (w / (10 : Int64)) * (10 : Int64)).toInt ∧ (w - (w / (10 : Int64)) * (10 : Int64)).toInt ≤ 9 := by
  have c := c_lrem w 10 10 (by decide)
  by_cases h : 0 ≤ w.toInt
  · rw [c.1 h]; omega
  · rw [c.2 (by omega)]; omega
theorem own_d48 {r : Int64} (h : -9 ≤ r.toInt ∧ r.toInt ≤ 9) : (nar .char (((48 : Int32) + r.toInt32).toUInt32.toUInt16.toUInt32.toInt32)).toInt = 48 + r.toInt := by
  have c1 := c_l2i r
  have c2 := rng32 r.toInt32
  have c48 : (48 : Int32).toInt = 48 := by decide
  have e1 : r.toInt32.toInt = r.toInt := by omega
  have e2 : ((48 : Int32) + r.toInt32).toInt = 48 + r.toInt := by rw [own_addI (by rw [c48, e1]; omega) (by rw [c48, e1]; omega), c48, e1]
  have c3 := c_i2c ((48 : Int32) + r.toInt32)
  have e3 : nar .char (((48 : Int32) + r.toInt32).toUInt32.toUInt16.toUInt32.toInt32) = ((48 : Int32) + r.toInt32).toUInt32.toUInt16.toUInt32.toInt32 := own_nar2 _
  rw [e3]
  omega
theorem own_dgt_bd (v pw : Int64) : 0 ≤ (own_dgt v pw).toInt ∧ (own_dgt v pw).toInt ≤ 255 := by
  have h := own_rem10 (v / pw)
  have e := own_d48 h
  show 0 ≤ (nar .char (((48 : Int32) + (((v / pw) - ((v / pw) / (10 : Int64)) * (10 : Int64)).toInt32)).toUInt32.toUInt16.toUInt32.toInt32)).toInt ∧ (nar .char (((48 : Int32) + (((v / pw) - ((v / pw) / (10 : Int64)) * (10 : Int64)).toInt32)).toUInt32.toUInt16.toUInt32.toInt32)).toInt ≤ 255
  omega
theorem own_b8s {x : Int32} (h0 : 0 ≤ x.toInt) (h1 : x.toInt < 128) : own_b8 x = x := by
  unfold own_b8
  rw [own_byte h0 h1]
  exact own_byte h0 h1
/-- the k-th decimal digit -/
def own_D (m P : Nat) : Int32 := Int32.ofNat (48 + m / P % 10)
theorem own_dd {vv pw : Int64} {m P : Nat} (hv : vv.toInt = m) (hP : pw.toInt = P) (hP0 : 0 < P) : own_b8 (own_dgt vv pw) = own_D m P := by
  have hne : pw ≠ -1 := fun q => by rw [q, show (-1 : Int64).toInt = -1 by decide] at hP; omega
  have d1 := (c_ldiv vv pw P hP hne).1 (by omega)
  have h := own_rem10 (vv / pw)
  have r1 := (c_lrem (vv / pw) 10 10 (by decide)).1 (by rw [d1, hv]; exact Int.ediv_nonneg (Int.natCast_nonneg _) (Int.natCast_nonneg _))
  have e := own_d48 h
  have e2 : (own_dgt vv pw).toInt = 48 + ((m / P % 10 : Nat) : Int) := by
    show (nar .char (((48 : Int32) + (((vv / pw) - ((vv / pw) / (10 : Int64)) * (10 : Int64)).toInt32)).toUInt32.toUInt16.toUInt32.toInt32)).toInt = _
    rw [e, r1, d1, hv]; rfl
  rw [own_b8s (by rw [e2]; omega) (by rw [e2]; omega)]
  apply Int32.toInt_inj.mp
  unfold own_D
  rw [own_ofI (by omega), e2]; omega
theorem own_digits {vv : Int64} {m : Nat} (hv : vv.toInt = m) (hm : m ≤ 2147483648) : List.map own_b8 (own_pd (own_nd vv) (9 : Int32) vv (1000000000 : Int64)) ++ List.map own_b8 (own_pd (own_nd vv) (8 : Int32) vv (100000000 : Int64)) ++ List.map own_b8 (own_pd (own_nd vv) (7 : Int32) vv (10000000 : Int64)) ++ List.map own_b8 (own_pd (own_nd vv) (6 : Int32) vv (1000000 : Int64)) ++ List.map own_b8 (own_pd (own_nd vv) (5 : Int32) vv (100000 : Int64)) ++ List.map own_b8 (own_pd (own_nd vv) (4 : Int32) vv (10000 : Int64)) ++ List.map own_b8 (own_pd (own_nd vv) (3 : Int32) vv (1000 : Int64)) ++ List.map own_b8 (own_pd (own_nd vv) (2 : Int32) vv (100 : Int64)) ++ List.map own_b8 (own_pd (own_nd vv) (1 : Int32) vv (10 : Int64)) ++ List.map own_b8 (own_pd (own_nd vv) (0 : Int32) vv (1 : Int64)) = own_dec m := by
  have D0 : own_b8 (own_dgt vv (1 : Int64)) = own_D m 1 := own_dd hv (by decide) (by decide)
  have D1 : own_b8 (own_dgt vv (10 : Int64)) = own_D m 10 := own_dd hv (by decide) (by decide)
  have D2 : own_b8 (own_dgt vv (100 : Int64)) = own_D m 100 := own_dd hv (by decide) (by decide)
  have D3 : own_b8 (own_dgt vv (1000 : Int64)) = own_D m 1000 := own_dd hv (by decide) (by decide)
  have D4 : own_b8 (own_dgt vv (10000 : Int64)) = own_D m 10000 := own_dd hv (by decide) (by decide)
  have D5 : own_b8 (own_dgt vv (100000 : Int64)) = own_D m 100000 := own_dd hv (by decide) (by decide)
  have D6 : own_b8 (own_dgt vv (1000000 : Int64)) = own_D m 1000000 := own_dd hv (by decide) (by decide)
  have D7 : own_b8 (own_dgt vv (10000000 : Int64)) = own_D m 10000000 := own_dd hv (by decide) (by decide)
  have D8 : own_b8 (own_dgt vv (100000000 : Int64)) = own_D m 100000000 := own_dd hv (by decide) (by decide)
  have D9 : own_b8 (own_dgt vv (1000000000 : Int64)) = own_D m 1000000000 := own_dd hv (by decide) (by decide)
  have o0 : own_o (m) = own_D m 1 := by unfold own_o own_D; rw [show m % 10 = m / 1 % 10 by omega]
  have t0 : own_t (m) = own_D m 10 := by unfold own_t own_D; rw [show m % 100 / 10 = m / 10 % 10 by omega]
  have o1 : own_o (m / 100) = own_D m 100 := by unfold own_o own_D; rw [show m / 100 % 10 = m / 100 % 10 by omega]
  have t1 : own_t (m / 100) = own_D m 1000 := by unfold own_t own_D; rw [show m / 100 % 100 / 10 = m / 1000 % 10 by omega]
  have o2 : own_o (m / 100 / 100) = own_D m 10000 := by unfold own_o own_D; rw [show m / 100 / 100 % 10 = m / 10000 % 10 by omega]
  have t2 : own_t (m / 100 / 100) = own_D m 100000 := by unfold own_t own_D; rw [show m / 100 / 100 % 100 / 10 = m / 100000 % 10 by omega]
  have o3 : own_o (m / 100 / 100 / 100) = own_D m 1000000 := by unfold own_o own_D; rw [show m / 100 / 100 / 100 % 10 = m / 1000000 % 10 by omega]
  have t3 : own_t (m / 100 / 100 / 100) = own_D m 10000000 := by unfold own_t own_D; rw [show m / 100 / 100 / 100 % 100 / 10 = m / 10000000 % 10 by omega]
  have o4 : own_o (m / 100 / 100 / 100 / 100) = own_D m 100000000 := by unfold own_o own_D; rw [show m / 100 / 100 / 100 / 100 % 10 = m / 100000000 % 10 by omega]
  have t4 : own_t (m / 100 / 100 / 100 / 100) = own_D m 1000000000 := by unfold own_t own_D; rw [show m / 100 / 100 / 100 / 100 % 100 / 10 = m / 1000000000 % 10 by omega]
  have c1 : XT.cmpL vv (10 : Int64) < (0 : Int32) ↔ m < 10 := by rw [own_cl, hv, show (10 : Int64).toInt = 10 by decide]; omega
  have c2 : XT.cmpL vv (100 : Int64) < (0 : Int32) ↔ m < 100 := by rw [own_cl, hv, show (100 : Int64).toInt = 100 by decide]; omega
  have c3 : XT.cmpL vv (1000 : Int64) < (0 : Int32) ↔ m < 1000 := by rw [own_cl, hv, show (1000 : Int64).toInt = 1000 by decide]; omega
  have c4 : XT.cmpL vv (10000 : Int64) < (0 : Int32) ↔ m < 10000 := by rw [own_cl, hv, show (10000 : Int64).toInt = 10000 by decide]; omega
  have c5 : XT.cmpL vv (100000 : Int64) < (0 : Int32) ↔ m < 100000 := by rw [own_cl, hv, show (100000 : Int64).toInt = 100000 by decide]; omega
  have c6 : XT.cmpL vv (1000000 : Int64) < (0 : Int32) ↔ m < 1000000 := by rw [own_cl, hv, show (1000000 : Int64).toInt = 1000000 by decide]; omega
  have c7 : XT.cmpL vv (10000000 : Int64) < (0 : Int32) ↔ m < 10000000 := by rw [own_cl, hv, show (10000000 : Int64).toInt = 10000000 by decide]; omega
  have c8 : XT.cmpL vv (100000000 : Int64) < (0 : Int32) ↔ m < 100000000 := by rw [own_cl, hv, show (100000000 : Int64).toInt = 100000000 by decide]; omega
  have c9 : XT.cmpL vv (1000000000 : Int64) < (0 : Int32) ↔ m < 1000000000 := by rw [own_cl, hv, show (1000000000 : Int64).toInt = 1000000000 by decide]; omega
  by_cases b1 : m < 10
  · have hn : own_nd vv = (1 : Int32) := by unfold own_nd; rw [if_pos (c9.mpr (by omega)), if_pos (c8.mpr (by omega)), if_pos (c7.mpr (by omega)), if_pos (c6.mpr (by omega)), if_pos (c5.mpr (by omega)), if_pos (c4.mpr (by omega)), if_pos (c3.mpr (by omega)), if_pos (c2.mpr (by omega)), if_pos (c1.mpr (by omega))]
    rw [hn]
    unfold own_pd
    rw [if_neg (show ¬ ((9 : Int32) < (1 : Int32)) by decide), if_neg (show ¬ ((8 : Int32) < (1 : Int32)) by decide), if_neg (show ¬ ((7 : Int32) < (1 : Int32)) by decide), if_neg (show ¬ ((6 : Int32) < (1 : Int32)) by decide), if_neg (show ¬ ((5 : Int32) < (1 : Int32)) by decide), if_neg (show ¬ ((4 : Int32) < (1 : Int32)) by decide), if_neg (show ¬ ((3 : Int32) < (1 : Int32)) by decide), if_neg (show ¬ ((2 : Int32) < (1 : Int32)) by decide), if_neg (show ¬ ((1 : Int32) < (1 : Int32)) by decide), if_pos (show (0 : Int32) < (1 : Int32) by decide)]
    rw [own_digO (m := m) (by omega) (by omega)]
    simp only [List.map_nil, List.map_cons, List.nil_append, List.append_nil, List.cons_append, List.append_assoc, D0, o0]
  by_cases b2 : m < 100
  · have hn : own_nd vv = (2 : Int32) := by unfold own_nd; rw [if_pos (c9.mpr (by omega)), if_pos (c8.mpr (by omega)), if_pos (c7.mpr (by omega)), if_pos (c6.mpr (by omega)), if_pos (c5.mpr (by omega)), if_pos (c4.mpr (by omega)), if_pos (c3.mpr (by omega)), if_pos (c2.mpr (by omega)), if_neg (fun q => absurd (c1.mp q) (by omega))]
    rw [hn]
    unfold own_pd
    rw [if_neg (show ¬ ((9 : Int32) < (2 : Int32)) by decide), if_neg (show ¬ ((8 : Int32) < (2 : Int32)) by decide), if_neg (show ¬ ((7 : Int32) < (2 : Int32)) by decide), if_neg (show ¬ ((6 : Int32) < (2 : Int32)) by decide), if_neg (show ¬ ((5 : Int32) < (2 : Int32)) by decide), if_neg (show ¬ ((4 : Int32) < (2 : Int32)) by decide), if_neg (show ¬ ((3 : Int32) < (2 : Int32)) by decide), if_neg (show ¬ ((2 : Int32) < (2 : Int32)) by decide), if_pos (show (1 : Int32) < (2 : Int32) by decide), if_pos (show (0 : Int32) < (2 : Int32) by decide)]
    rw [own_digT (m := m) (by omega) (by omega)]
    simp only [List.map_nil, List.map_cons, List.nil_append, List.append_nil, List.cons_append, List.append_assoc, D0, D1, o0, t0]
  by_cases b3 : m < 1000
  · have hn : own_nd vv = (3 : Int32) := by unfold own_nd; rw [if_pos (c9.mpr (by omega)), if_pos (c8.mpr (by omega)), if_pos (c7.mpr (by omega)), if_pos (c6.mpr (by omega)), if_pos (c5.mpr (by omega)), if_pos (c4.mpr (by omega)), if_pos (c3.mpr (by omega)), if_neg (fun q => absurd (c2.mp q) (by omega))]
    rw [hn]
    unfold own_pd
    rw [if_neg (show ¬ ((9 : Int32) < (3 : Int32)) by decide), if_neg (show ¬ ((8 : Int32) < (3 : Int32)) by decide), if_neg (show ¬ ((7 : Int32) < (3 : Int32)) by decide), if_neg (show ¬ ((6 : Int32) < (3 : Int32)) by decide), if_neg (show ¬ ((5 : Int32) < (3 : Int32)) by decide), if_neg (show ¬ ((4 : Int32) < (3 : Int32)) by decide), if_neg (show ¬ ((3 : Int32) < (3 : Int32)) by decide), if_pos (show (2 : Int32) < (3 : Int32) by decide), if_pos (show (1 : Int32) < (3 : Int32) by decide), if_pos (show (0 : Int32) < (3 : Int32) by decide)]
    rw [own_digB (m := m) (by omega), own_digO (m := m / 100) (by omega) (by omega)]
    simp only [List.map_nil, List.map_cons, List.nil_append, List.append_nil, List.cons_append, List.append_assoc, D0, D1, D2, o0, t0, o1]
  by_cases b4 : m < 10000
  · have hn : own_nd vv = (4 : Int32) := by unfold own_nd; rw [if_pos (c9.mpr (by omega)), if_pos (c8.mpr (by omega)), if_pos (c7.mpr (by omega)), if_pos (c6.mpr (by omega)), if_pos (c5.mpr (by omega)), if_pos (c4.mpr (by omega)), if_neg (fun q => absurd (c3.mp q) (by omega))]
    rw [hn]
    unfold own_pd
    rw [if_neg (show ¬ ((9 : Int32) < (4 : Int32)) by decide), if_neg (show ¬ ((8 : Int32) < (4 : Int32)) by decide), if_neg (show ¬ ((7 : Int32) < (4 : Int32)) by decide), if_neg (show ¬ ((6 : Int32) < (4 : Int32)) by decide), if_neg (show ¬ ((5 : Int32) < (4 : Int32)) by decide), if_neg (show ¬ ((4 : Int32) < (4 : Int32)) by decide), if_pos (show (3 : Int32) < (4 : Int32) by decide), if_pos (show (2 : Int32) < (4 : Int32) by decide), if_pos (show (1 : Int32) < (4 : Int32) by decide), if_pos (show (0 : Int32) < (4 : Int32) by decide)]
    rw [own_digB (m := m) (by omega), own_digT (m := m / 100) (by omega) (by omega)]
    simp only [List.map_nil, List.map_cons, List.nil_append, List.append_nil, List.cons_append, List.append_assoc, D0, D1, D2, D3, o0, t0, o1, t1]
  by_cases b5 : m < 100000
  · have hn : own_nd vv = (5 : Int32) := by unfold own_nd; rw [if_pos (c9.mpr (by omega)), if_pos (c8.mpr (by omega)), if_pos (c7.mpr (by omega)), if_pos (c6.mpr (by omega)), if_pos (c5.mpr (by omega)), if_neg (fun q => absurd (c4.mp q) (by omega))]
    rw [hn]
    unfold own_pd
    rw [if_neg (show ¬ ((9 : Int32) < (5 : Int32)) by decide), if_neg (show ¬ ((8 : Int32) < (5 : Int32)) by decide), if_neg (show ¬ ((7 : Int32) < (5 : Int32)) by decide), if_neg (show ¬ ((6 : Int32) < (5 : Int32)) by decide), if_neg (show ¬ ((5 : Int32) < (5 : Int32)) by decide), if_pos (show (4 : Int32) < (5 : Int32) by decide), if_pos (show (3 : Int32) < (5 : Int32) by decide), if_pos (show (2 : Int32) < (5 : Int32) by decide), if_pos (show (1 : Int32) < (5 : Int32) by decide), if_pos (show (0 : Int32) < (5 : Int32) by decide)]
    rw [own_digB (m := m) (by omega), own_digB (m := m / 100) (by omega), own_digO (m := m / 100 / 100) (by omega) (by omega)]
    simp only [List.map_nil, List.map_cons, List.nil_append, List.append_nil, List.cons_append, List.append_assoc, D0, D1, D2, D3, D4, o0, t0, o1, t1, o2]
  by_cases b6 : m < 1000000
  · have hn : own_nd vv = (6 : Int32) := by unfold own_nd; rw [if_pos (c9.mpr (by omega)), if_pos (c8.mpr (by omega)), if_pos (c7.mpr (by omega)), if_pos (c6.mpr (by omega)), if_neg (fun q => absurd (c5.mp q) (by omega))]
    rw [hn]
    unfold own_pd
    rw [if_neg (show ¬ ((9 : Int32) < (6 : Int32)) by decide), if_neg (show ¬ ((8 : Int32) < (6 : Int32)) by decide), if_neg (show ¬ ((7 : Int32) < (6 : Int32)) by decide), if_neg (show ¬ ((6 : Int32) < (6 : Int32)) by decide), if_pos (show (5 : Int32) < (6 : Int32) by decide), if_pos (show (4 : Int32) < (6 : Int32) by decide), if_pos (show (3 : Int32) < (6 : Int32) by decide), if_pos (show (2 : Int32) < (6 : Int32) by decide), if_pos (show (1 : Int32) < (6 : Int32) by decide), if_pos (show (0 : Int32) < (6 : Int32) by decide)]
    rw [own_digB (m := m) (by omega), own_digB (m := m / 100) (by omega), own_digT (m := m / 100 / 100) (by omega) (by omega)]
    simp only [List.map_nil, List.map_cons, List.nil_append, List.append_nil, List.cons_append, List.append_assoc, D0, D1, D2, D3, D4, D5, o0, t0, o1, t1, o2, t2]
  by_cases b7 : m < 10000000
  · have hn : own_nd vv = (7 : Int32) := by unfold own_nd; rw [if_pos (c9.mpr (by omega)), if_pos (c8.mpr (by omega)), if_pos (c7.mpr (by omega)), if_neg (fun q => absurd (c6.mp q) (by omega))]
    rw [hn]
    unfold own_pd
    rw [if_neg (show ¬ ((9 : Int32) < (7 : Int32)) by decide), if_neg (show ¬ ((8 : Int32) < (7 : Int32)) by decide), if_neg (show ¬ ((7 : Int32) < (7 : Int32)) by decide), if_pos (show (6 : Int32) < (7 : Int32) by decide), if_pos (show (5 : Int32) < (7 : Int32) by decide), if_pos (show (4 : Int32) < (7 : Int32) by decide), if_pos (show (3 : Int32) < (7 : Int32) by decide), if_pos (show (2 : Int32) < (7 : Int32) by decide), if_pos (show (1 : Int32) < (7 : Int32) by decide), if_pos (show (0 : Int32) < (7 : Int32) by decide)]
    rw [own_digB (m := m) (by omega), own_digB (m := m / 100) (by omega), own_digB (m := m / 100 / 100) (by omega), own_digO (m := m / 100 / 100 / 100) (by omega) (by omega)]
    simp only [List.map_nil, List.map_cons, List.nil_append, List.append_nil, List.cons_append, List.append_assoc, D0, D1, D2, D3, D4, D5, D6, o0, t0, o1, t1, o2, t2, o3]
  by_cases b8 : m < 100000000
  · have hn : own_nd vv = (8 : Int32) := by unfold own_nd; rw [if_pos (c9.mpr (by omega)), if_pos (c8.mpr (by omega)), if_neg (fun q => absurd (c7.mp q) (by omega))]
    rw [hn]
    unfold own_pd
    rw [if_neg (show ¬ ((9 : Int32) < (8 : Int32)) by decide), if_neg (show ¬ ((8 : Int32) < (8 : Int32)) by decide), if_pos (show (7 : Int32) < (8 : Int32) by decide), if_pos (show (6 : Int32) < (8 : Int32) by decide), if_pos (show (5 : Int32) < (8 : Int32) by decide), if_pos (show (4 : Int32) < (8 : Int32) by decide), if_pos (show (3 : Int32) < (8 : Int32) by decide), if_pos (show (2 : Int32) < (8 : Int32) by decide), if_pos (show (1 : Int32) < (8 : Int32) by decide), if_pos (show (0 : Int32) < (8 : Int32) by decide)]
    rw [own_digB (m := m) (by omega), own_digB (m := m / 100) (by omega), own_digB (m := m / 100 / 100) (by omega), own_digT (m := m / 100 / 100 / 100) (by omega) (by omega)]
    simp only [List.map_nil, List.map_cons, List.nil_append, List.append_nil, List.cons_append, List.append_assoc, D0, D1, D2, D3, D4, D5, D6, D7, o0, t0, o1, t1, o2, t2, o3, t3]
  by_cases b9 : m < 1000000000
  · have hn : own_nd vv = (9 : Int32) := by unfold own_nd; rw [if_pos (c9.mpr (by omega)), if_neg (fun q => absurd (c8.mp q) (by omega))]
    rw [hn]
    unfold own_pd
    rw [if_neg (show ¬ ((9 : Int32) < (9 : Int32)) by decide), if_pos (show (8 : Int32) < (9 : Int32) by decide), if_pos (show (7 : Int32) < (9 : Int32) by decide), if_pos (show (6 : Int32) < (9 : Int32) by decide), if_pos (show (5 : Int32) < (9 : Int32) by decide), if_pos (show (4 : Int32) < (9 : Int32) by decide), if_pos (show (3 : Int32) < (9 : Int32) by decide), if_pos (show (2 : Int32) < (9 : Int32) by decide), if_pos (show (1 : Int32) < (9 : Int32) by decide), if_pos (show (0 : Int32) < (9 : Int32) by decide)]
    rw [own_digB (m := m) (by omega), own_digB (m := m / 100) (by omega), own_digB (m := m / 100 / 100) (by omega), own_digB (m := m / 100 / 100 / 100) (by omega), own_digO (m := m / 100 / 100 / 100 / 100) (by omega) (by omega)]
    simp only [List.map_nil, List.map_cons, List.nil_append, List.append_nil, List.cons_append, List.append_assoc, D0, D1, D2, D3, D4, D5, D6, D7, D8, o0, t0, o1, t1, o2, t2, o3, t3, o4]
  have hn : own_nd vv = (10 : Int32) := by unfold own_nd; rw [if_neg (fun q => absurd (c9.mp q) (by omega))]
  rw [hn]
  unfold own_pd
  rw [if_pos (show (9 : Int32) < (10 : Int32) by decide), if_pos (show (8 : Int32) < (10 : Int32) by decide), if_pos (show (7 : Int32) < (10 : Int32) by decide), if_pos (show (6 : Int32) < (10 : Int32) by decide), if_pos (show (5 : Int32) < (10 : Int32) by decide), if_pos (show (4 : Int32) < (10 : Int32) by decide), if_pos (show (3 : Int32) < (10 : Int32) by decide), if_pos (show (2 : Int32) < (10 : Int32) by decide), if_pos (show (1 : Int32) < (10 : Int32) by decide), if_pos (show (0 : Int32) < (10 : Int32) by decide)]
  rw [own_digB (m := m) (by omega), own_digB (m := m / 100) (by omega), own_digB (m := m / 100 / 100) (by omega), own_digB (m := m / 100 / 100 / 100) (by omega), own_digT (m := m / 100 / 100 / 100 / 100) (by omega) (by omega)]
  simp only [List.map_nil, List.map_cons, List.nil_append, List.append_nil, List.cons_append, List.append_assoc, D0, D1, D2, D3, D4, D5, D6, D7, D8, D9, o0, t0, o1, t1, o2, t2, o3, t3, o4, t4]
theorem own_absv {x neg : Int32} {vv : Int64} (hneg : neg = if XT.cmpL (x.toInt64) (0 : Int64) < (0 : Int32) then (1 : Int32) else (0 : Int32)) (hvv : vv = if neg = (0 : Int32) then (x.toInt64) else (-(x.toInt64))) : vv.toInt = (x.toInt.natAbs : Int) ∧ List.map own_b8 (own_sgc neg) = own_sg x := by
  have e := c_i2l x
  have r := rng32 x
  have z : (0 : Int64).toInt = 0 := by decide
  unfold own_sgc own_sg
  by_cases q : x.toInt < 0
  · have hn : neg = 1 := by rw [hneg, if_pos (own_cl.mpr (by rw [e, z]; exact q))]
    rw [hn, if_neg (by decide)] at hvv
    rw [hn, if_neg (by decide), if_pos (own_ltI.mpr (by rw [own_i0]; exact q))]
    refine ⟨?_, by decide⟩
    have c := c_lneg x.toInt64
    have r2 := rng64 (-(x.toInt64))
    rw [hvv]; omega
  · have hn : neg = 0 := by rw [hneg, if_neg (fun w => q (by have := own_cl.mp w; rw [e, z] at this; exact this))]
    rw [hn, if_pos rfl] at hvv
    rw [hn, if_pos rfl, if_neg (fun w => q (by have := own_ltI.mp w; rw [own_i0] at this; exact this))]
    refine ⟨?_, rfl⟩
    rw [hvv, e]; omega
theorem own_dtab {s : State} {a0 a1 : Array Value} {nm : String} {F : Term} {f : Nat → Int32} (hf : Fit s) (wi : (Cond.initializedFor "java/lang/Integer" nm "[B").before a0 s = true) (w3 : (Cond.exactly (.static "java/lang/Integer" nm "[B") "[B").before a0 s = true) (w4 : (Cond.eq (.length (.static "java/lang/Integer" nm "[B")) (.int 100)).before a0 s = true) (w5 : (Cond.all (.static "java/lang/Integer" nm "[B") (.eq (.elem (.static "java/lang/Integer" nm "[B") (.index 0)) F)).before a0 s = true) (wa : (Cond.arrayClass .byte).before a1 s = true) (hv : ∀ j : Nat, j < 100 → F.eval a0 s none [j] s = some (.int (f j))) :
    ∃ (ao : Addr) (ko : ClassId), Sta s s.heap "java/lang/Integer" nm "[B" (.ref ao) ∧ Arv s s.heap ao ko .byte (100 : Int32) (List.map Value.int ((List.range 100).map f)) (.int (0 : Int32)) := by
  have hlen := Cond.eq_int w4 rfl
  obtain ⟨ao, SA, hev, harrAt, hv0⟩ := Term.length_spec hlen
  have h31 := SBG.length_lt hev harrAt hlen
  have hsz : SA.slots.size = 100 := by
    have q := congrArg Int32.toInt (Value.int.inj hv0)
    rw [len_toInt h31, show (100 : Int32).toInt = 100 by decide] at q; omega
  obtain ⟨a3, c3, cell3, k3, e1, e2, e3, e4, e5, e6, -⟩ := Cond.exactly_spec w3
  cases hev.symm.trans e1
  obtain ⟨c4, k4, comp, f1, f2, f3⟩ := Cond.arrayClass_spec wa
  have hcell : s.heap[ao]? = some SA ∧ SA.vm ≠ .unknown := ⟨(Jvm.Joins.arrayAt_spec harrAt).1, (Jvm.Joins.arrayAt_spec harrAt).2.1⟩
  cases hcell.1.symm.trans e3
  cases (show s.vm.findClass "[B" = some c4 from f1).symm.trans e2
  have A : Arr s s.heap ao SA .byte := ⟨hcell.1, ⟨(fun q r => by rw [r] at e5; cases e5), k4, by rw [e6]; exact f2, comp, f3⟩, hcell.2⟩
  have hst : ∀ idx, (Term.static "java/lang/Integer" nm "[B").eval a0 s none idx s = some (.ref ao) := fun idx => by rw [← hev]; simp [Term.eval]
  have hat : ∀ j, j < 100 → SA.slots[j]? = some (.int (f j)) := fun j hj => by
    have q := Cond.all_elim hev harrAt (Cond.before_iff.mp w5) j (by omega)
    have e := eqv_i (hv j hj) q
    have hj2 : (Nat.toInt32 j).toNatClampNeg = j := by simp only [Int32.toNatClampNeg, len_toInt (by omega : j < 2 ^ 31)]; rfl
    have nn : ¬ (Nat.toInt32 j) < 0 := by rw [Int32.lt_iff_toInt_lt, len_toInt (by omega : j < 2 ^ 31)]; show ¬ (j : Int) < 0; omega
    have g := elem_f (a := .index 0) (hst [j]) (j := Nat.toInt32 j) (by have := idx_at (args := a0) (first := s) (o := none) (s := s) nn; rw [hj2] at this; exact this) harrAt nn
    rw [hj2] at g
    rw [← g]; exact e
  have H : Has SA (List.map Value.int ((List.range 100).map f)) (.int 0) := fun j hj => by rw [hat j (by omega)]; simp [show j < 100 by omega]
  refine ⟨ao, SA.cls, Sta.start hev (Or.inl wi), SA, A, rfl, by rw [hsz]; rfl, by decide, H, fun j hj => ?_⟩
  have e1 : (Nat.toInt32 j).toNatClampNeg = j := by simp only [Int32.toNatClampNeg, len_toInt (Nat.lt_trans hj h31)]; rfl
  exact elem_fits (j := Nat.toInt32 j) hf A (idx_in hj h31) (by rw [e1]; exact H j hj)
theorem own_valO {a0 : Array Value} {s : State} : ∀ j : Nat, j < 100 → (Term.add (.int 48) (.rem (.index 0) (.int 10))).eval a0 s none [j] s = some (.int (own_o j)) := by
  intro j hj
  have key : ∀ j, j < 100 → (48 : Int32) + (Nat.toInt32 j) % 10 = own_o j := by decide
  show some (Value.int ((48 : Int32) + (Nat.toInt32 j) % 10)) = _
  rw [key j hj]
theorem own_valT {a0 : Array Value} {s : State} : ∀ j : Nat, j < 100 → (Term.add (.int 48) (.div (.index 0) (.int 10))).eval a0 s none [j] s = some (.int (own_t j)) := by
  intro j hj
  have key : ∀ j, j < 100 → (48 : Int32) + (Nat.toInt32 j) / 10 = own_t j := by decide
  show some (Value.int ((48 : Int32) + (Nat.toInt32 j) / 10)) = _
  rw [key j hj]
theorem own_plain {p1 p2 p3 fk mk neg n10 : Int32} {vv : Int64} {e_1 e_2 e_3 e_4 e_5 e_6 e_7 e_8 e_9 e_10 e_11 e_12 e_13 e_14 e_15 e_16 : List Int32} (hneg : neg = if XT.cmpL (p2.toInt64) (0 : Int64) < (0 : Int32) then (1 : Int32) else (0 : Int32)) (hvv : vv = if neg = (0 : Int32) then (p2.toInt64) else (-(p2.toInt64))) (hN : n10 = own_nd vv) (hk : fk = 0 ∨ fk = 1 ∨ fk = 2 ∨ fk = 3) (hm : mk = 0 ∨ mk = 1 ∨ mk = 2 ∨ mk = 3) (he_1 : e_1 = ([] : List Int32) ++ List.map (nar .char) (own_pt fk p1)) (he_2 : e_2 = e_1 ++ [nar .char (58 : Int32)]) (he_3 : e_3 = e_2 ++ own_sgc neg) (he_4 : e_4 = e_3 ++ own_pd n10 (9 : Int32) vv (1000000000 : Int64)) (he_5 : e_5 = e_4 ++ own_pd n10 (8 : Int32) vv (100000000 : Int64)) (he_6 : e_6 = e_5 ++ own_pd n10 (7 : Int32) vv (10000000 : Int64)) (he_7 : e_7 = e_6 ++ own_pd n10 (6 : Int32) vv (1000000 : Int64)) (he_8 : e_8 = e_7 ++ own_pd n10 (5 : Int32) vv (100000 : Int64)) (he_9 : e_9 = e_8 ++ own_pd n10 (4 : Int32) vv (10000 : Int64)) (he_10 : e_10 = e_9 ++ own_pd n10 (3 : Int32) vv (1000 : Int64)) (he_11 : e_11 = e_10 ++ own_pd n10 (2 : Int32) vv (100 : Int64)) (he_12 : e_12 = e_11 ++ own_pd n10 (1 : Int32) vv (10 : Int64)) (he_13 : e_13 = e_12 ++ own_pd n10 (0 : Int32) vv (1 : Int64)) (he_14 : e_14 = e_13 ++ [nar .char (58 : Int32)]) (he_15 : e_15 = e_14 ++ [nar .char (32 : Int32)]) (he_16 : e_16 = e_15 ++ List.map (nar .char) (own_pt mk p3)) : ((((([] ++ (List.map own_b8 (own_pt fk p1))) ++ own_co) ++ own_num p2) ++ own_cs) ++ (List.map own_b8 (own_pt mk p3))) = List.map own_b8 e_16 := by
  obtain ⟨ha, hs⟩ := own_absv hneg hvv
  have hd := own_digits ha (by have := rng32 p2; omega)
  rw [he_16, he_15, he_14, he_13, he_12, he_11, he_10, he_9, he_8, he_7, he_6, he_5, he_4, he_3, he_2, he_1, own_mapnc, own_mapnc, hN]
  unfold own_num
  rw [← hs, ← hd]
  simp only [List.map_append, List.append_assoc, List.nil_append]
  rfl
theorem own_allapp {P : Int32 → Prop} {a b : List Int32} (h1 : ∀ c ∈ a, P c) (h2 : ∀ c ∈ b, P c) : ∀ c ∈ a ++ b, P c := fun c hc => (List.mem_append.mp hc).elim (h1 c) (h2 c)
theorem own_alls {x : Int32} (h : ¬ ((255 : Int32) < x)) : ∀ c ∈ [x], ¬ ((255 : Int32) < c) := fun c hc => by rw [List.mem_singleton.mp hc]; exact h
theorem own_allpd (nd k : Int32) (v pw : Int64) : ∀ c ∈ own_pd nd k v pw, ¬ ((255 : Int32) < c) := by
  unfold own_pd
  split
  · exact own_alls (own_not255 (own_dgt_bd v pw))
  · intro c hc; cases hc
theorem own_allpt (k p : Int32) : ∀ c ∈ List.map (nar .char) (own_pt k p), ¬ ((255 : Int32) < c) := by
  rw [own_mapnc]; exact fun c hc => own_not255 (own_pt_bd k p c hc)
theorem own_allsg (neg : Int32) : ∀ c ∈ own_sgc neg, ¬ ((255 : Int32) < c) := by
  unfold own_sgc
  split
  · intro c hc; cases hc
  · exact own_alls (by decide)
theorem own_plain_all {p1 p3 fk mk neg n10 : Int32} {vv : Int64} {e_1 e_2 e_3 e_4 e_5 e_6 e_7 e_8 e_9 e_10 e_11 e_12 e_13 e_14 e_15 e_16 : List Int32} (hk : fk = 0 ∨ fk = 1 ∨ fk = 2 ∨ fk = 3) (hm : mk = 0 ∨ mk = 1 ∨ mk = 2 ∨ mk = 3) (he_1 : e_1 = ([] : List Int32) ++ List.map (nar .char) (own_pt fk p1)) (he_2 : e_2 = e_1 ++ [nar .char (58 : Int32)]) (he_3 : e_3 = e_2 ++ own_sgc neg) (he_4 : e_4 = e_3 ++ own_pd n10 (9 : Int32) vv (1000000000 : Int64)) (he_5 : e_5 = e_4 ++ own_pd n10 (8 : Int32) vv (100000000 : Int64)) (he_6 : e_6 = e_5 ++ own_pd n10 (7 : Int32) vv (10000000 : Int64)) (he_7 : e_7 = e_6 ++ own_pd n10 (6 : Int32) vv (1000000 : Int64)) (he_8 : e_8 = e_7 ++ own_pd n10 (5 : Int32) vv (100000 : Int64)) (he_9 : e_9 = e_8 ++ own_pd n10 (4 : Int32) vv (10000 : Int64)) (he_10 : e_10 = e_9 ++ own_pd n10 (3 : Int32) vv (1000 : Int64)) (he_11 : e_11 = e_10 ++ own_pd n10 (2 : Int32) vv (100 : Int64)) (he_12 : e_12 = e_11 ++ own_pd n10 (1 : Int32) vv (10 : Int64)) (he_13 : e_13 = e_12 ++ own_pd n10 (0 : Int32) vv (1 : Int64)) (he_14 : e_14 = e_13 ++ [nar .char (58 : Int32)]) (he_15 : e_15 = e_14 ++ [nar .char (32 : Int32)]) (he_16 : e_16 = e_15 ++ List.map (nar .char) (own_pt mk p3)) : ∀ c ∈ e_16, ¬ ((255 : Int32) < c) := by
  rw [he_16, he_15, he_14, he_13, he_12, he_11, he_10, he_9, he_8, he_7, he_6, he_5, he_4, he_3, he_2, he_1, List.nil_append]
  exact own_allapp (own_allapp (own_allapp (own_allapp (own_allapp (own_allapp (own_allapp (own_allapp (own_allapp (own_allapp (own_allapp (own_allapp (own_allapp (own_allapp (own_allapp (own_allpt fk p1) (own_alls (by decide))) (own_allsg neg)) (own_allpd _ _ _ _)) (own_allpd _ _ _ _)) (own_allpd _ _ _ _)) (own_allpd _ _ _ _)) (own_allpd _ _ _ _)) (own_allpd _ _ _ _)) (own_allpd _ _ _ _)) (own_allpd _ _ _ _)) (own_allpd _ _ _ _)) (own_allpd _ _ _ _)) (own_alls (by decide))) (own_alls (by decide))) (own_allpt mk p3)
theorem pd_30 : parseMethodDescriptor "(II)Ljava/lang/String;" = some ⟨[.int, .int], some (.object "java/lang/String")⟩ := by decide +kernel
theorem pd_31 : parseMethodDescriptor "(Ljava/lang/String;ILjava/lang/String;)V" = some ⟨[(.object "java/lang/String"), .int, (.object "java/lang/String")], none⟩ := by decide +kernel
theorem pd_32 : parseMethodDescriptor "(II)[C" = some ⟨[.int, .int], some (.array .char)⟩ := by decide +kernel
theorem pd_33 : parseMethodDescriptor "([CI[C)I" = some ⟨[(.array .char), .int, (.array .char)], some .int⟩ := by decide +kernel
theorem pd_34 : parseMethodDescriptor "([CIIIJJ)I" = some ⟨[(.array .char), .int, .int, .int, .long, .long], some .int⟩ := by decide +kernel
theorem pd_35 : parseMethodDescriptor "(Ljava/lang/Object;)Z" = some ⟨[(.object "java/lang/Object")], some .boolean⟩ := by decide +kernel
theorem ef_0 (m : MethodId) (x0 : Int32) (x1 : Int32) (x2 : Int32) (x3 : Int32) : entryFrame m #[(.int x0), (.int x1), (.int x2), (.int x3)] maxLocals = mkF m 0 #[.val (.int x0), .val (.int x1), .val (.int x2), .val (.int x3), .unset, .unset, .unset, .unset, .unset, .unset, .unset, .unset, .unset, .unset, .unset, .unset, .unset, .unset] [] := by first | (simp [entryFrame, mkF, argsToLocals, Value.category, maxLocals]; done) | rfl
def Q0 (n0 : Nat) (v : Option Value) (h : Heap) (L : List Loc) : Prop := v = some (.int 1) ∧ Fr n0 L
set_option maxRecDepth 65536 in
set_option maxHeartbeats 40000000 in
theorem rm0 (l : Launch) (Z : State) (a0 : Array Value) (hw : ∀ d ∈ tables_1, d.before a0 Z = true) (ws : List Jvm.Cond) (p1 p2 p3 p4 g1 : Int32) (ao at_ : Addr) (ko kt : ClassId) (h0 : Heap) (n0 : Nat) (Z0 : n0 ≤ h0.size) (hEL : EW Z a0 consts_1) (SC : Sta Z h0 "java/lang/String" "COMPACT_STRINGS" "Z" (.int g1)) (hg1 : ¬ (g1 = (0 : Int32))) (SO : Sta Z h0 "java/lang/Integer" "DigitOnes" "[B" (.ref ao)) (Vo : Arv Z h0 ao ko .byte (100 : Int32) (List.map Value.int own_ones) (.int (0 : Int32))) (ST : Sta Z h0 "java/lang/Integer" "DigitTens" "[B" (.ref at_)) (Vt : Arv Z h0 at_ kt .byte (100 : Int32) (List.map Value.int own_tens) (.int (0 : Int32))) :
    MetFree l x (head1 (Jvm.Cond.code x code maxLocals ret :: ws) room_1) (fun a U => a = #[(.int p1), (.int p2), (.int p3), (.int p4)] ∧ Z.Warmed39 U.vm ∧ U.heap = h0 ∧ CHv Z consts_1 U.vm h0) (fun _ _ _ _ _ => True) (fun _ U o U' => ∃ v L, o = .returned v ∧ (Q0 n0) v U'.heap L ∧ ReturnedEndW U o U' L 48 3456) := by
  refine MetFree.of_bodySF (plainFor_of_name pn_10) hisR ?_
  intro p e s m args below meth c s₁ Bd hml0 hP hK
  obtain ⟨rfl, hZ, hh, HH⟩ := hP
  have hx := Bd.exec
  have hby := Bd.bytes
  have hml : c.maxLocals = 18 := hml0
  have hown : s.vm.findClass "com/example/handover/handover/ProblemToStringPinLaw" = some m.cls := findClass_of_methodNamed Bd.named
  have hnm := (name_of_methodNamed Bd.named Bd.method).1
  have hlk := Bd.notSynchronized
  have X0 : Stand p l e room_1 (s.setVm s.vm) m #[(.int p1), (.int p2), (.int p3), (.int p4)] below meth c s₁ [] 0 0 := Stand.of_body Bd
  have hS := (State.WarmedH.refl s).since 0
  have hkS : 0 ≤ h0.size := Nat.zero_le _
  replace hZ : Z.Warmed39 (s.setVm s.vm).vm := hZ
  replace hown : (s.setVm s.vm).vm.findClass "com/example/handover/handover/ProblemToStringPinLaw" = some m.cls := hown
  replace HH : CHv Z consts_1 s.vm h0 := HH
  have e0 : s₁.heap = h0 := by rw [← hh, Bd.state]; rfl
  have N0 := Fr.nil n0
  show own_Ends p e below s ReturnedEndW (Q0 n0) 48 3456 (s₁.setTop (entryFrame m #[(.int p1), (.int p2), (.int p3), (.int p4)] maxLocals))
  refine own_of (U' := (s₁.setTop (mkF m 0 #[.val (.int p1), .val (.int p2), .val (.int p3), .val (.int p4), .unset, .unset, .unset, .unset, .unset, .unset, .unset, .unset, .unset, .unset, .unset, .unset, .unset, .unset] []))) (fun _ k => castTop (ef_0 m p1 p2 p3 p4) k) ?_
  refine own_iloadN X0 hx hby at_0 rfl ?_
  refine own_iconst X0 hx hby 3 at_1 rfl ?_
  refine own_iand X0 hx hby at_2 ?_
  obtain ⟨fk, hfk⟩ : ∃ z, z = (p4 &&& (3 : Int32)) := ⟨_, rfl⟩
  refine own_eq (U' := (s₁.setTop (mkF m 3 #[.val (.int p1), .val (.int p2), .val (.int p3), .val (.int p4), .unset, .unset, .unset, .unset, .unset, .unset, .unset, .unset, .unset, .unset, .unset, .unset, .unset, .unset] [(.int fk)]))) (by rw [hfk]) ?_
  refine own_istore X0 hx hby at_3 (l' := #[.val (.int p1), .val (.int p2), .val (.int p3), .val (.int p4), .val (.int fk), .unset, .unset, .unset, .unset, .unset, .unset, .unset, .unset, .unset, .unset, .unset, .unset, .unset]) rfl ?_
  have hk_fk : fk = 0 ∨ fk = 1 ∨ fk = 2 ∨ fk = 3 := by rw [hfk]; exact own_and3 p4
  refine own_iloadN X0 hx hby at_5 rfl ?_
  refine own_iconst X0 hx hby 2 at_6 rfl ?_
  refine own_iushr X0 hx hby at_7 ?_
  refine own_iconst X0 hx hby 3 at_8 rfl ?_
  refine own_iand X0 hx hby at_9 ?_
  obtain ⟨mk, hmk⟩ : ∃ z, z = ((XT.ushr p4 (2 : Int32)) &&& (3 : Int32)) := ⟨_, rfl⟩
  refine own_eq (U' := (s₁.setTop (mkF m 10 #[.val (.int p1), .val (.int p2), .val (.int p3), .val (.int p4), .val (.int fk), .unset, .unset, .unset, .unset, .unset, .unset, .unset, .unset, .unset, .unset, .unset, .unset, .unset] [(.int mk)]))) (by rw [hmk]) ?_
  refine own_istore X0 hx hby at_10 (l' := #[.val (.int p1), .val (.int p2), .val (.int p3), .val (.int p4), .val (.int fk), .val (.int mk), .unset, .unset, .unset, .unset, .unset, .unset, .unset, .unset, .unset, .unset, .unset, .unset]) rfl ?_
  have hk_mk : mk = 0 ∨ mk = 1 ∨ mk = 2 ∨ mk = 3 := by rw [hmk]; exact own_and3 _
  refine own_iload X0 hx hby at_12 rfl ?_
  refine own_iloadN X0 hx hby at_14 rfl ?_
  obtain ⟨_, _, ⟨T362, L362, k362, n362⟩, -, X362, sn362, gr362, ⟨Lc362, hQ362, l362, y362, z362, CH362⟩, st362⟩ := callSS X0 hx (y := mN_40) hown (mvT hZ (own_w hw 0 rfl)) (mvT hZ (own_w hw 1 rfl)) (mvT hZ (own_w hw 2 rfl)) (mvT hZ (own_w hw 3 rfl)) (by decide) (backOfSH (W := 0) (rmmk l Z a0 hw [] fk p1 g1 h0 n0 Z0 hEL SC hg1 hk_fk) hZ (own_w hw 3 rfl) (own_w hw 2 rfl) (by decide) (by decide) hEL HH) (g := (mkF m 15 #[.val (.int p1), .val (.int p2), .val (.int p3), .val (.int p4), .val (.int fk), .val (.int mk), .unset, .unset, .unset, .unset, .unset, .unset, .unset, .unset, .unset, .unset, .unset, .unset] [(.int p1), (.int fk)])) rfl (by rw [hml]; rfl) (argsL := [(.int fk), (.int p1)]) (rest := []) (lenOf pd_30 rfl) rfl (by show 2 * 0 + _ ≤ _; exact Nat.le_of_eq rfl) (hb hby at_15) (fun _ _ => ⟨rfl, e0, (by decide : 0 + 4 ≤ _), (by decide : 0 + 40 ≤ _)⟩)
  dsimp only [Pt.U, Pt.locs, Pt.cells, Pt.slots] at X362 sn362 gr362 l362 y362 z362 st362 hQ362 CH362
  rw [l362, y362, z362] at X362
  obtain ⟨X362, hS, hZ, hown⟩ := rebS hS (by rw [e0]; exact hkS) X362 sn362 gr362 hZ hown
  replace hkS : T362.heap.size ≤ T362.heap.size := Nat.le_refl _
  obtain ⟨w362, rfl, Nq362, Kp362, Oq362⟩ := hQ362
  have N362 := Fr.app N0 Nq362
  replace Z0 := Nat.le_trans Z0 Kp362.1
  replace SC := own_staKeep SC Kp362 ns0
  replace SO := own_staKeep SO Kp362 ns0
  replace Vo := Vo.keep Kp362 nin0
  replace ST := own_staKeep ST Kp362 ns0
  replace Vt := Vt.keep Kp362 nin0
  have hr_w362 := own_OSref Oq362
  replace HH := CH362.1
  refine own_of (U' := (T362.setTop (mkF m 18 #[.val (.int p1), .val (.int p2), .val (.int p3), .val (.int p4), .val (.int fk), .val (.int mk), .unset, .unset, .unset, .unset, .unset, .unset, .unset, .unset, .unset, .unset, .unset, .unset] [w362]))) (fun _ k => st362.trans k) ?_
  refine own_astore X362 hx hby at_18 hr_w362 (l' := #[.val (.int p1), .val (.int p2), .val (.int p3), .val (.int p4), .val (.int fk), .val (.int mk), .val w362, .unset, .unset, .unset, .unset, .unset, .unset, .unset, .unset, .unset, .unset, .unset]) (by rcases ref_cases hr_w362 with q | ⟨_, q⟩ <;> (subst q; rfl)) ?_
  refine own_iload X362 hx hby at_20 rfl ?_
  refine own_iloadN X362 hx hby at_22 rfl ?_
  obtain ⟨_, _, ⟨T363, L363, k363, n363⟩, -, X363, sn363, gr363, ⟨Lc363, hQ363, l363, y363, z363, CH363⟩, st363⟩ := callSS X362 hx (y := mN_40) hown (mvT hZ (own_w hw 0 rfl)) (mvT hZ (own_w hw 1 rfl)) (mvT hZ (own_w hw 2 rfl)) (mvT hZ (own_w hw 3 rfl)) (by decide) (backOfSH (W := 0) (rmmk l Z a0 hw [] mk p3 g1 T362.heap n0 Z0 hEL SC hg1 hk_mk) hZ (own_w hw 3 rfl) (own_w hw 2 rfl) (by decide) (by decide) hEL HH) (g := (mkF m 23 #[.val (.int p1), .val (.int p2), .val (.int p3), .val (.int p4), .val (.int fk), .val (.int mk), .val w362, .unset, .unset, .unset, .unset, .unset, .unset, .unset, .unset, .unset, .unset, .unset] [(.int p3), (.int mk)])) rfl (by rw [hml]; rfl) (argsL := [(.int mk), (.int p3)]) (rest := []) (lenOf pd_30 rfl) rfl (by show 2 * 0 + _ ≤ _; exact Nat.le_of_eq rfl) (hb hby at_23) (fun _ _ => ⟨rfl, rfl, (by decide : 4 + 4 ≤ _), (by decide : 40 + 40 ≤ _)⟩)
  dsimp only [Pt.U, Pt.locs, Pt.cells, Pt.slots] at X363 sn363 gr363 l363 y363 z363 st363 hQ363 CH363
  rw [l363, y363, z363] at X363
  obtain ⟨X363, hS, hZ, hown⟩ := rebS hS hkS X363 sn363 gr363 hZ hown
  replace hkS : T363.heap.size ≤ T363.heap.size := Nat.le_refl _
  obtain ⟨w363, rfl, Nq363, Kp363, Oq363⟩ := hQ363
  have N363 := Fr.app N362 Nq363
  replace Oq362 := own_OSkeep Oq362 Kp363 all0
  replace Z0 := Nat.le_trans Z0 Kp363.1
  replace SC := own_staKeep SC Kp363 ns0
  replace SO := own_staKeep SO Kp363 ns0
  replace Vo := Vo.keep Kp363 nin0
  replace ST := own_staKeep ST Kp363 ns0
  replace Vt := Vt.keep Kp363 nin0
  have hr_w363 := own_OSref Oq363
  replace Oq362 := own_OSmono Oq362 (Nat.le_trans (Nat.le_refl _) Kp363.1)
  replace HH := CH363.1
  refine own_of (U' := (T363.setTop (mkF m 26 #[.val (.int p1), .val (.int p2), .val (.int p3), .val (.int p4), .val (.int fk), .val (.int mk), .val w362, .unset, .unset, .unset, .unset, .unset, .unset, .unset, .unset, .unset, .unset, .unset] [w363]))) (fun _ k => st363.trans k) ?_
  refine own_astore X363 hx hby at_26 hr_w363 (l' := #[.val (.int p1), .val (.int p2), .val (.int p3), .val (.int p4), .val (.int fk), .val (.int mk), .val w362, .val w363, .unset, .unset, .unset, .unset, .unset, .unset, .unset, .unset, .unset, .unset]) (by rcases ref_cases hr_w363 with q | ⟨_, q⟩ <;> (subst q; rfl)) ?_
  have hzY : T363.heap.size ≤ T363.heap.size := Nat.le_refl _
  obtain ⟨T364, h364, X364, e364, E364, A364, D364, -, st364⟩ := newO X363 hx hZ hown (own_w hw 37 rfl) (own_w hw 38 rfl) (own_w hw 39 rfl) rfl (g := (mkF m 28 #[.val (.int p1), .val (.int p2), .val (.int p3), .val (.int p4), .val (.int fk), .val (.int mk), .val w362, .val w363, .unset, .unset, .unset, .unset, .unset, .unset, .unset, .unset, .unset, .unset] [])) rfl (hb hby at_28) (by decide) (by decide)
  obtain ⟨b364, gz364⟩ : ∃ z, z = T363.heap.size := ⟨_, rfl⟩
  rw [← gz364] at A364 D364 st364
  have g_b364 : n0 ≤ b364 := Nat.le_trans Z0 (Nat.le_of_eq gz364.symm)
  have ne_ao_b364 : ao ≠ b364 := Nat.ne_of_lt (Nat.lt_of_lt_of_le Vo.lt (Nat.le_of_eq gz364.symm))
  have ne_at__b364 : at_ ≠ b364 := Nat.ne_of_lt (Nat.lt_of_lt_of_le Vt.lt (Nat.le_of_eq gz364.symm))
  have sf_b364 := Safe.ext E364 HH (Safe.new (Z := Z) (Nat.le_of_eq gz364.symm))
  replace Oq362 := own_OSext Oq362 E364
  replace Oq363 := own_OSext Oq363 E364
  replace Z0 := Nat.le_trans Z0 E364.1
  replace SC := SC.ext E364
  replace SO := SO.ext E364
  replace Vo := Vo.ext E364
  replace ST := ST.ext E364
  replace Vt := Vt.ext E364
  replace hkS := Nat.le_trans hkS E364.1
  replace HH := HH.ext E364
  replace hzY := Nat.le_trans hzY E364.1
  have F364_file : Fld Z h364 b364 "com/example/handover/handover/ConfigException$Problem" "file" "Ljava/lang/String;" .null := D364 (Or.inr (own_w hw 50 rfl)) (ty := (.object "java/lang/String")) (by decide)
  have F364_line : Fld Z h364 b364 "com/example/handover/handover/ConfigException$Problem" "line" "I" (.int (0 : Int32)) := D364 (Or.inr (own_w hw 52 rfl)) (ty := .int) (by decide)
  have F364_message : Fld Z h364 b364 "com/example/handover/handover/ConfigException$Problem" "message" "Ljava/lang/String;" .null := D364 (Or.inr (own_w hw 54 rfl)) (ty := (.object "java/lang/String")) (by decide)
  refine own_of (U' := (T364.setTop (mkF m 31 #[.val (.int p1), .val (.int p2), .val (.int p3), .val (.int p4), .val (.int fk), .val (.int mk), .val w362, .val w363, .unset, .unset, .unset, .unset, .unset, .unset, .unset, .unset, .unset, .unset] [(.ref b364)]))) (st364) ?_
  refine own_dup X364 hx hby at_31 rfl ?_
  refine own_aload X364 hx hby at_32 rfl hr_w362 ?_
  refine own_iloadN X364 hx hby at_34 rfl ?_
  refine own_aload X364 hx hby at_35 rfl hr_w363 ?_
  obtain ⟨_, _, ⟨T365, L365, k365, n365⟩, -, X365, ⟨Lc365, hQ365, l365, y365, z365⟩, st365⟩ := X364.specialBack hx (y := mN_38) rfl hown (mvT hZ (own_w hw 40 rfl)) (mvT hZ (own_w hw 41 rfl)) (mvT hZ (own_w hw 42 rfl)) (by decide) (backOf (W := 1) (rmpi l Z a0 hw [] b364 w362 w363 p2 h364 n0 Z0 A364 F364_file F364_line F364_message g_b364 hr_w362 hr_w363) hZ (own_w hw 42 rfl) (own_w hw 39 rfl) (by decide) (by decide)) (g := (mkF m 37 #[.val (.int p1), .val (.int p2), .val (.int p3), .val (.int p4), .val (.int fk), .val (.int mk), .val w362, .val w363, .unset, .unset, .unset, .unset, .unset, .unset, .unset, .unset, .unset, .unset] [w363, (.int p2), w362, (.ref b364), (.ref b364)])) rfl (by rw [hml]; rfl) (Steps.refl _) (a := b364) (argsL := [w362, (.int p2), w363]) (rest := [(.ref b364)]) (lenOf pd_31 rfl) rfl (by show 2 * 0 + _ ≤ _; exact Nat.le_of_eq rfl) (hb hby at_37) (fun _ _ => ⟨rfl, e364, (by decide : 9 + 0 ≤ _), (by decide : 83 + 0 ≤ _)⟩)
  dsimp only [Pt.U, Pt.locs, Pt.cells, Pt.slots] at X365 l365 y365 z365 st365 hQ365
  rw [l365, y365, z365] at X365
  obtain ⟨rfl, Nq365, Kp365, Gf365, Gl365, Gm365⟩ := hQ365
  have N365 := Fr.app N363 Nq365
  have nst_b364 := A364.nostat
  have sfk : ∀ x ∈ [b364], Safe Z consts_1 _ _ x := (sfS sf_b364 sf0)
  replace sf_b364 := Safe.keep Kp365 sfk HH sf_b364
  replace HH := HH.keep Kp365 sfk
  replace Oq362 := own_OSkeep Oq362 Kp365 (allS (Nat.le_of_eq gz364.symm) all0)
  replace Oq363 := own_OSkeep Oq363 Kp365 (allS (Nat.le_of_eq gz364.symm) all0)
  replace Z0 := Nat.le_trans Z0 Kp365.1
  replace SC := own_staKeep SC Kp365 (nsS nst_b364 ns0)
  replace SO := own_staKeep SO Kp365 (nsS nst_b364 ns0)
  replace Vo := Vo.keep Kp365 (ninS ne_ao_b364 nin0)
  replace ST := own_staKeep ST Kp365 (nsS nst_b364 ns0)
  replace Vt := Vt.keep Kp365 (ninS ne_at__b364 nin0)
  replace hkS := Nat.le_trans hkS Kp365.1
  replace hzY := Nat.le_trans hzY Kp365.1
  replace A364 := A364.keep Kp365
  refine own_of (U' := (T365.setTop (mkF m 40 #[.val (.int p1), .val (.int p2), .val (.int p3), .val (.int p4), .val (.int fk), .val (.int mk), .val w362, .val w363, .unset, .unset, .unset, .unset, .unset, .unset, .unset, .unset, .unset, .unset] [(.ref b364)]))) (fun _ k => st365.trans k) ?_
  obtain ⟨cq366, kq366, q366a, q366b, q366c⟩ := isOf hZ rfl A364
  obtain ⟨_, _, ⟨T366, L366, k366, n366⟩, -, X366, sn366, gr366, ⟨Lc366, hQ366, l366, y366, z366⟩, st366⟩ := X365.virtualBackS hx (y := mN_39) (z := mN_39) hown (mvT hZ (own_w hw 55 rfl)) (mvT hZ (own_w hw 56 rfl)) (notFace_of_selects (args := #[]) (mvT hZ (own_w hw 58 rfl))) (mvT hZ (own_w hw 58 rfl)) (mvT hZ (own_w hw 57 rfl)) (by decide) (own_backSC (W := 0) (rmpt l Z a0 hw [] b364 w362 w363 p2 g1 (List.map own_b8 (own_pt fk p1)) (List.map own_b8 (own_pt mk p3)) T363.heap.size ao at_ ko kt T365.heap n0 Z0 hEL A364 Gf365 Gl365 Gm365 Oq362 Oq363 hzY (by rw [List.length_map]; exact (own_pt_len _ _ hk_fk).2) (by rw [List.length_map]; exact (own_pt_len _ _ hk_mk).2) SC hg1 SO Vo ST Vt) hEL HH hZ (own_w hw 59 rfl) (own_w hw 39 rfl) (by decide) (by decide)) q366a q366c (g := (mkF m 40 #[.val (.int p1), .val (.int p2), .val (.int p3), .val (.int p4), .val (.int fk), .val (.int mk), .val w362, .val w363, .unset, .unset, .unset, .unset, .unset, .unset, .unset, .unset, .unset, .unset] [(.ref b364)])) rfl (by rw [hml]; rfl) (Steps.refl _) (argsL := []) (rest := []) (lenOf pd_28 rfl) rfl (by show 2 * 0 + _ ≤ _; exact Nat.le_of_eq rfl) (hb hby at_40) (fun _ _ => ⟨rfl, rfl, (by decide : 9 + 13 ≤ _), (by decide : 83 + 248 ≤ _)⟩)
  dsimp only [Pt.U, Pt.locs, Pt.cells, Pt.slots] at X366 sn366 gr366 l366 y366 z366 st366 hQ366
  rw [l366, y366, z366] at X366
  obtain ⟨X366, hS, hZ, hown⟩ := rebS hS hkS X366 sn366 gr366 hZ hown
  replace hkS : T366.heap.size ≤ T366.heap.size := Nat.le_refl _
  obtain ⟨nS, hnS, hQ366⟩ := hQ366
  obtain ⟨a366, u366, ku366, rfl, Nq366, Kp366, ga366, gq366, Es366, Cq366, Fq366, Vq366⟩ := hQ366
  have g_a366 : n0 ≤ a366 := Nat.le_trans Z0 ga366
  have ne_ao_a366 : ao ≠ a366 := Nat.ne_of_lt (Nat.lt_of_lt_of_le Vo.lt ga366)
  have ne_at__a366 : at_ ≠ a366 := Nat.ne_of_lt (Nat.lt_of_lt_of_le Vt.lt ga366)
  have ne_b364_a366 : b364 ≠ a366 := Nat.ne_of_lt (Nat.lt_of_lt_of_le A364.lt ga366)
  have g_u366 : n0 ≤ u366 := Nat.le_trans Z0 gq366
  have ne_ao_u366 : ao ≠ u366 := Nat.ne_of_lt (Nat.lt_of_lt_of_le Vo.lt gq366)
  have ne_at__u366 : at_ ≠ u366 := Nat.ne_of_lt (Nat.lt_of_lt_of_le Vt.lt gq366)
  have ne_b364_u366 : b364 ≠ u366 := Nat.ne_of_lt (Nat.lt_of_lt_of_le A364.lt gq366)
  have N366 := Fr.app N365 Nq366
  replace Oq362 := own_OSkeep Oq362 Kp366 all0
  replace Oq363 := own_OSkeep Oq363 Kp366 all0
  replace Z0 := Nat.le_trans Z0 Kp366.1
  replace SC := own_staKeep SC Kp366 ns0
  replace SO := own_staKeep SO Kp366 ns0
  replace Vo := Vo.keep Kp366 nin0
  replace ST := own_staKeep ST Kp366 ns0
  replace Vt := Vt.keep Kp366 nin0
  replace hzY := Nat.le_trans hzY Kp366.1
  replace A364 := A364.keep Kp366
  replace Gf365 := Gf365.keep Kp366 nin0
  replace Gl365 := Gl365.keep Kp366 nin0
  replace Gm365 := Gm365.keep Kp366 nin0
  refine own_of (U' := (T366.setTop (mkF m 43 #[.val (.int p1), .val (.int p2), .val (.int p3), .val (.int p4), .val (.int fk), .val (.int mk), .val w362, .val w363, .unset, .unset, .unset, .unset, .unset, .unset, .unset, .unset, .unset, .unset] [(.ref a366)]))) (fun _ k => st366.trans k) ?_
  refine own_astore X366 hx hby at_43 rfl (l' := #[.val (.int p1), .val (.int p2), .val (.int p3), .val (.int p4), .val (.int fk), .val (.int mk), .val w362, .val w363, .val (.ref a366), .unset, .unset, .unset, .unset, .unset, .unset, .unset, .unset, .unset]) rfl ?_
  refine own_iload X366 hx hby at_45 rfl ?_
  refine own_iloadN X366 hx hby at_47 rfl ?_
  obtain ⟨_, _, ⟨T367, L367, k367, n367⟩, -, X367, ⟨Lc367, hQ367, l367, y367, z367⟩, st367⟩ := Jvm.LawKit.callS X366 hx (y := mN_41) hown (mvT hZ (own_w hw 190 rfl)) (mvT hZ (own_w hw 191 rfl)) (mvT hZ (own_w hw 2 rfl)) (mvT hZ (own_w hw 192 rfl)) (by decide) (backOf (W := 0) (rmpa l Z a0 hw [] fk p1 T366.heap n0 Z0 hk_fk) hZ (own_w hw 192 rfl) (own_w hw 2 rfl) (by decide) (by decide)) (g := (mkF m 48 #[.val (.int p1), .val (.int p2), .val (.int p3), .val (.int p4), .val (.int fk), .val (.int mk), .val w362, .val w363, .val (.ref a366), .unset, .unset, .unset, .unset, .unset, .unset, .unset, .unset, .unset] [(.int p1), (.int fk)])) rfl (by rw [hml]; rfl) (argsL := [(.int fk), (.int p1)]) (rest := []) (lenOf pd_32 rfl) rfl (by show 2 * 0 + _ ≤ _; exact Nat.le_of_eq rfl) (hb hby at_48) (fun _ _ => ⟨rfl, rfl, (by decide : 22 + 1 ≤ _), (by decide : 331 + 4 ≤ _)⟩)
  dsimp only [Pt.U, Pt.locs, Pt.cells, Pt.slots] at X367 l367 y367 z367 st367 hQ367
  rw [l367, y367, z367] at X367
  obtain ⟨u367, ku367, rfl, Nq367, Kp367, gq367, Vq367⟩ := hQ367
  have g_u367 : n0 ≤ u367 := Nat.le_trans Z0 gq367
  have ne_a366_u367 : a366 ≠ u367 := Nat.ne_of_lt (Nat.lt_of_lt_of_le Es366.lt gq367)
  have ne_u366_u367 : u366 ≠ u367 := Nat.ne_of_lt (Nat.lt_of_lt_of_le Vq366.lt gq367)
  have N367 := Fr.app N366 Nq367
  replace Z0 := Nat.le_trans Z0 Kp367.1
  replace SC := own_staKeep SC Kp367 ns0
  replace Es366 := Es366.keep Kp367
  replace Cq366 := Cq366.keep Kp367 nin0
  replace Fq366 := Fq366.keep Kp367 nin0
  replace Vq366 := Vq366.keep Kp367 nin0
  replace hkS := Nat.le_trans hkS Kp367.1
  refine own_of (U' := (T367.setTop (mkF m 51 #[.val (.int p1), .val (.int p2), .val (.int p3), .val (.int p4), .val (.int fk), .val (.int mk), .val w362, .val w363, .val (.ref a366), .unset, .unset, .unset, .unset, .unset, .unset, .unset, .unset, .unset] [(.ref u367)]))) (st367) ?_
  refine own_astore X367 hx hby at_51 rfl (l' := #[.val (.int p1), .val (.int p2), .val (.int p3), .val (.int p4), .val (.int fk), .val (.int mk), .val w362, .val w363, .val (.ref a366), .val (.ref u367), .unset, .unset, .unset, .unset, .unset, .unset, .unset, .unset]) rfl ?_
  refine own_iload X367 hx hby at_53 rfl ?_
  refine own_iloadN X367 hx hby at_55 rfl ?_
  obtain ⟨_, _, ⟨T368, L368, k368, n368⟩, -, X368, ⟨Lc368, hQ368, l368, y368, z368⟩, st368⟩ := Jvm.LawKit.callS X367 hx (y := mN_41) hown (mvT hZ (own_w hw 190 rfl)) (mvT hZ (own_w hw 191 rfl)) (mvT hZ (own_w hw 2 rfl)) (mvT hZ (own_w hw 192 rfl)) (by decide) (backOf (W := 0) (rmpa l Z a0 hw [] mk p3 T367.heap n0 Z0 hk_mk) hZ (own_w hw 192 rfl) (own_w hw 2 rfl) (by decide) (by decide)) (g := (mkF m 56 #[.val (.int p1), .val (.int p2), .val (.int p3), .val (.int p4), .val (.int fk), .val (.int mk), .val w362, .val w363, .val (.ref a366), .val (.ref u367), .unset, .unset, .unset, .unset, .unset, .unset, .unset, .unset] [(.int p3), (.int mk)])) rfl (by rw [hml]; rfl) (argsL := [(.int mk), (.int p3)]) (rest := []) (lenOf pd_32 rfl) rfl (by show 2 * 0 + _ ≤ _; exact Nat.le_of_eq rfl) (hb hby at_56) (fun _ _ => ⟨rfl, rfl, (by decide : 23 + 1 ≤ _), (by decide : 335 + 4 ≤ _)⟩)
  dsimp only [Pt.U, Pt.locs, Pt.cells, Pt.slots] at X368 l368 y368 z368 st368 hQ368
  rw [l368, y368, z368] at X368
  obtain ⟨u368, ku368, rfl, Nq368, Kp368, gq368, Vq368⟩ := hQ368
  have g_u368 : n0 ≤ u368 := Nat.le_trans Z0 gq368
  have ne_a366_u368 : a366 ≠ u368 := Nat.ne_of_lt (Nat.lt_of_lt_of_le Es366.lt gq368)
  have ne_u366_u368 : u366 ≠ u368 := Nat.ne_of_lt (Nat.lt_of_lt_of_le Vq366.lt gq368)
  have ne_u367_u368 : u367 ≠ u368 := Nat.ne_of_lt (Nat.lt_of_lt_of_le Vq367.lt gq368)
  have N368 := Fr.app N367 Nq368
  replace Z0 := Nat.le_trans Z0 Kp368.1
  replace SC := own_staKeep SC Kp368 ns0
  replace Es366 := Es366.keep Kp368
  replace Cq366 := Cq366.keep Kp368 nin0
  replace Fq366 := Fq366.keep Kp368 nin0
  replace Vq366 := Vq366.keep Kp368 nin0
  replace hkS := Nat.le_trans hkS Kp368.1
  replace Vq367 := Vq367.keep Kp368 nin0
  refine own_of (U' := (T368.setTop (mkF m 59 #[.val (.int p1), .val (.int p2), .val (.int p3), .val (.int p4), .val (.int fk), .val (.int mk), .val w362, .val w363, .val (.ref a366), .val (.ref u367), .unset, .unset, .unset, .unset, .unset, .unset, .unset, .unset] [(.ref u368)]))) (st368) ?_
  refine own_astore X368 hx hby at_59 rfl (l' := #[.val (.int p1), .val (.int p2), .val (.int p3), .val (.int p4), .val (.int fk), .val (.int mk), .val w362, .val w363, .val (.ref a366), .val (.ref u367), .val (.ref u368), .unset, .unset, .unset, .unset, .unset, .unset, .unset]) rfl ?_
  refine own_iloadN X368 hx hby at_61 rfl ?_
  refine own_i2l X368 hx hby at_62 ?_
  refine own_lstore X368 hx hby at_63 (l' := #[.val (.int p1), .val (.int p2), .val (.int p3), .val (.int p4), .val (.int fk), .val (.int mk), .val w362, .val w363, .val (.ref a366), .val (.ref u367), .val (.ref u368), .val (.long (p2.toInt64)), .second, .unset, .unset, .unset, .unset, .unset]) rfl ?_
  refine own_lload X368 hx hby at_65 rfl ?_
  refine own_lconst X368 hx hby 0 at_67 rfl ?_
  refine own_lcmp X368 hx hby at_68 ?_
  obtain ⟨neg, hneg⟩ : ∃ z : Int32, z = (if (XT.cmpL (p2.toInt64) (0 : Int64)) < (0 : Int32) then (1 : Int32) else (0 : Int32)) := ⟨_, rfl⟩
  suffices key69 : own_Ends p e below s ReturnedEndW (Q0 n0) 48 3456 (T368.setTop (mkF m 77 #[.val (.int p1), .val (.int p2), .val (.int p3), .val (.int p4), .val (.int fk), .val (.int mk), .val w362, .val w363, .val (.ref a366), .val (.ref u367), .val (.ref u368), .val (.long (p2.toInt64)), .second, .unset, .unset, .unset, .unset, .unset] [(.int neg)])) by
    by_cases hc69_369 : (XT.cmpL (p2.toInt64) (0 : Int64)) < (0 : Int32)
    · skip
      refine own_ifNo X368 hx hby at_69 ((if0 _ _).trans (tlt hc69_369).2.1) ?_
      refine own_iconst X368 hx hby 1 at_72 rfl ?_
      refine own_goto X368 hx hby 73 77 at_73 (by decide) (by decide) ?_
      have tneg : neg = (1 : Int32) := by rw [hneg, if_pos hc69_369]
      exact own_eq (by rw [tneg]) key69
    · skip
      refine own_ifYes X368 hx hby 69 76 at_69 ((if0 _ _).trans (flt hc69_369).2.1) (by decide) (by decide) ?_
      refine own_iconst X368 hx hby 0 at_76 rfl ?_
      have tneg : neg = (0 : Int32) := by rw [hneg, if_neg hc69_369]
      exact own_eq (by rw [tneg]) key69
  refine own_istore X368 hx hby at_77 (l' := #[.val (.int p1), .val (.int p2), .val (.int p3), .val (.int p4), .val (.int fk), .val (.int mk), .val w362, .val w363, .val (.ref a366), .val (.ref u367), .val (.ref u368), .val (.long (p2.toInt64)), .second, .val (.int neg), .unset, .unset, .unset, .unset]) rfl ?_
  refine own_iload X368 hx hby at_79 rfl ?_
  obtain ⟨vv, hvv⟩ : ∃ z : Int64, z = (if neg = (0 : Int32) then (p2.toInt64) else (-(p2.toInt64))) := ⟨_, rfl⟩
  suffices key81 : own_Ends p e below s ReturnedEndW (Q0 n0) 48 3456 (T368.setTop (mkF m 89 #[.val (.int p1), .val (.int p2), .val (.int p3), .val (.int p4), .val (.int fk), .val (.int mk), .val w362, .val w363, .val (.ref a366), .val (.ref u367), .val (.ref u368), .val (.long vv), .second, .val (.int neg), .unset, .unset, .unset, .unset] [])) by
    by_cases hc81_370 : neg = (0 : Int32)
    · skip
      refine own_ifYes X368 hx hby 81 89 at_81 ((if0 _ _).trans (teq hc81_370).1) (by decide) (by decide) ?_
      have tvv : vv = (p2.toInt64) := by rw [hvv, if_pos hc81_370]
      exact own_eq (by rw [tvv]) key81
    · skip
      refine own_ifNo X368 hx hby at_81 ((if0 _ _).trans (feq hc81_370).1) ?_
      refine own_lload X368 hx hby at_84 rfl ?_
      refine own_lneg X368 hx hby at_86 ?_
      refine own_lstore X368 hx hby at_87 (l' := #[.val (.int p1), .val (.int p2), .val (.int p3), .val (.int p4), .val (.int fk), .val (.int mk), .val w362, .val w363, .val (.ref a366), .val (.ref u367), .val (.ref u368), .val (.long (-(p2.toInt64))), .second, .val (.int neg), .unset, .unset, .unset, .unset]) rfl ?_
      have tvv : vv = (-(p2.toInt64)) := by rw [hvv, if_neg hc81_370]
      exact own_eq (by rw [tvv]) key81
  refine own_iconst X368 hx hby 1 at_89 rfl ?_
  refine own_istore X368 hx hby at_90 (l' := #[.val (.int p1), .val (.int p2), .val (.int p3), .val (.int p4), .val (.int fk), .val (.int mk), .val w362, .val w363, .val (.ref a366), .val (.ref u367), .val (.ref u368), .val (.long vv), .second, .val (.int neg), .val (.int (1 : Int32)), .unset, .unset, .unset]) rfl ?_
  refine own_lload X368 hx hby at_92 rfl ?_
  refine own_of (U' := (T368.setTop (mkF m 97 #[.val (.int p1), .val (.int p2), .val (.int p3), .val (.int p4), .val (.int fk), .val (.int mk), .val w362, .val w363, .val (.ref a366), .val (.ref u367), .val (.ref u368), .val (.long vv), .second, .val (.int neg), .val (.int (1 : Int32)), .unset, .unset, .unset] [(.long (10 : Int64)), (.long vv)]))) (X368.ldc2Long hx hown (mvT hZ (own_w hw 193 rfl)) (g := (mkF m 94 #[.val (.int p1), .val (.int p2), .val (.int p3), .val (.int p4), .val (.int fk), .val (.int mk), .val w362, .val w363, .val (.ref a366), .val (.ref u367), .val (.ref u368), .val (.long vv), .second, .val (.int neg), .val (.int (1 : Int32)), .unset, .unset, .unset] [(.long vv)])) rfl (hb hby at_94)) ?_
  refine own_lcmp X368 hx hby at_97 ?_
  obtain ⟨n2, hn2⟩ : ∃ z : Int32, z = (if (XT.cmpL vv (10 : Int64)) < (0 : Int32) then (1 : Int32) else (2 : Int32)) := ⟨_, rfl⟩
  suffices key98 : own_Ends p e below s ReturnedEndW (Q0 n0) 48 3456 (T368.setTop (mkF m 104 #[.val (.int p1), .val (.int p2), .val (.int p3), .val (.int p4), .val (.int fk), .val (.int mk), .val w362, .val w363, .val (.ref a366), .val (.ref u367), .val (.ref u368), .val (.long vv), .second, .val (.int neg), .val (.int n2), .unset, .unset, .unset] [])) by
    by_cases hc98_371 : (XT.cmpL vv (10 : Int64)) < (0 : Int32)
    · skip
      refine own_ifYes X368 hx hby 98 104 at_98 ((if0 _ _).trans (tlt hc98_371).1) (by decide) (by decide) ?_
      have tn2 : n2 = (1 : Int32) := by rw [hn2, if_pos hc98_371]
      exact own_eq (by rw [tn2]) key98
    · skip
      refine own_ifNo X368 hx hby at_98 ((if0 _ _).trans (flt hc98_371).1) ?_
      refine own_iconst X368 hx hby 2 at_101 rfl ?_
      refine own_istore X368 hx hby at_102 (l' := #[.val (.int p1), .val (.int p2), .val (.int p3), .val (.int p4), .val (.int fk), .val (.int mk), .val w362, .val w363, .val (.ref a366), .val (.ref u367), .val (.ref u368), .val (.long vv), .second, .val (.int neg), .val (.int (2 : Int32)), .unset, .unset, .unset]) rfl ?_
      have tn2 : n2 = (2 : Int32) := by rw [hn2, if_neg hc98_371]
      exact own_eq (by rw [tn2]) key98
  refine own_lload X368 hx hby at_104 rfl ?_
  refine own_of (U' := (T368.setTop (mkF m 109 #[.val (.int p1), .val (.int p2), .val (.int p3), .val (.int p4), .val (.int fk), .val (.int mk), .val w362, .val w363, .val (.ref a366), .val (.ref u367), .val (.ref u368), .val (.long vv), .second, .val (.int neg), .val (.int n2), .unset, .unset, .unset] [(.long (100 : Int64)), (.long vv)]))) (X368.ldc2Long hx hown (mvT hZ (own_w hw 194 rfl)) (g := (mkF m 106 #[.val (.int p1), .val (.int p2), .val (.int p3), .val (.int p4), .val (.int fk), .val (.int mk), .val w362, .val w363, .val (.ref a366), .val (.ref u367), .val (.ref u368), .val (.long vv), .second, .val (.int neg), .val (.int n2), .unset, .unset, .unset] [(.long vv)])) rfl (hb hby at_106)) ?_
  refine own_lcmp X368 hx hby at_109 ?_
  obtain ⟨n3, hn3⟩ : ∃ z : Int32, z = (if (XT.cmpL vv (100 : Int64)) < (0 : Int32) then n2 else (3 : Int32)) := ⟨_, rfl⟩
  suffices key110 : own_Ends p e below s ReturnedEndW (Q0 n0) 48 3456 (T368.setTop (mkF m 116 #[.val (.int p1), .val (.int p2), .val (.int p3), .val (.int p4), .val (.int fk), .val (.int mk), .val w362, .val w363, .val (.ref a366), .val (.ref u367), .val (.ref u368), .val (.long vv), .second, .val (.int neg), .val (.int n3), .unset, .unset, .unset] [])) by
    by_cases hc110_372 : (XT.cmpL vv (100 : Int64)) < (0 : Int32)
    · skip
      refine own_ifYes X368 hx hby 110 116 at_110 ((if0 _ _).trans (tlt hc110_372).1) (by decide) (by decide) ?_
      have tn3 : n3 = n2 := by rw [hn3, if_pos hc110_372]
      exact own_eq (by rw [tn3]) key110
    · skip
      refine own_ifNo X368 hx hby at_110 ((if0 _ _).trans (flt hc110_372).1) ?_
      refine own_iconst X368 hx hby 3 at_113 rfl ?_
      refine own_istore X368 hx hby at_114 (l' := #[.val (.int p1), .val (.int p2), .val (.int p3), .val (.int p4), .val (.int fk), .val (.int mk), .val w362, .val w363, .val (.ref a366), .val (.ref u367), .val (.ref u368), .val (.long vv), .second, .val (.int neg), .val (.int (3 : Int32)), .unset, .unset, .unset]) rfl ?_
      have tn3 : n3 = (3 : Int32) := by rw [hn3, if_neg hc110_372]
      exact own_eq (by rw [tn3]) key110
  refine own_lload X368 hx hby at_116 rfl ?_
  refine own_of (U' := (T368.setTop (mkF m 121 #[.val (.int p1), .val (.int p2), .val (.int p3), .val (.int p4), .val (.int fk), .val (.int mk), .val w362, .val w363, .val (.ref a366), .val (.ref u367), .val (.ref u368), .val (.long vv), .second, .val (.int neg), .val (.int n3), .unset, .unset, .unset] [(.long (1000 : Int64)), (.long vv)]))) (X368.ldc2Long hx hown (mvT hZ (own_w hw 195 rfl)) (g := (mkF m 118 #[.val (.int p1), .val (.int p2), .val (.int p3), .val (.int p4), .val (.int fk), .val (.int mk), .val w362, .val w363, .val (.ref a366), .val (.ref u367), .val (.ref u368), .val (.long vv), .second, .val (.int neg), .val (.int n3), .unset, .unset, .unset] [(.long vv)])) rfl (hb hby at_118)) ?_
  refine own_lcmp X368 hx hby at_121 ?_
  obtain ⟨n4, hn4⟩ : ∃ z : Int32, z = (if (XT.cmpL vv (1000 : Int64)) < (0 : Int32) then n3 else (4 : Int32)) := ⟨_, rfl⟩
  suffices key122 : own_Ends p e below s ReturnedEndW (Q0 n0) 48 3456 (T368.setTop (mkF m 128 #[.val (.int p1), .val (.int p2), .val (.int p3), .val (.int p4), .val (.int fk), .val (.int mk), .val w362, .val w363, .val (.ref a366), .val (.ref u367), .val (.ref u368), .val (.long vv), .second, .val (.int neg), .val (.int n4), .unset, .unset, .unset] [])) by
    by_cases hc122_373 : (XT.cmpL vv (1000 : Int64)) < (0 : Int32)
    · skip
      refine own_ifYes X368 hx hby 122 128 at_122 ((if0 _ _).trans (tlt hc122_373).1) (by decide) (by decide) ?_
      have tn4 : n4 = n3 := by rw [hn4, if_pos hc122_373]
      exact own_eq (by rw [tn4]) key122
    · skip
      refine own_ifNo X368 hx hby at_122 ((if0 _ _).trans (flt hc122_373).1) ?_
      refine own_iconst X368 hx hby 4 at_125 rfl ?_
      refine own_istore X368 hx hby at_126 (l' := #[.val (.int p1), .val (.int p2), .val (.int p3), .val (.int p4), .val (.int fk), .val (.int mk), .val w362, .val w363, .val (.ref a366), .val (.ref u367), .val (.ref u368), .val (.long vv), .second, .val (.int neg), .val (.int (4 : Int32)), .unset, .unset, .unset]) rfl ?_
      have tn4 : n4 = (4 : Int32) := by rw [hn4, if_neg hc122_373]
      exact own_eq (by rw [tn4]) key122
  refine own_lload X368 hx hby at_128 rfl ?_
  refine own_of (U' := (T368.setTop (mkF m 133 #[.val (.int p1), .val (.int p2), .val (.int p3), .val (.int p4), .val (.int fk), .val (.int mk), .val w362, .val w363, .val (.ref a366), .val (.ref u367), .val (.ref u368), .val (.long vv), .second, .val (.int neg), .val (.int n4), .unset, .unset, .unset] [(.long (10000 : Int64)), (.long vv)]))) (X368.ldc2Long hx hown (mvT hZ (own_w hw 196 rfl)) (g := (mkF m 130 #[.val (.int p1), .val (.int p2), .val (.int p3), .val (.int p4), .val (.int fk), .val (.int mk), .val w362, .val w363, .val (.ref a366), .val (.ref u367), .val (.ref u368), .val (.long vv), .second, .val (.int neg), .val (.int n4), .unset, .unset, .unset] [(.long vv)])) rfl (hb hby at_130)) ?_
  refine own_lcmp X368 hx hby at_133 ?_
  obtain ⟨n5, hn5⟩ : ∃ z : Int32, z = (if (XT.cmpL vv (10000 : Int64)) < (0 : Int32) then n4 else (5 : Int32)) := ⟨_, rfl⟩
  suffices key134 : own_Ends p e below s ReturnedEndW (Q0 n0) 48 3456 (T368.setTop (mkF m 140 #[.val (.int p1), .val (.int p2), .val (.int p3), .val (.int p4), .val (.int fk), .val (.int mk), .val w362, .val w363, .val (.ref a366), .val (.ref u367), .val (.ref u368), .val (.long vv), .second, .val (.int neg), .val (.int n5), .unset, .unset, .unset] [])) by
    by_cases hc134_374 : (XT.cmpL vv (10000 : Int64)) < (0 : Int32)
    · skip
      refine own_ifYes X368 hx hby 134 140 at_134 ((if0 _ _).trans (tlt hc134_374).1) (by decide) (by decide) ?_
      have tn5 : n5 = n4 := by rw [hn5, if_pos hc134_374]
      exact own_eq (by rw [tn5]) key134
    · skip
      refine own_ifNo X368 hx hby at_134 ((if0 _ _).trans (flt hc134_374).1) ?_
      refine own_iconst X368 hx hby 5 at_137 rfl ?_
      refine own_istore X368 hx hby at_138 (l' := #[.val (.int p1), .val (.int p2), .val (.int p3), .val (.int p4), .val (.int fk), .val (.int mk), .val w362, .val w363, .val (.ref a366), .val (.ref u367), .val (.ref u368), .val (.long vv), .second, .val (.int neg), .val (.int (5 : Int32)), .unset, .unset, .unset]) rfl ?_
      have tn5 : n5 = (5 : Int32) := by rw [hn5, if_neg hc134_374]
      exact own_eq (by rw [tn5]) key134
  refine own_lload X368 hx hby at_140 rfl ?_
  refine own_of (U' := (T368.setTop (mkF m 145 #[.val (.int p1), .val (.int p2), .val (.int p3), .val (.int p4), .val (.int fk), .val (.int mk), .val w362, .val w363, .val (.ref a366), .val (.ref u367), .val (.ref u368), .val (.long vv), .second, .val (.int neg), .val (.int n5), .unset, .unset, .unset] [(.long (100000 : Int64)), (.long vv)]))) (X368.ldc2Long hx hown (mvT hZ (own_w hw 197 rfl)) (g := (mkF m 142 #[.val (.int p1), .val (.int p2), .val (.int p3), .val (.int p4), .val (.int fk), .val (.int mk), .val w362, .val w363, .val (.ref a366), .val (.ref u367), .val (.ref u368), .val (.long vv), .second, .val (.int neg), .val (.int n5), .unset, .unset, .unset] [(.long vv)])) rfl (hb hby at_142)) ?_
  refine own_lcmp X368 hx hby at_145 ?_
  obtain ⟨n6, hn6⟩ : ∃ z : Int32, z = (if (XT.cmpL vv (100000 : Int64)) < (0 : Int32) then n5 else (6 : Int32)) := ⟨_, rfl⟩
  suffices key146 : own_Ends p e below s ReturnedEndW (Q0 n0) 48 3456 (T368.setTop (mkF m 153 #[.val (.int p1), .val (.int p2), .val (.int p3), .val (.int p4), .val (.int fk), .val (.int mk), .val w362, .val w363, .val (.ref a366), .val (.ref u367), .val (.ref u368), .val (.long vv), .second, .val (.int neg), .val (.int n6), .unset, .unset, .unset] [])) by
    by_cases hc146_375 : (XT.cmpL vv (100000 : Int64)) < (0 : Int32)
    · skip
      refine own_ifYes X368 hx hby 146 153 at_146 ((if0 _ _).trans (tlt hc146_375).1) (by decide) (by decide) ?_
      have tn6 : n6 = n5 := by rw [hn6, if_pos hc146_375]
      exact own_eq (by rw [tn6]) key146
    · skip
      refine own_ifNo X368 hx hby at_146 ((if0 _ _).trans (flt hc146_375).1) ?_
      refine own_bipush X368 hx hby 6 at_149 rfl ?_
      refine own_istore X368 hx hby at_151 (l' := #[.val (.int p1), .val (.int p2), .val (.int p3), .val (.int p4), .val (.int fk), .val (.int mk), .val w362, .val w363, .val (.ref a366), .val (.ref u367), .val (.ref u368), .val (.long vv), .second, .val (.int neg), .val (.int (6 : Int32)), .unset, .unset, .unset]) rfl ?_
      have tn6 : n6 = (6 : Int32) := by rw [hn6, if_neg hc146_375]
      exact own_eq (by rw [tn6]) key146
  refine own_lload X368 hx hby at_153 rfl ?_
  refine own_of (U' := (T368.setTop (mkF m 158 #[.val (.int p1), .val (.int p2), .val (.int p3), .val (.int p4), .val (.int fk), .val (.int mk), .val w362, .val w363, .val (.ref a366), .val (.ref u367), .val (.ref u368), .val (.long vv), .second, .val (.int neg), .val (.int n6), .unset, .unset, .unset] [(.long (1000000 : Int64)), (.long vv)]))) (X368.ldc2Long hx hown (mvT hZ (own_w hw 198 rfl)) (g := (mkF m 155 #[.val (.int p1), .val (.int p2), .val (.int p3), .val (.int p4), .val (.int fk), .val (.int mk), .val w362, .val w363, .val (.ref a366), .val (.ref u367), .val (.ref u368), .val (.long vv), .second, .val (.int neg), .val (.int n6), .unset, .unset, .unset] [(.long vv)])) rfl (hb hby at_155)) ?_
  refine own_lcmp X368 hx hby at_158 ?_
  obtain ⟨n7, hn7⟩ : ∃ z : Int32, z = (if (XT.cmpL vv (1000000 : Int64)) < (0 : Int32) then n6 else (7 : Int32)) := ⟨_, rfl⟩
  suffices key159 : own_Ends p e below s ReturnedEndW (Q0 n0) 48 3456 (T368.setTop (mkF m 166 #[.val (.int p1), .val (.int p2), .val (.int p3), .val (.int p4), .val (.int fk), .val (.int mk), .val w362, .val w363, .val (.ref a366), .val (.ref u367), .val (.ref u368), .val (.long vv), .second, .val (.int neg), .val (.int n7), .unset, .unset, .unset] [])) by
    by_cases hc159_376 : (XT.cmpL vv (1000000 : Int64)) < (0 : Int32)
    · skip
      refine own_ifYes X368 hx hby 159 166 at_159 ((if0 _ _).trans (tlt hc159_376).1) (by decide) (by decide) ?_
      have tn7 : n7 = n6 := by rw [hn7, if_pos hc159_376]
      exact own_eq (by rw [tn7]) key159
    · skip
      refine own_ifNo X368 hx hby at_159 ((if0 _ _).trans (flt hc159_376).1) ?_
      refine own_bipush X368 hx hby 7 at_162 rfl ?_
      refine own_istore X368 hx hby at_164 (l' := #[.val (.int p1), .val (.int p2), .val (.int p3), .val (.int p4), .val (.int fk), .val (.int mk), .val w362, .val w363, .val (.ref a366), .val (.ref u367), .val (.ref u368), .val (.long vv), .second, .val (.int neg), .val (.int (7 : Int32)), .unset, .unset, .unset]) rfl ?_
      have tn7 : n7 = (7 : Int32) := by rw [hn7, if_neg hc159_376]
      exact own_eq (by rw [tn7]) key159
  refine own_lload X368 hx hby at_166 rfl ?_
  refine own_of (U' := (T368.setTop (mkF m 171 #[.val (.int p1), .val (.int p2), .val (.int p3), .val (.int p4), .val (.int fk), .val (.int mk), .val w362, .val w363, .val (.ref a366), .val (.ref u367), .val (.ref u368), .val (.long vv), .second, .val (.int neg), .val (.int n7), .unset, .unset, .unset] [(.long (10000000 : Int64)), (.long vv)]))) (X368.ldc2Long hx hown (mvT hZ (own_w hw 199 rfl)) (g := (mkF m 168 #[.val (.int p1), .val (.int p2), .val (.int p3), .val (.int p4), .val (.int fk), .val (.int mk), .val w362, .val w363, .val (.ref a366), .val (.ref u367), .val (.ref u368), .val (.long vv), .second, .val (.int neg), .val (.int n7), .unset, .unset, .unset] [(.long vv)])) rfl (hb hby at_168)) ?_
  refine own_lcmp X368 hx hby at_171 ?_
  obtain ⟨n8, hn8⟩ : ∃ z : Int32, z = (if (XT.cmpL vv (10000000 : Int64)) < (0 : Int32) then n7 else (8 : Int32)) := ⟨_, rfl⟩
  suffices key172 : own_Ends p e below s ReturnedEndW (Q0 n0) 48 3456 (T368.setTop (mkF m 179 #[.val (.int p1), .val (.int p2), .val (.int p3), .val (.int p4), .val (.int fk), .val (.int mk), .val w362, .val w363, .val (.ref a366), .val (.ref u367), .val (.ref u368), .val (.long vv), .second, .val (.int neg), .val (.int n8), .unset, .unset, .unset] [])) by
    by_cases hc172_377 : (XT.cmpL vv (10000000 : Int64)) < (0 : Int32)
    · skip
      refine own_ifYes X368 hx hby 172 179 at_172 ((if0 _ _).trans (tlt hc172_377).1) (by decide) (by decide) ?_
      have tn8 : n8 = n7 := by rw [hn8, if_pos hc172_377]
      exact own_eq (by rw [tn8]) key172
    · skip
      refine own_ifNo X368 hx hby at_172 ((if0 _ _).trans (flt hc172_377).1) ?_
      refine own_bipush X368 hx hby 8 at_175 rfl ?_
      refine own_istore X368 hx hby at_177 (l' := #[.val (.int p1), .val (.int p2), .val (.int p3), .val (.int p4), .val (.int fk), .val (.int mk), .val w362, .val w363, .val (.ref a366), .val (.ref u367), .val (.ref u368), .val (.long vv), .second, .val (.int neg), .val (.int (8 : Int32)), .unset, .unset, .unset]) rfl ?_
      have tn8 : n8 = (8 : Int32) := by rw [hn8, if_neg hc172_377]
      exact own_eq (by rw [tn8]) key172
  refine own_lload X368 hx hby at_179 rfl ?_
  refine own_of (U' := (T368.setTop (mkF m 184 #[.val (.int p1), .val (.int p2), .val (.int p3), .val (.int p4), .val (.int fk), .val (.int mk), .val w362, .val w363, .val (.ref a366), .val (.ref u367), .val (.ref u368), .val (.long vv), .second, .val (.int neg), .val (.int n8), .unset, .unset, .unset] [(.long (100000000 : Int64)), (.long vv)]))) (X368.ldc2Long hx hown (mvT hZ (own_w hw 200 rfl)) (g := (mkF m 181 #[.val (.int p1), .val (.int p2), .val (.int p3), .val (.int p4), .val (.int fk), .val (.int mk), .val w362, .val w363, .val (.ref a366), .val (.ref u367), .val (.ref u368), .val (.long vv), .second, .val (.int neg), .val (.int n8), .unset, .unset, .unset] [(.long vv)])) rfl (hb hby at_181)) ?_
  refine own_lcmp X368 hx hby at_184 ?_
  obtain ⟨n9, hn9⟩ : ∃ z : Int32, z = (if (XT.cmpL vv (100000000 : Int64)) < (0 : Int32) then n8 else (9 : Int32)) := ⟨_, rfl⟩
  suffices key185 : own_Ends p e below s ReturnedEndW (Q0 n0) 48 3456 (T368.setTop (mkF m 192 #[.val (.int p1), .val (.int p2), .val (.int p3), .val (.int p4), .val (.int fk), .val (.int mk), .val w362, .val w363, .val (.ref a366), .val (.ref u367), .val (.ref u368), .val (.long vv), .second, .val (.int neg), .val (.int n9), .unset, .unset, .unset] [])) by
    by_cases hc185_378 : (XT.cmpL vv (100000000 : Int64)) < (0 : Int32)
    · skip
      refine own_ifYes X368 hx hby 185 192 at_185 ((if0 _ _).trans (tlt hc185_378).1) (by decide) (by decide) ?_
      have tn9 : n9 = n8 := by rw [hn9, if_pos hc185_378]
      exact own_eq (by rw [tn9]) key185
    · skip
      refine own_ifNo X368 hx hby at_185 ((if0 _ _).trans (flt hc185_378).1) ?_
      refine own_bipush X368 hx hby 9 at_188 rfl ?_
      refine own_istore X368 hx hby at_190 (l' := #[.val (.int p1), .val (.int p2), .val (.int p3), .val (.int p4), .val (.int fk), .val (.int mk), .val w362, .val w363, .val (.ref a366), .val (.ref u367), .val (.ref u368), .val (.long vv), .second, .val (.int neg), .val (.int (9 : Int32)), .unset, .unset, .unset]) rfl ?_
      have tn9 : n9 = (9 : Int32) := by rw [hn9, if_neg hc185_378]
      exact own_eq (by rw [tn9]) key185
  refine own_lload X368 hx hby at_192 rfl ?_
  refine own_of (U' := (T368.setTop (mkF m 197 #[.val (.int p1), .val (.int p2), .val (.int p3), .val (.int p4), .val (.int fk), .val (.int mk), .val w362, .val w363, .val (.ref a366), .val (.ref u367), .val (.ref u368), .val (.long vv), .second, .val (.int neg), .val (.int n9), .unset, .unset, .unset] [(.long (1000000000 : Int64)), (.long vv)]))) (X368.ldc2Long hx hown (mvT hZ (own_w hw 201 rfl)) (g := (mkF m 194 #[.val (.int p1), .val (.int p2), .val (.int p3), .val (.int p4), .val (.int fk), .val (.int mk), .val w362, .val w363, .val (.ref a366), .val (.ref u367), .val (.ref u368), .val (.long vv), .second, .val (.int neg), .val (.int n9), .unset, .unset, .unset] [(.long vv)])) rfl (hb hby at_194)) ?_
  refine own_lcmp X368 hx hby at_197 ?_
  obtain ⟨n10, hn10⟩ : ∃ z : Int32, z = (if (XT.cmpL vv (1000000000 : Int64)) < (0 : Int32) then n9 else (10 : Int32)) := ⟨_, rfl⟩
  suffices key198 : own_Ends p e below s ReturnedEndW (Q0 n0) 48 3456 (T368.setTop (mkF m 205 #[.val (.int p1), .val (.int p2), .val (.int p3), .val (.int p4), .val (.int fk), .val (.int mk), .val w362, .val w363, .val (.ref a366), .val (.ref u367), .val (.ref u368), .val (.long vv), .second, .val (.int neg), .val (.int n10), .unset, .unset, .unset] [])) by
    by_cases hc198_379 : (XT.cmpL vv (1000000000 : Int64)) < (0 : Int32)
    · skip
      refine own_ifYes X368 hx hby 198 205 at_198 ((if0 _ _).trans (tlt hc198_379).1) (by decide) (by decide) ?_
      have tn10 : n10 = n9 := by rw [hn10, if_pos hc198_379]
      exact own_eq (by rw [tn10]) key198
    · skip
      refine own_ifNo X368 hx hby at_198 ((if0 _ _).trans (flt hc198_379).1) ?_
      refine own_bipush X368 hx hby 10 at_201 rfl ?_
      refine own_istore X368 hx hby at_203 (l' := #[.val (.int p1), .val (.int p2), .val (.int p3), .val (.int p4), .val (.int fk), .val (.int mk), .val w362, .val w363, .val (.ref a366), .val (.ref u367), .val (.ref u368), .val (.long vv), .second, .val (.int neg), .val (.int (10 : Int32)), .unset, .unset, .unset]) rfl ?_
      have tn10 : n10 = (10 : Int32) := by rw [hn10, if_neg hc198_379]
      exact own_eq (by rw [tn10]) key198
  refine own_aload X368 hx hby at_205 rfl rfl ?_
  obtain ⟨cl380, Ar380, qa380, Sa380, Na380, -, -⟩ := id Vq367
  have al380 := X368.arraylength hx Ar380.1 (State.isArrayOf_alike hZ.alike Ar380.2.1) (g := (mkF m 207 #[.val (.int p1), .val (.int p2), .val (.int p3), .val (.int p4), .val (.int fk), .val (.int mk), .val w362, .val w363, .val (.ref a366), .val (.ref u367), .val (.ref u368), .val (.long vv), .second, .val (.int neg), .val (.int n10), .unset, .unset, .unset] [(.ref u367)])) rfl rfl (hb hby at_207)
  rw [len_of Sa380 Na380] at al380
  refine own_of (U' := (T368.setTop (mkF m 208 #[.val (.int p1), .val (.int p2), .val (.int p3), .val (.int p4), .val (.int fk), .val (.int mk), .val w362, .val w363, .val (.ref a366), .val (.ref u367), .val (.ref u368), .val (.long vv), .second, .val (.int neg), .val (.int n10), .unset, .unset, .unset] [(.int (own_pl fk))]))) (al380) ?_
  refine own_iconst X368 hx hby 1 at_208 rfl ?_
  refine own_iadd X368 hx hby at_209 ?_
  refine own_iload X368 hx hby at_210 rfl ?_
  obtain ⟨ng, hng⟩ : ∃ z : Int32, z = (if neg = (0 : Int32) then (0 : Int32) else (1 : Int32)) := ⟨_, rfl⟩
  suffices key212 : own_Ends p e below s ReturnedEndW (Q0 n0) 48 3456 (T368.setTop (mkF m 220 #[.val (.int p1), .val (.int p2), .val (.int p3), .val (.int p4), .val (.int fk), .val (.int mk), .val w362, .val w363, .val (.ref a366), .val (.ref u367), .val (.ref u368), .val (.long vv), .second, .val (.int neg), .val (.int n10), .unset, .unset, .unset] [(.int ng), (.int ((own_pl fk) + (1 : Int32)))])) by
    by_cases hc212_381 : neg = (0 : Int32)
    · skip
      refine own_ifYes X368 hx hby 212 219 at_212 ((if0 _ _).trans (teq hc212_381).1) (by decide) (by decide) ?_
      refine own_iconst X368 hx hby 0 at_219 rfl ?_
      have tng : ng = (0 : Int32) := by rw [hng, if_pos hc212_381]
      exact own_eq (by rw [tng]) key212
    · skip
      refine own_ifNo X368 hx hby at_212 ((if0 _ _).trans (feq hc212_381).1) ?_
      refine own_iconst X368 hx hby 1 at_215 rfl ?_
      refine own_goto X368 hx hby 216 220 at_216 (by decide) (by decide) ?_
      have tng : ng = (1 : Int32) := by rw [hng, if_neg hc212_381]
      exact own_eq (by rw [tng]) key212
  refine own_iadd X368 hx hby at_220 ?_
  refine own_iload X368 hx hby at_221 rfl ?_
  refine own_iadd X368 hx hby at_223 ?_
  refine own_iconst X368 hx hby 2 at_224 rfl ?_
  refine own_iadd X368 hx hby at_225 ?_
  refine own_aload X368 hx hby at_226 rfl rfl ?_
  obtain ⟨cl382, Ar382, qa382, Sa382, Na382, -, -⟩ := id Vq368
  have al382 := X368.arraylength hx Ar382.1 (State.isArrayOf_alike hZ.alike Ar382.2.1) (g := (mkF m 228 #[.val (.int p1), .val (.int p2), .val (.int p3), .val (.int p4), .val (.int fk), .val (.int mk), .val w362, .val w363, .val (.ref a366), .val (.ref u367), .val (.ref u368), .val (.long vv), .second, .val (.int neg), .val (.int n10), .unset, .unset, .unset] [(.ref u368), (.int (((((own_pl fk) + (1 : Int32)) + ng) + n10) + (2 : Int32)))])) rfl rfl (hb hby at_228)
  rw [len_of Sa382 Na382] at al382
  refine own_of (U' := (T368.setTop (mkF m 229 #[.val (.int p1), .val (.int p2), .val (.int p3), .val (.int p4), .val (.int fk), .val (.int mk), .val w362, .val w363, .val (.ref a366), .val (.ref u367), .val (.ref u368), .val (.long vv), .second, .val (.int neg), .val (.int n10), .unset, .unset, .unset] [(.int (own_pl mk)), (.int (((((own_pl fk) + (1 : Int32)) + ng) + n10) + (2 : Int32)))]))) (al382) ?_
  refine own_iadd X368 hx hby at_229 ?_
  obtain ⟨nn, hnn⟩ : ∃ z, z = ((((((own_pl fk) + (1 : Int32)) + ng) + n10) + (2 : Int32)) + (own_pl mk)) := ⟨_, rfl⟩
  refine own_eq (U' := (T368.setTop (mkF m 230 #[.val (.int p1), .val (.int p2), .val (.int p3), .val (.int p4), .val (.int fk), .val (.int mk), .val w362, .val w363, .val (.ref a366), .val (.ref u367), .val (.ref u368), .val (.long vv), .second, .val (.int neg), .val (.int n10), .unset, .unset, .unset] [(.int nn)]))) (by rw [hnn]) ?_
  refine own_istore X368 hx hby at_230 (l' := #[.val (.int p1), .val (.int p2), .val (.int p3), .val (.int p4), .val (.int fk), .val (.int mk), .val w362, .val w363, .val (.ref a366), .val (.ref u367), .val (.ref u368), .val (.long vv), .second, .val (.int neg), .val (.int n10), .val (.int nn), .unset, .unset]) rfl ?_
  have hlF := own_pt_len fk p1 hk_fk
  have hlM := own_pt_len mk p3 hk_mk
  have hN : n10 = own_nd vv := by rw [hn10, hn9, hn8, hn7, hn6, hn5, hn4, hn3, hn2]; rfl
  have hNb : 1 ≤ n10.toInt ∧ n10.toInt ≤ 10 := by rw [hN]; exact own_nd_bd vv
  have hgl := own_ngl hng
  have hnnI : nn.toInt = ((own_pt fk p1).length : Int) + 1 + ((own_sgc neg).length : Nat) + n10.toInt + 2 + ((own_pt mk p3).length : Nat) := by rw [hnn]; exact own_nnI hlF.1 hlM.1 hlF.2 hlM.2 hgl.1 hgl.2 hNb
  have gl := hgl.2
  have fl := hlF.2
  have ml := hlM.2
  refine own_iload X368 hx hby at_232 rfl ?_
  obtain ⟨T383, h383, k383, X383, e383, E383, A383, st383⟩ := newP X368 hx hZ (own_w hw 4 rfl) rfl (g := (mkF m 234 #[.val (.int p1), .val (.int p2), .val (.int p3), .val (.int p4), .val (.int fk), .val (.int mk), .val w362, .val w363, .val (.ref a366), .val (.ref u367), .val (.ref u368), .val (.long vv), .second, .val (.int neg), .val (.int n10), .val (.int nn), .unset, .unset] [(.int nn)])) rfl (hb hby at_234) rfl (own_ge0 (by omega)) (cap := 22) (own_capI (by omega)) (by decide) (by decide) (by decide)
  obtain ⟨b383, gz383⟩ : ∃ z, z = T368.heap.size := ⟨_, rfl⟩
  rw [← gz383] at A383 st383
  have g_b383 : n0 ≤ b383 := Nat.le_trans Z0 (Nat.le_of_eq gz383.symm)
  have ne_a366_b383 : a366 ≠ b383 := Nat.ne_of_lt (Nat.lt_of_lt_of_le Es366.lt (Nat.le_of_eq gz383.symm))
  have ne_u366_b383 : u366 ≠ b383 := Nat.ne_of_lt (Nat.lt_of_lt_of_le Vq366.lt (Nat.le_of_eq gz383.symm))
  have ne_u367_b383 : u367 ≠ b383 := Nat.ne_of_lt (Nat.lt_of_lt_of_le Vq367.lt (Nat.le_of_eq gz383.symm))
  have ne_u368_b383 : u368 ≠ b383 := Nat.ne_of_lt (Nat.lt_of_lt_of_le Vq368.lt (Nat.le_of_eq gz383.symm))
  replace Z0 := Nat.le_trans Z0 E383.1
  replace SC := SC.ext E383
  replace Es366 := Es366.ext E383
  replace Cq366 := Cq366.ext E383
  replace Fq366 := Fq366.ext E383
  replace Vq366 := Vq366.ext E383
  replace hkS := Nat.le_trans hkS E383.1
  replace Vq367 := Vq367.ext E383
  replace Vq368 := Vq368.ext E383
  have V383 : Arv Z h383 b383 k383 .char nn (List.map Value.int ([] : List Int32)) (.int (0 : Int32)) := Arv.new A383 (own_ge0 (by omega))
  refine own_of (U' := (T383.setTop (mkF m 236 #[.val (.int p1), .val (.int p2), .val (.int p3), .val (.int p4), .val (.int fk), .val (.int mk), .val w362, .val w363, .val (.ref a366), .val (.ref u367), .val (.ref u368), .val (.long vv), .second, .val (.int neg), .val (.int n10), .val (.int nn), .unset, .unset] [(.ref b383)]))) (st383) ?_
  refine own_astore X383 hx hby at_236 rfl (l' := #[.val (.int p1), .val (.int p2), .val (.int p3), .val (.int p4), .val (.int fk), .val (.int mk), .val w362, .val w363, .val (.ref a366), .val (.ref u367), .val (.ref u368), .val (.long vv), .second, .val (.int neg), .val (.int n10), .val (.int nn), .val (.ref b383), .unset]) rfl ?_
  refine own_aload X383 hx hby at_238 rfl rfl ?_
  refine own_iconst X383 hx hby 0 at_240 rfl ?_
  refine own_aload X383 hx hby at_241 rfl rfl ?_
  obtain ⟨_, _, ⟨T384, L384, k384, n384⟩, -, X384, ⟨Lc384, hQ384, l384, y384, z384⟩, st384⟩ := Jvm.LawKit.callS X383 hx (y := mN_42) hown (mvT hZ (own_w hw 202 rfl)) (mvT hZ (own_w hw 203 rfl)) (mvT hZ (own_w hw 2 rfl)) (mvT hZ (own_w hw 204 rfl)) (by decide) (backOf (W := 0) (rmc4 l Z a0 hw [] b383 (0 : Int32) u367 k383 ku367 nn ([] : List Int32) fk p1 h383 n0 Z0 V383 Vq367 g_b383 ne_u367_b383 own_i0 (by decide) (by rw [hnnI]; show ((0 : Nat) : Int) + _ ≤ _; omega) hk_fk) hZ (own_w hw 204 rfl) (own_w hw 2 rfl) (by decide) (by decide)) (g := (mkF m 243 #[.val (.int p1), .val (.int p2), .val (.int p3), .val (.int p4), .val (.int fk), .val (.int mk), .val w362, .val w363, .val (.ref a366), .val (.ref u367), .val (.ref u368), .val (.long vv), .second, .val (.int neg), .val (.int n10), .val (.int nn), .val (.ref b383), .unset] [(.ref u367), (.int (0 : Int32)), (.ref b383)])) rfl (by rw [hml]; rfl) (argsL := [(.ref b383), (.int (0 : Int32)), (.ref u367)]) (rest := []) (lenOf pd_33 rfl) rfl (by show 2 * 0 + _ ≤ _; exact Nat.le_of_eq rfl) (hb hby at_243) (fun _ _ => ⟨rfl, e383, (by decide : 25 + 0 ≤ _), (by decide : 361 + 0 ≤ _)⟩)
  dsimp only [Pt.U, Pt.locs, Pt.cells, Pt.slots] at X384 l384 y384 z384 st384 hQ384
  rw [l384, y384, z384] at X384
  obtain ⟨r384, rfl, Nq384, Kp384, hr384, Vq384⟩ := hQ384
  have N384 := Fr.app N368 Nq384
  have nst_b383 := V383.nostat
  replace Z0 := Nat.le_trans Z0 Kp384.1
  replace SC := own_staKeep SC Kp384 (nsS nst_b383 ns0)
  replace Es366 := Es366.keep Kp384
  replace Cq366 := Cq366.keep Kp384 (ninS ne_a366_b383 nin0)
  replace Fq366 := Fq366.keep Kp384 (ninS ne_a366_b383 nin0)
  replace Vq366 := Vq366.keep Kp384 (ninS ne_u366_b383 nin0)
  replace hkS := Nat.le_trans hkS Kp384.1
  replace Vq367 := Vq367.keep Kp384 (ninS ne_u367_b383 nin0)
  replace Vq368 := Vq368.keep Kp384 (ninS ne_u368_b383 nin0)
  refine own_of (U' := (T384.setTop (mkF m 246 #[.val (.int p1), .val (.int p2), .val (.int p3), .val (.int p4), .val (.int fk), .val (.int mk), .val w362, .val w363, .val (.ref a366), .val (.ref u367), .val (.ref u368), .val (.long vv), .second, .val (.int neg), .val (.int n10), .val (.int nn), .val (.ref b383), .unset] [(.int r384)]))) (st384) ?_
  refine own_istore X384 hx hby at_246 (l' := #[.val (.int p1), .val (.int p2), .val (.int p3), .val (.int p4), .val (.int fk), .val (.int mk), .val w362, .val w363, .val (.ref a366), .val (.ref u367), .val (.ref u368), .val (.long vv), .second, .val (.int neg), .val (.int n10), .val (.int nn), .val (.ref b383), .val (.int r384)]) rfl ?_
  obtain ⟨e_1, he_1⟩ : ∃ q : List Int32, q = (([] : List Int32) ++ List.map (nar .char) (own_pt fk p1)) := ⟨_, rfl⟩
  rw [← he_1] at Vq384
  have l1 : e_1.length = (own_pt fk p1).length := by rw [he_1, List.length_append, List.length_map]; simp
  have hp1 : r384.toInt = (e_1.length : Int) := by rw [hr384, l1]; simp
  replace Vq384 := Arv.pad Vq384 (own_padk e_1 1)
  replace Vq384 : Arv Z T384.heap b383 k383 .char nn (List.map Value.int (e_1 ++ [(0 : Int32)])) (.int (0 : Int32)) := Vq384
  refine own_aload X384 hx hby at_248 rfl rfl ?_
  refine own_iload X384 hx hby at_250 rfl ?_
  refine own_bipush X384 hx hby 58 at_252 rfl ?_
  obtain ⟨cl385, Ar385, qa385, Sa385, Na385, Ha385, Ga385⟩ := Vq384
  have hin385 : ¬ (r384 < 0 ∨ cl385.slots.size ≤ (r384).toNatClampNeg) := inb_of Sa385 ⟨own_ge0 (by rw [hp1]; omega), by rw [own_ltI, hp1]; omega⟩
  obtain ⟨T385, h385, X385, e385, W385, st385⟩ := stC X384 hx hZ rfl Ar385 (j := r384) hin385 (g := (mkF m 254 #[.val (.int p1), .val (.int p2), .val (.int p3), .val (.int p4), .val (.int fk), .val (.int mk), .val w362, .val w363, .val (.ref a366), .val (.ref u367), .val (.ref u368), .val (.long vv), .second, .val (.int neg), .val (.int n10), .val (.int nn), .val (.ref b383), .val (.int r384)] [(.int (58 : Int32)), (.int r384), (.ref b383)])) rfl rfl (hb hby at_254)
  replace Vq384 : Arv Z h385 b383 k383 .char nn (List.map Value.int (e_1 ++ [nar .char (58 : Int32)])) (.int (0 : Int32)) := by have q := Arv.set Ar385 qa385 Sa385 Na385 Ha385 Ga385 (fits_nar_char _) W385 (e_1.length + 0) (own_clamp (by rw [hp1]; rfl)) (by rw [List.length_map, List.length_append]; exact Nat.add_lt_add_left (by show 0 < 1; decide) _); rw [← List.map_set, List.set_append_right _ _ (Nat.le_add_right _ _), Nat.add_sub_cancel_left] at q; exact q
  replace Z0 := Nat.le_trans Z0 (Keep.of_wr W385).1
  replace SC := SC.wr W385
  replace Es366 := Es366.wr W385
  replace Cq366 := Cq366.other W385 (Or.inl ne_a366_b383)
  replace Fq366 := Fq366.other W385 (Or.inl ne_a366_b383)
  replace Vq366 := Vq366.other W385 ne_u366_b383
  replace hkS := Nat.le_trans hkS (Keep.of_wr W385).1
  replace Vq367 := Vq367.other W385 ne_u367_b383
  replace Vq368 := Vq368.other W385 ne_u368_b383
  have N385 := Fr.snoc X385 N384 g_b383
  refine own_of (U' := (T385.setTop (mkF m 255 #[.val (.int p1), .val (.int p2), .val (.int p3), .val (.int p4), .val (.int fk), .val (.int mk), .val w362, .val w363, .val (.ref a366), .val (.ref u367), .val (.ref u368), .val (.long vv), .second, .val (.int neg), .val (.int n10), .val (.int nn), .val (.ref b383), .val (.int r384)] []))) (st385) ?_
  refine own_iload X385 hx hby at_255 rfl ?_
  refine own_iconst X385 hx hby 1 at_257 rfl ?_
  refine own_iadd X385 hx hby at_258 ?_
  refine own_istore X385 hx hby at_259 (l' := #[.val (.int p1), .val (.int p2), .val (.int p3), .val (.int p4), .val (.int fk), .val (.int mk), .val w362, .val w363, .val (.ref a366), .val (.ref u367), .val (.ref u368), .val (.long vv), .second, .val (.int neg), .val (.int n10), .val (.int nn), .val (.ref b383), .val (.int (r384 + (1 : Int32)))]) rfl ?_
  obtain ⟨q2, hq2⟩ : ∃ z, z = (r384 + (1 : Int32)) := ⟨_, rfl⟩
  refine own_eq (U' := (T385.setTop (mkF m 261 #[.val (.int p1), .val (.int p2), .val (.int p3), .val (.int p4), .val (.int fk), .val (.int mk), .val w362, .val w363, .val (.ref a366), .val (.ref u367), .val (.ref u368), .val (.long vv), .second, .val (.int neg), .val (.int n10), .val (.int nn), .val (.ref b383), .val (.int q2)] []))) (by rw [hq2]) ?_
  obtain ⟨e_2, he_2⟩ : ∃ q : List Int32, q = (e_1 ++ [nar .char (58 : Int32)]) := ⟨_, rfl⟩
  rw [← he_2] at Vq384
  have l2 : e_2.length = e_1.length + 1 := by rw [he_2, List.length_append]; rfl
  have hp2 : q2.toInt = (e_2.length : Int) := by rw [hq2, l2]; exact own_inc hp1 (by omega)
  refine own_iload X385 hx hby at_261 rfl ?_
  suffices key386 : ∀ (T386 : State) (L386 : List Loc) (hq386 : Heap) (q3 : Int32), Stand p l e room_1 (s.setVm T366.vm) m #[(.int p1), (.int p2), (.int p3), (.int p4)] below meth c T386 L386 25 361 → T386.heap = hq386 → Fr n0 L386 → (n0 ≤ hq386.size) → (Sta Z hq386 "java/lang/String" "COMPACT_STRINGS" "Z" (.int g1)) → (Exa Z hq386 a366 "java/lang/String") → (Fld Z hq386 a366 "java/lang/String" "coder" "B" (.int (0 : Int32))) → (Fld Z hq386 a366 "java/lang/String" "value" "[B" (.ref u366)) → (Arv Z hq386 u366 ku366 .byte nS (List.map Value.int ((((([] ++ (List.map own_b8 (own_pt fk p1))) ++ own_co) ++ own_num p2) ++ own_cs) ++ (List.map own_b8 (own_pt mk p3)))) (.int (0 : Int32))) → (T366.heap.size ≤ hq386.size) → (Arv Z hq386 u367 ku367 .char (own_pl fk) (List.map Value.int (own_pt fk p1)) (.int (0 : Int32))) → (Arv Z hq386 u368 ku368 .char (own_pl mk) (List.map Value.int (own_pt mk p3)) (.int (0 : Int32))) → (Arv Z hq386 b383 k383 .char nn (List.map Value.int (e_2 ++ own_sgc neg)) (.int (0 : Int32))) → (q3.toInt = ((e_2 ++ own_sgc neg).length : Int)) → own_Ends p e below s ReturnedEndW (Q0 n0) 48 3456 (T386.setTop (mkF m 279 #[.val (.int p1), .val (.int p2), .val (.int p3), .val (.int p4), .val (.int fk), .val (.int mk), .val w362, .val w363, .val (.ref a366), .val (.ref u367), .val (.ref u368), .val (.long vv), .second, .val (.int neg), .val (.int n10), .val (.int nn), .val (.ref b383), .val (.int q3)] [])) by
    by_cases hc263_387 : neg = (0 : Int32)
    · skip
      refine own_ifYes X385 hx hby 263 279 at_263 ((if0 _ _).trans (teq hc263_387).1) (by decide) (by decide) ?_
      replace Vq384 : Arv Z h385 b383 k383 .char nn (List.map Value.int (e_2 ++ own_sgc neg)) (.int (0 : Int32)) := by unfold own_sgc; rw [if_pos hc263_387, List.append_nil]; exact Vq384
      exact key386 _ _ _ _ X385 e385 N385 Z0 SC Es366 Cq366 Fq366 Vq366 hkS Vq367 Vq368 Vq384 (by unfold own_sgc; rw [if_pos hc263_387, List.append_nil]; exact hp2)
    · skip
      refine own_ifNo X385 hx hby at_263 ((if0 _ _).trans (feq hc263_387).1) ?_
      replace Vq384 := Arv.pad Vq384 (own_padk e_2 1)
      replace Vq384 : Arv Z h385 b383 k383 .char nn (List.map Value.int (e_2 ++ [(0 : Int32)])) (.int (0 : Int32)) := Vq384
      refine own_aload X385 hx hby at_266 rfl rfl ?_
      refine own_iload X385 hx hby at_268 rfl ?_
      refine own_bipush X385 hx hby 45 at_270 rfl ?_
      obtain ⟨cl388, Ar388, qa388, Sa388, Na388, Ha388, Ga388⟩ := Vq384
      have hin388 : ¬ (q2 < 0 ∨ cl388.slots.size ≤ (q2).toNatClampNeg) := inb_of Sa388 ⟨own_ge0 (by rw [hp2]; omega), by rw [own_ltI, hp2]; omega⟩
      obtain ⟨T388, h388, X388, e388, W388, st388⟩ := stC X385 hx hZ e385 Ar388 (j := q2) hin388 (g := (mkF m 272 #[.val (.int p1), .val (.int p2), .val (.int p3), .val (.int p4), .val (.int fk), .val (.int mk), .val w362, .val w363, .val (.ref a366), .val (.ref u367), .val (.ref u368), .val (.long vv), .second, .val (.int neg), .val (.int n10), .val (.int nn), .val (.ref b383), .val (.int q2)] [(.int (45 : Int32)), (.int q2), (.ref b383)])) rfl rfl (hb hby at_272)
      replace Vq384 : Arv Z h388 b383 k383 .char nn (List.map Value.int (e_2 ++ [nar .char (45 : Int32)])) (.int (0 : Int32)) := by have q := Arv.set Ar388 qa388 Sa388 Na388 Ha388 Ga388 (fits_nar_char _) W388 (e_2.length + 0) (own_clamp (by rw [hp2]; rfl)) (by rw [List.length_map, List.length_append]; exact Nat.add_lt_add_left (by show 0 < 1; decide) _); rw [← List.map_set, List.set_append_right _ _ (Nat.le_add_right _ _), Nat.add_sub_cancel_left] at q; exact q
      replace Z0 := Nat.le_trans Z0 (Keep.of_wr W388).1
      replace SC := SC.wr W388
      replace Es366 := Es366.wr W388
      replace Cq366 := Cq366.other W388 (Or.inl ne_a366_b383)
      replace Fq366 := Fq366.other W388 (Or.inl ne_a366_b383)
      replace Vq366 := Vq366.other W388 ne_u366_b383
      replace hkS := Nat.le_trans hkS (Keep.of_wr W388).1
      replace Vq367 := Vq367.other W388 ne_u367_b383
      replace Vq368 := Vq368.other W388 ne_u368_b383
      have N388 := Fr.snoc X388 N385 g_b383
      refine own_of (U' := (T388.setTop (mkF m 273 #[.val (.int p1), .val (.int p2), .val (.int p3), .val (.int p4), .val (.int fk), .val (.int mk), .val w362, .val w363, .val (.ref a366), .val (.ref u367), .val (.ref u368), .val (.long vv), .second, .val (.int neg), .val (.int n10), .val (.int nn), .val (.ref b383), .val (.int q2)] []))) (st388) ?_
      refine own_iload X388 hx hby at_273 rfl ?_
      refine own_iconst X388 hx hby 1 at_275 rfl ?_
      refine own_iadd X388 hx hby at_276 ?_
      refine own_istore X388 hx hby at_277 (l' := #[.val (.int p1), .val (.int p2), .val (.int p3), .val (.int p4), .val (.int fk), .val (.int mk), .val w362, .val w363, .val (.ref a366), .val (.ref u367), .val (.ref u368), .val (.long vv), .second, .val (.int neg), .val (.int n10), .val (.int nn), .val (.ref b383), .val (.int (q2 + (1 : Int32)))]) rfl ?_
      replace Vq384 : Arv Z h388 b383 k383 .char nn (List.map Value.int (e_2 ++ own_sgc neg)) (.int (0 : Int32)) := by unfold own_sgc; rw [if_neg hc263_387]; exact Vq384
      exact key386 _ _ _ _ X388 e388 N388 Z0 SC Es366 Cq366 Fq366 Vq366 hkS Vq367 Vq368 Vq384 (by unfold own_sgc; rw [if_neg hc263_387, List.length_append]; exact own_inc hp2 (by omega))
  intro T386 L386 hq386 q3 X386 e386 N386 Z0 SC Es366 Cq366 Fq366 Vq366 hkS Vq367 Vq368 Vq384 iv3
  obtain ⟨e_3, he_3⟩ : ∃ q : List Int32, q = (e_2 ++ own_sgc neg) := ⟨_, rfl⟩
  rw [← he_3] at Vq384
  have l3 : e_3.length = e_2.length + (own_sgc neg).length := by rw [he_3, List.length_append]
  have hp3 : q3.toInt = (e_3.length : Int) := by rw [he_3]; exact iv3
  refine own_aload X386 hx hby at_279 rfl rfl ?_
  refine own_iload X386 hx hby at_281 rfl ?_
  refine own_iload X386 hx hby at_283 rfl ?_
  refine own_bipush X386 hx hby 9 at_285 rfl ?_
  refine own_lload X386 hx hby at_287 rfl ?_
  refine own_of (U' := (T386.setTop (mkF m 292 #[.val (.int p1), .val (.int p2), .val (.int p3), .val (.int p4), .val (.int fk), .val (.int mk), .val w362, .val w363, .val (.ref a366), .val (.ref u367), .val (.ref u368), .val (.long vv), .second, .val (.int neg), .val (.int n10), .val (.int nn), .val (.ref b383), .val (.int q3)] [(.long (1000000000 : Int64)), (.long vv), (.int (9 : Int32)), (.int n10), (.int q3), (.ref b383)]))) (X386.ldc2Long hx hown (mvT hZ (own_w hw 201 rfl)) (g := (mkF m 289 #[.val (.int p1), .val (.int p2), .val (.int p3), .val (.int p4), .val (.int fk), .val (.int mk), .val w362, .val w363, .val (.ref a366), .val (.ref u367), .val (.ref u368), .val (.long vv), .second, .val (.int neg), .val (.int n10), .val (.int nn), .val (.ref b383), .val (.int q3)] [(.long vv), (.int (9 : Int32)), (.int n10), (.int q3), (.ref b383)])) rfl (hb hby at_289)) ?_
  obtain ⟨_, _, ⟨T389, L389, k389, n389⟩, -, X389, ⟨Lc389, hQ389, l389, y389, z389⟩, st389⟩ := Jvm.LawKit.callS X386 hx (y := mN_43) hown (mvT hZ (own_w hw 205 rfl)) (mvT hZ (own_w hw 206 rfl)) (mvT hZ (own_w hw 2 rfl)) (mvT hZ (own_w hw 207 rfl)) (by decide) (backOf (W := 0) (rmpd l Z a0 hw [] b383 q3 n10 (9 : Int32) vv (1000000000 : Int64) k383 nn e_3  hq386 n0 Z0 Vq384 g_b383 (by decide) hp3 (by omega) (fun q => by rw [own_ltI, show (9 : Int32).toInt = 9 by decide] at q; omega)) hZ (own_w hw 207 rfl) (own_w hw 2 rfl) (by decide) (by decide)) (g := (mkF m 292 #[.val (.int p1), .val (.int p2), .val (.int p3), .val (.int p4), .val (.int fk), .val (.int mk), .val w362, .val w363, .val (.ref a366), .val (.ref u367), .val (.ref u368), .val (.long vv), .second, .val (.int neg), .val (.int n10), .val (.int nn), .val (.ref b383), .val (.int q3)] [(.long (1000000000 : Int64)), (.long vv), (.int (9 : Int32)), (.int n10), (.int q3), (.ref b383)])) rfl (by rw [hml]; rfl) (argsL := [(.ref b383), (.int q3), (.int n10), (.int (9 : Int32)), (.long vv), (.long (1000000000 : Int64))]) (rest := []) (lenOf pd_34 rfl) rfl (by show 2 * 0 + _ ≤ _; exact Nat.le_of_eq rfl) (hb hby at_292) (fun _ _ => ⟨rfl, e386, (by decide : 25 + 0 ≤ _), (by decide : 361 + 0 ≤ _)⟩)
  dsimp only [Pt.U, Pt.locs, Pt.cells, Pt.slots] at X389 l389 y389 z389 st389 hQ389
  rw [l389, y389, z389] at X389
  obtain ⟨r389, rfl, Nq389, Kp389, hr389, Vq389⟩ := hQ389
  have N389 := Fr.app N386 Nq389
  have nst_b383 := Vq384.nostat
  replace Z0 := Nat.le_trans Z0 Kp389.1
  replace SC := own_staKeep SC Kp389 (nsS nst_b383 ns0)
  replace Es366 := Es366.keep Kp389
  replace Cq366 := Cq366.keep Kp389 (ninS ne_a366_b383 nin0)
  replace Fq366 := Fq366.keep Kp389 (ninS ne_a366_b383 nin0)
  replace Vq366 := Vq366.keep Kp389 (ninS ne_u366_b383 nin0)
  replace hkS := Nat.le_trans hkS Kp389.1
  replace Vq367 := Vq367.keep Kp389 (ninS ne_u367_b383 nin0)
  replace Vq368 := Vq368.keep Kp389 (ninS ne_u368_b383 nin0)
  refine own_of (U' := (T389.setTop (mkF m 295 #[.val (.int p1), .val (.int p2), .val (.int p3), .val (.int p4), .val (.int fk), .val (.int mk), .val w362, .val w363, .val (.ref a366), .val (.ref u367), .val (.ref u368), .val (.long vv), .second, .val (.int neg), .val (.int n10), .val (.int nn), .val (.ref b383), .val (.int q3)] [(.int r389)]))) (st389) ?_
  refine own_istore X389 hx hby at_295 (l' := #[.val (.int p1), .val (.int p2), .val (.int p3), .val (.int p4), .val (.int fk), .val (.int mk), .val w362, .val w363, .val (.ref a366), .val (.ref u367), .val (.ref u368), .val (.long vv), .second, .val (.int neg), .val (.int n10), .val (.int nn), .val (.ref b383), .val (.int r389)]) rfl ?_
  have pl9 := own_pdl n10 (9 : Int32) vv (1000000000 : Int64)
  rw [show (9 : Int32).toInt = 9 by decide] at pl9
  obtain ⟨e_4, he_4⟩ : ∃ q : List Int32, q = (e_3 ++ own_pd n10 (9 : Int32) vv (1000000000 : Int64)) := ⟨_, rfl⟩
  rw [← he_4] at Vq389
  have l4 : e_4.length = e_3.length + (own_pd n10 (9 : Int32) vv (1000000000 : Int64)).length := by rw [he_4, List.length_append]
  have hp4 : r389.toInt = (e_4.length : Int) := by rw [hr389, l4]; omega
  have in9 : (9 < n10.toInt ∧ (e_4.length : Int) = e_3.length + n10.toInt - 9) ∨ (n10.toInt ≤ 9 ∧ e_4.length = e_3.length) := by omega
  clear pl9
  refine own_aload X389 hx hby at_297 rfl rfl ?_
  refine own_iload X389 hx hby at_299 rfl ?_
  refine own_iload X389 hx hby at_301 rfl ?_
  refine own_bipush X389 hx hby 8 at_303 rfl ?_
  refine own_lload X389 hx hby at_305 rfl ?_
  refine own_of (U' := (T389.setTop (mkF m 310 #[.val (.int p1), .val (.int p2), .val (.int p3), .val (.int p4), .val (.int fk), .val (.int mk), .val w362, .val w363, .val (.ref a366), .val (.ref u367), .val (.ref u368), .val (.long vv), .second, .val (.int neg), .val (.int n10), .val (.int nn), .val (.ref b383), .val (.int r389)] [(.long (100000000 : Int64)), (.long vv), (.int (8 : Int32)), (.int n10), (.int r389), (.ref b383)]))) (X389.ldc2Long hx hown (mvT hZ (own_w hw 200 rfl)) (g := (mkF m 307 #[.val (.int p1), .val (.int p2), .val (.int p3), .val (.int p4), .val (.int fk), .val (.int mk), .val w362, .val w363, .val (.ref a366), .val (.ref u367), .val (.ref u368), .val (.long vv), .second, .val (.int neg), .val (.int n10), .val (.int nn), .val (.ref b383), .val (.int r389)] [(.long vv), (.int (8 : Int32)), (.int n10), (.int r389), (.ref b383)])) rfl (hb hby at_307)) ?_
  obtain ⟨_, _, ⟨T390, L390, k390, n390⟩, -, X390, ⟨Lc390, hQ390, l390, y390, z390⟩, st390⟩ := Jvm.LawKit.callS X389 hx (y := mN_43) hown (mvT hZ (own_w hw 205 rfl)) (mvT hZ (own_w hw 206 rfl)) (mvT hZ (own_w hw 2 rfl)) (mvT hZ (own_w hw 207 rfl)) (by decide) (backOf (W := 0) (rmpd l Z a0 hw [] b383 r389 n10 (8 : Int32) vv (100000000 : Int64) k383 nn e_4  T389.heap n0 Z0 Vq389 g_b383 (by decide) hp4 (by omega) (fun q => by rw [own_ltI, show (8 : Int32).toInt = 8 by decide] at q; omega)) hZ (own_w hw 207 rfl) (own_w hw 2 rfl) (by decide) (by decide)) (g := (mkF m 310 #[.val (.int p1), .val (.int p2), .val (.int p3), .val (.int p4), .val (.int fk), .val (.int mk), .val w362, .val w363, .val (.ref a366), .val (.ref u367), .val (.ref u368), .val (.long vv), .second, .val (.int neg), .val (.int n10), .val (.int nn), .val (.ref b383), .val (.int r389)] [(.long (100000000 : Int64)), (.long vv), (.int (8 : Int32)), (.int n10), (.int r389), (.ref b383)])) rfl (by rw [hml]; rfl) (argsL := [(.ref b383), (.int r389), (.int n10), (.int (8 : Int32)), (.long vv), (.long (100000000 : Int64))]) (rest := []) (lenOf pd_34 rfl) rfl (by show 2 * 0 + _ ≤ _; exact Nat.le_of_eq rfl) (hb hby at_310) (fun _ _ => ⟨rfl, rfl, (by decide : 25 + 0 ≤ _), (by decide : 361 + 0 ≤ _)⟩)
  dsimp only [Pt.U, Pt.locs, Pt.cells, Pt.slots] at X390 l390 y390 z390 st390 hQ390
  rw [l390, y390, z390] at X390
  obtain ⟨r390, rfl, Nq390, Kp390, hr390, Vq390⟩ := hQ390
  have N390 := Fr.app N389 Nq390
  have nst_b383 := Vq389.nostat
  replace Z0 := Nat.le_trans Z0 Kp390.1
  replace SC := own_staKeep SC Kp390 (nsS nst_b383 ns0)
  replace Es366 := Es366.keep Kp390
  replace Cq366 := Cq366.keep Kp390 (ninS ne_a366_b383 nin0)
  replace Fq366 := Fq366.keep Kp390 (ninS ne_a366_b383 nin0)
  replace Vq366 := Vq366.keep Kp390 (ninS ne_u366_b383 nin0)
  replace hkS := Nat.le_trans hkS Kp390.1
  replace Vq367 := Vq367.keep Kp390 (ninS ne_u367_b383 nin0)
  replace Vq368 := Vq368.keep Kp390 (ninS ne_u368_b383 nin0)
  refine own_of (U' := (T390.setTop (mkF m 313 #[.val (.int p1), .val (.int p2), .val (.int p3), .val (.int p4), .val (.int fk), .val (.int mk), .val w362, .val w363, .val (.ref a366), .val (.ref u367), .val (.ref u368), .val (.long vv), .second, .val (.int neg), .val (.int n10), .val (.int nn), .val (.ref b383), .val (.int r389)] [(.int r390)]))) (st390) ?_
  refine own_istore X390 hx hby at_313 (l' := #[.val (.int p1), .val (.int p2), .val (.int p3), .val (.int p4), .val (.int fk), .val (.int mk), .val w362, .val w363, .val (.ref a366), .val (.ref u367), .val (.ref u368), .val (.long vv), .second, .val (.int neg), .val (.int n10), .val (.int nn), .val (.ref b383), .val (.int r390)]) rfl ?_
  have pl8 := own_pdl n10 (8 : Int32) vv (100000000 : Int64)
  rw [show (8 : Int32).toInt = 8 by decide] at pl8
  obtain ⟨e_5, he_5⟩ : ∃ q : List Int32, q = (e_4 ++ own_pd n10 (8 : Int32) vv (100000000 : Int64)) := ⟨_, rfl⟩
  rw [← he_5] at Vq390
  have l5 : e_5.length = e_4.length + (own_pd n10 (8 : Int32) vv (100000000 : Int64)).length := by rw [he_5, List.length_append]
  have hp5 : r390.toInt = (e_5.length : Int) := by rw [hr390, l5]; omega
  have in8 : (8 < n10.toInt ∧ (e_5.length : Int) = e_3.length + n10.toInt - 8) ∨ (n10.toInt ≤ 8 ∧ e_5.length = e_3.length) := by omega
  clear pl8 in9
  refine own_aload X390 hx hby at_315 rfl rfl ?_
  refine own_iload X390 hx hby at_317 rfl ?_
  refine own_iload X390 hx hby at_319 rfl ?_
  refine own_bipush X390 hx hby 7 at_321 rfl ?_
  refine own_lload X390 hx hby at_323 rfl ?_
  refine own_of (U' := (T390.setTop (mkF m 328 #[.val (.int p1), .val (.int p2), .val (.int p3), .val (.int p4), .val (.int fk), .val (.int mk), .val w362, .val w363, .val (.ref a366), .val (.ref u367), .val (.ref u368), .val (.long vv), .second, .val (.int neg), .val (.int n10), .val (.int nn), .val (.ref b383), .val (.int r390)] [(.long (10000000 : Int64)), (.long vv), (.int (7 : Int32)), (.int n10), (.int r390), (.ref b383)]))) (X390.ldc2Long hx hown (mvT hZ (own_w hw 199 rfl)) (g := (mkF m 325 #[.val (.int p1), .val (.int p2), .val (.int p3), .val (.int p4), .val (.int fk), .val (.int mk), .val w362, .val w363, .val (.ref a366), .val (.ref u367), .val (.ref u368), .val (.long vv), .second, .val (.int neg), .val (.int n10), .val (.int nn), .val (.ref b383), .val (.int r390)] [(.long vv), (.int (7 : Int32)), (.int n10), (.int r390), (.ref b383)])) rfl (hb hby at_325)) ?_
  obtain ⟨_, _, ⟨T391, L391, k391, n391⟩, -, X391, ⟨Lc391, hQ391, l391, y391, z391⟩, st391⟩ := Jvm.LawKit.callS X390 hx (y := mN_43) hown (mvT hZ (own_w hw 205 rfl)) (mvT hZ (own_w hw 206 rfl)) (mvT hZ (own_w hw 2 rfl)) (mvT hZ (own_w hw 207 rfl)) (by decide) (backOf (W := 0) (rmpd l Z a0 hw [] b383 r390 n10 (7 : Int32) vv (10000000 : Int64) k383 nn e_5  T390.heap n0 Z0 Vq390 g_b383 (by decide) hp5 (by omega) (fun q => by rw [own_ltI, show (7 : Int32).toInt = 7 by decide] at q; omega)) hZ (own_w hw 207 rfl) (own_w hw 2 rfl) (by decide) (by decide)) (g := (mkF m 328 #[.val (.int p1), .val (.int p2), .val (.int p3), .val (.int p4), .val (.int fk), .val (.int mk), .val w362, .val w363, .val (.ref a366), .val (.ref u367), .val (.ref u368), .val (.long vv), .second, .val (.int neg), .val (.int n10), .val (.int nn), .val (.ref b383), .val (.int r390)] [(.long (10000000 : Int64)), (.long vv), (.int (7 : Int32)), (.int n10), (.int r390), (.ref b383)])) rfl (by rw [hml]; rfl) (argsL := [(.ref b383), (.int r390), (.int n10), (.int (7 : Int32)), (.long vv), (.long (10000000 : Int64))]) (rest := []) (lenOf pd_34 rfl) rfl (by show 2 * 0 + _ ≤ _; exact Nat.le_of_eq rfl) (hb hby at_328) (fun _ _ => ⟨rfl, rfl, (by decide : 25 + 0 ≤ _), (by decide : 361 + 0 ≤ _)⟩)
  dsimp only [Pt.U, Pt.locs, Pt.cells, Pt.slots] at X391 l391 y391 z391 st391 hQ391
  rw [l391, y391, z391] at X391
  obtain ⟨r391, rfl, Nq391, Kp391, hr391, Vq391⟩ := hQ391
  have N391 := Fr.app N390 Nq391
  have nst_b383 := Vq390.nostat
  replace Z0 := Nat.le_trans Z0 Kp391.1
  replace SC := own_staKeep SC Kp391 (nsS nst_b383 ns0)
  replace Es366 := Es366.keep Kp391
  replace Cq366 := Cq366.keep Kp391 (ninS ne_a366_b383 nin0)
  replace Fq366 := Fq366.keep Kp391 (ninS ne_a366_b383 nin0)
  replace Vq366 := Vq366.keep Kp391 (ninS ne_u366_b383 nin0)
  replace hkS := Nat.le_trans hkS Kp391.1
  replace Vq367 := Vq367.keep Kp391 (ninS ne_u367_b383 nin0)
  replace Vq368 := Vq368.keep Kp391 (ninS ne_u368_b383 nin0)
  refine own_of (U' := (T391.setTop (mkF m 331 #[.val (.int p1), .val (.int p2), .val (.int p3), .val (.int p4), .val (.int fk), .val (.int mk), .val w362, .val w363, .val (.ref a366), .val (.ref u367), .val (.ref u368), .val (.long vv), .second, .val (.int neg), .val (.int n10), .val (.int nn), .val (.ref b383), .val (.int r390)] [(.int r391)]))) (st391) ?_
  refine own_istore X391 hx hby at_331 (l' := #[.val (.int p1), .val (.int p2), .val (.int p3), .val (.int p4), .val (.int fk), .val (.int mk), .val w362, .val w363, .val (.ref a366), .val (.ref u367), .val (.ref u368), .val (.long vv), .second, .val (.int neg), .val (.int n10), .val (.int nn), .val (.ref b383), .val (.int r391)]) rfl ?_
  have pl7 := own_pdl n10 (7 : Int32) vv (10000000 : Int64)
  rw [show (7 : Int32).toInt = 7 by decide] at pl7
  obtain ⟨e_6, he_6⟩ : ∃ q : List Int32, q = (e_5 ++ own_pd n10 (7 : Int32) vv (10000000 : Int64)) := ⟨_, rfl⟩
  rw [← he_6] at Vq391
  have l6 : e_6.length = e_5.length + (own_pd n10 (7 : Int32) vv (10000000 : Int64)).length := by rw [he_6, List.length_append]
  have hp6 : r391.toInt = (e_6.length : Int) := by rw [hr391, l6]; omega
  have in7 : (7 < n10.toInt ∧ (e_6.length : Int) = e_3.length + n10.toInt - 7) ∨ (n10.toInt ≤ 7 ∧ e_6.length = e_3.length) := by omega
  clear pl7 in8
  refine own_aload X391 hx hby at_333 rfl rfl ?_
  refine own_iload X391 hx hby at_335 rfl ?_
  refine own_iload X391 hx hby at_337 rfl ?_
  refine own_bipush X391 hx hby 6 at_339 rfl ?_
  refine own_lload X391 hx hby at_341 rfl ?_
  refine own_of (U' := (T391.setTop (mkF m 346 #[.val (.int p1), .val (.int p2), .val (.int p3), .val (.int p4), .val (.int fk), .val (.int mk), .val w362, .val w363, .val (.ref a366), .val (.ref u367), .val (.ref u368), .val (.long vv), .second, .val (.int neg), .val (.int n10), .val (.int nn), .val (.ref b383), .val (.int r391)] [(.long (1000000 : Int64)), (.long vv), (.int (6 : Int32)), (.int n10), (.int r391), (.ref b383)]))) (X391.ldc2Long hx hown (mvT hZ (own_w hw 198 rfl)) (g := (mkF m 343 #[.val (.int p1), .val (.int p2), .val (.int p3), .val (.int p4), .val (.int fk), .val (.int mk), .val w362, .val w363, .val (.ref a366), .val (.ref u367), .val (.ref u368), .val (.long vv), .second, .val (.int neg), .val (.int n10), .val (.int nn), .val (.ref b383), .val (.int r391)] [(.long vv), (.int (6 : Int32)), (.int n10), (.int r391), (.ref b383)])) rfl (hb hby at_343)) ?_
  obtain ⟨_, _, ⟨T392, L392, k392, n392⟩, -, X392, ⟨Lc392, hQ392, l392, y392, z392⟩, st392⟩ := Jvm.LawKit.callS X391 hx (y := mN_43) hown (mvT hZ (own_w hw 205 rfl)) (mvT hZ (own_w hw 206 rfl)) (mvT hZ (own_w hw 2 rfl)) (mvT hZ (own_w hw 207 rfl)) (by decide) (backOf (W := 0) (rmpd l Z a0 hw [] b383 r391 n10 (6 : Int32) vv (1000000 : Int64) k383 nn e_6  T391.heap n0 Z0 Vq391 g_b383 (by decide) hp6 (by omega) (fun q => by rw [own_ltI, show (6 : Int32).toInt = 6 by decide] at q; omega)) hZ (own_w hw 207 rfl) (own_w hw 2 rfl) (by decide) (by decide)) (g := (mkF m 346 #[.val (.int p1), .val (.int p2), .val (.int p3), .val (.int p4), .val (.int fk), .val (.int mk), .val w362, .val w363, .val (.ref a366), .val (.ref u367), .val (.ref u368), .val (.long vv), .second, .val (.int neg), .val (.int n10), .val (.int nn), .val (.ref b383), .val (.int r391)] [(.long (1000000 : Int64)), (.long vv), (.int (6 : Int32)), (.int n10), (.int r391), (.ref b383)])) rfl (by rw [hml]; rfl) (argsL := [(.ref b383), (.int r391), (.int n10), (.int (6 : Int32)), (.long vv), (.long (1000000 : Int64))]) (rest := []) (lenOf pd_34 rfl) rfl (by show 2 * 0 + _ ≤ _; exact Nat.le_of_eq rfl) (hb hby at_346) (fun _ _ => ⟨rfl, rfl, (by decide : 25 + 0 ≤ _), (by decide : 361 + 0 ≤ _)⟩)
  dsimp only [Pt.U, Pt.locs, Pt.cells, Pt.slots] at X392 l392 y392 z392 st392 hQ392
  rw [l392, y392, z392] at X392
  obtain ⟨r392, rfl, Nq392, Kp392, hr392, Vq392⟩ := hQ392
  have N392 := Fr.app N391 Nq392
  have nst_b383 := Vq391.nostat
  replace Z0 := Nat.le_trans Z0 Kp392.1
  replace SC := own_staKeep SC Kp392 (nsS nst_b383 ns0)
  replace Es366 := Es366.keep Kp392
  replace Cq366 := Cq366.keep Kp392 (ninS ne_a366_b383 nin0)
  replace Fq366 := Fq366.keep Kp392 (ninS ne_a366_b383 nin0)
  replace Vq366 := Vq366.keep Kp392 (ninS ne_u366_b383 nin0)
  replace hkS := Nat.le_trans hkS Kp392.1
  replace Vq367 := Vq367.keep Kp392 (ninS ne_u367_b383 nin0)
  replace Vq368 := Vq368.keep Kp392 (ninS ne_u368_b383 nin0)
  refine own_of (U' := (T392.setTop (mkF m 349 #[.val (.int p1), .val (.int p2), .val (.int p3), .val (.int p4), .val (.int fk), .val (.int mk), .val w362, .val w363, .val (.ref a366), .val (.ref u367), .val (.ref u368), .val (.long vv), .second, .val (.int neg), .val (.int n10), .val (.int nn), .val (.ref b383), .val (.int r391)] [(.int r392)]))) (st392) ?_
  refine own_istore X392 hx hby at_349 (l' := #[.val (.int p1), .val (.int p2), .val (.int p3), .val (.int p4), .val (.int fk), .val (.int mk), .val w362, .val w363, .val (.ref a366), .val (.ref u367), .val (.ref u368), .val (.long vv), .second, .val (.int neg), .val (.int n10), .val (.int nn), .val (.ref b383), .val (.int r392)]) rfl ?_
  have pl6 := own_pdl n10 (6 : Int32) vv (1000000 : Int64)
  rw [show (6 : Int32).toInt = 6 by decide] at pl6
  obtain ⟨e_7, he_7⟩ : ∃ q : List Int32, q = (e_6 ++ own_pd n10 (6 : Int32) vv (1000000 : Int64)) := ⟨_, rfl⟩
  rw [← he_7] at Vq392
  have l7 : e_7.length = e_6.length + (own_pd n10 (6 : Int32) vv (1000000 : Int64)).length := by rw [he_7, List.length_append]
  have hp7 : r392.toInt = (e_7.length : Int) := by rw [hr392, l7]; omega
  have in6 : (6 < n10.toInt ∧ (e_7.length : Int) = e_3.length + n10.toInt - 6) ∨ (n10.toInt ≤ 6 ∧ e_7.length = e_3.length) := by omega
  clear pl6 in7
  refine own_aload X392 hx hby at_351 rfl rfl ?_
  refine own_iload X392 hx hby at_353 rfl ?_
  refine own_iload X392 hx hby at_355 rfl ?_
  refine own_iconst X392 hx hby 5 at_357 rfl ?_
  refine own_lload X392 hx hby at_358 rfl ?_
  refine own_of (U' := (T392.setTop (mkF m 363 #[.val (.int p1), .val (.int p2), .val (.int p3), .val (.int p4), .val (.int fk), .val (.int mk), .val w362, .val w363, .val (.ref a366), .val (.ref u367), .val (.ref u368), .val (.long vv), .second, .val (.int neg), .val (.int n10), .val (.int nn), .val (.ref b383), .val (.int r392)] [(.long (100000 : Int64)), (.long vv), (.int (5 : Int32)), (.int n10), (.int r392), (.ref b383)]))) (X392.ldc2Long hx hown (mvT hZ (own_w hw 197 rfl)) (g := (mkF m 360 #[.val (.int p1), .val (.int p2), .val (.int p3), .val (.int p4), .val (.int fk), .val (.int mk), .val w362, .val w363, .val (.ref a366), .val (.ref u367), .val (.ref u368), .val (.long vv), .second, .val (.int neg), .val (.int n10), .val (.int nn), .val (.ref b383), .val (.int r392)] [(.long vv), (.int (5 : Int32)), (.int n10), (.int r392), (.ref b383)])) rfl (hb hby at_360)) ?_
  obtain ⟨_, _, ⟨T393, L393, k393, n393⟩, -, X393, ⟨Lc393, hQ393, l393, y393, z393⟩, st393⟩ := Jvm.LawKit.callS X392 hx (y := mN_43) hown (mvT hZ (own_w hw 205 rfl)) (mvT hZ (own_w hw 206 rfl)) (mvT hZ (own_w hw 2 rfl)) (mvT hZ (own_w hw 207 rfl)) (by decide) (backOf (W := 0) (rmpd l Z a0 hw [] b383 r392 n10 (5 : Int32) vv (100000 : Int64) k383 nn e_7  T392.heap n0 Z0 Vq392 g_b383 (by decide) hp7 (by omega) (fun q => by rw [own_ltI, show (5 : Int32).toInt = 5 by decide] at q; omega)) hZ (own_w hw 207 rfl) (own_w hw 2 rfl) (by decide) (by decide)) (g := (mkF m 363 #[.val (.int p1), .val (.int p2), .val (.int p3), .val (.int p4), .val (.int fk), .val (.int mk), .val w362, .val w363, .val (.ref a366), .val (.ref u367), .val (.ref u368), .val (.long vv), .second, .val (.int neg), .val (.int n10), .val (.int nn), .val (.ref b383), .val (.int r392)] [(.long (100000 : Int64)), (.long vv), (.int (5 : Int32)), (.int n10), (.int r392), (.ref b383)])) rfl (by rw [hml]; rfl) (argsL := [(.ref b383), (.int r392), (.int n10), (.int (5 : Int32)), (.long vv), (.long (100000 : Int64))]) (rest := []) (lenOf pd_34 rfl) rfl (by show 2 * 0 + _ ≤ _; exact Nat.le_of_eq rfl) (hb hby at_363) (fun _ _ => ⟨rfl, rfl, (by decide : 25 + 0 ≤ _), (by decide : 361 + 0 ≤ _)⟩)
  dsimp only [Pt.U, Pt.locs, Pt.cells, Pt.slots] at X393 l393 y393 z393 st393 hQ393
  rw [l393, y393, z393] at X393
  obtain ⟨r393, rfl, Nq393, Kp393, hr393, Vq393⟩ := hQ393
  have N393 := Fr.app N392 Nq393
  have nst_b383 := Vq392.nostat
  replace Z0 := Nat.le_trans Z0 Kp393.1
  replace SC := own_staKeep SC Kp393 (nsS nst_b383 ns0)
  replace Es366 := Es366.keep Kp393
  replace Cq366 := Cq366.keep Kp393 (ninS ne_a366_b383 nin0)
  replace Fq366 := Fq366.keep Kp393 (ninS ne_a366_b383 nin0)
  replace Vq366 := Vq366.keep Kp393 (ninS ne_u366_b383 nin0)
  replace hkS := Nat.le_trans hkS Kp393.1
  replace Vq367 := Vq367.keep Kp393 (ninS ne_u367_b383 nin0)
  replace Vq368 := Vq368.keep Kp393 (ninS ne_u368_b383 nin0)
  refine own_of (U' := (T393.setTop (mkF m 366 #[.val (.int p1), .val (.int p2), .val (.int p3), .val (.int p4), .val (.int fk), .val (.int mk), .val w362, .val w363, .val (.ref a366), .val (.ref u367), .val (.ref u368), .val (.long vv), .second, .val (.int neg), .val (.int n10), .val (.int nn), .val (.ref b383), .val (.int r392)] [(.int r393)]))) (st393) ?_
  refine own_istore X393 hx hby at_366 (l' := #[.val (.int p1), .val (.int p2), .val (.int p3), .val (.int p4), .val (.int fk), .val (.int mk), .val w362, .val w363, .val (.ref a366), .val (.ref u367), .val (.ref u368), .val (.long vv), .second, .val (.int neg), .val (.int n10), .val (.int nn), .val (.ref b383), .val (.int r393)]) rfl ?_
  have pl5 := own_pdl n10 (5 : Int32) vv (100000 : Int64)
  rw [show (5 : Int32).toInt = 5 by decide] at pl5
  obtain ⟨e_8, he_8⟩ : ∃ q : List Int32, q = (e_7 ++ own_pd n10 (5 : Int32) vv (100000 : Int64)) := ⟨_, rfl⟩
  rw [← he_8] at Vq393
  have l8 : e_8.length = e_7.length + (own_pd n10 (5 : Int32) vv (100000 : Int64)).length := by rw [he_8, List.length_append]
  have hp8 : r393.toInt = (e_8.length : Int) := by rw [hr393, l8]; omega
  have in5 : (5 < n10.toInt ∧ (e_8.length : Int) = e_3.length + n10.toInt - 5) ∨ (n10.toInt ≤ 5 ∧ e_8.length = e_3.length) := by omega
  clear pl5 in6
  refine own_aload X393 hx hby at_368 rfl rfl ?_
  refine own_iload X393 hx hby at_370 rfl ?_
  refine own_iload X393 hx hby at_372 rfl ?_
  refine own_iconst X393 hx hby 4 at_374 rfl ?_
  refine own_lload X393 hx hby at_375 rfl ?_
  refine own_of (U' := (T393.setTop (mkF m 380 #[.val (.int p1), .val (.int p2), .val (.int p3), .val (.int p4), .val (.int fk), .val (.int mk), .val w362, .val w363, .val (.ref a366), .val (.ref u367), .val (.ref u368), .val (.long vv), .second, .val (.int neg), .val (.int n10), .val (.int nn), .val (.ref b383), .val (.int r393)] [(.long (10000 : Int64)), (.long vv), (.int (4 : Int32)), (.int n10), (.int r393), (.ref b383)]))) (X393.ldc2Long hx hown (mvT hZ (own_w hw 196 rfl)) (g := (mkF m 377 #[.val (.int p1), .val (.int p2), .val (.int p3), .val (.int p4), .val (.int fk), .val (.int mk), .val w362, .val w363, .val (.ref a366), .val (.ref u367), .val (.ref u368), .val (.long vv), .second, .val (.int neg), .val (.int n10), .val (.int nn), .val (.ref b383), .val (.int r393)] [(.long vv), (.int (4 : Int32)), (.int n10), (.int r393), (.ref b383)])) rfl (hb hby at_377)) ?_
  obtain ⟨_, _, ⟨T394, L394, k394, n394⟩, -, X394, ⟨Lc394, hQ394, l394, y394, z394⟩, st394⟩ := Jvm.LawKit.callS X393 hx (y := mN_43) hown (mvT hZ (own_w hw 205 rfl)) (mvT hZ (own_w hw 206 rfl)) (mvT hZ (own_w hw 2 rfl)) (mvT hZ (own_w hw 207 rfl)) (by decide) (backOf (W := 0) (rmpd l Z a0 hw [] b383 r393 n10 (4 : Int32) vv (10000 : Int64) k383 nn e_8  T393.heap n0 Z0 Vq393 g_b383 (by decide) hp8 (by omega) (fun q => by rw [own_ltI, show (4 : Int32).toInt = 4 by decide] at q; omega)) hZ (own_w hw 207 rfl) (own_w hw 2 rfl) (by decide) (by decide)) (g := (mkF m 380 #[.val (.int p1), .val (.int p2), .val (.int p3), .val (.int p4), .val (.int fk), .val (.int mk), .val w362, .val w363, .val (.ref a366), .val (.ref u367), .val (.ref u368), .val (.long vv), .second, .val (.int neg), .val (.int n10), .val (.int nn), .val (.ref b383), .val (.int r393)] [(.long (10000 : Int64)), (.long vv), (.int (4 : Int32)), (.int n10), (.int r393), (.ref b383)])) rfl (by rw [hml]; rfl) (argsL := [(.ref b383), (.int r393), (.int n10), (.int (4 : Int32)), (.long vv), (.long (10000 : Int64))]) (rest := []) (lenOf pd_34 rfl) rfl (by show 2 * 0 + _ ≤ _; exact Nat.le_of_eq rfl) (hb hby at_380) (fun _ _ => ⟨rfl, rfl, (by decide : 25 + 0 ≤ _), (by decide : 361 + 0 ≤ _)⟩)
  dsimp only [Pt.U, Pt.locs, Pt.cells, Pt.slots] at X394 l394 y394 z394 st394 hQ394
  rw [l394, y394, z394] at X394
  obtain ⟨r394, rfl, Nq394, Kp394, hr394, Vq394⟩ := hQ394
  have N394 := Fr.app N393 Nq394
  have nst_b383 := Vq393.nostat
  replace Z0 := Nat.le_trans Z0 Kp394.1
  replace SC := own_staKeep SC Kp394 (nsS nst_b383 ns0)
  replace Es366 := Es366.keep Kp394
  replace Cq366 := Cq366.keep Kp394 (ninS ne_a366_b383 nin0)
  replace Fq366 := Fq366.keep Kp394 (ninS ne_a366_b383 nin0)
  replace Vq366 := Vq366.keep Kp394 (ninS ne_u366_b383 nin0)
  replace hkS := Nat.le_trans hkS Kp394.1
  replace Vq367 := Vq367.keep Kp394 (ninS ne_u367_b383 nin0)
  replace Vq368 := Vq368.keep Kp394 (ninS ne_u368_b383 nin0)
  refine own_of (U' := (T394.setTop (mkF m 383 #[.val (.int p1), .val (.int p2), .val (.int p3), .val (.int p4), .val (.int fk), .val (.int mk), .val w362, .val w363, .val (.ref a366), .val (.ref u367), .val (.ref u368), .val (.long vv), .second, .val (.int neg), .val (.int n10), .val (.int nn), .val (.ref b383), .val (.int r393)] [(.int r394)]))) (st394) ?_
  refine own_istore X394 hx hby at_383 (l' := #[.val (.int p1), .val (.int p2), .val (.int p3), .val (.int p4), .val (.int fk), .val (.int mk), .val w362, .val w363, .val (.ref a366), .val (.ref u367), .val (.ref u368), .val (.long vv), .second, .val (.int neg), .val (.int n10), .val (.int nn), .val (.ref b383), .val (.int r394)]) rfl ?_
  have pl4 := own_pdl n10 (4 : Int32) vv (10000 : Int64)
  rw [show (4 : Int32).toInt = 4 by decide] at pl4
  obtain ⟨e_9, he_9⟩ : ∃ q : List Int32, q = (e_8 ++ own_pd n10 (4 : Int32) vv (10000 : Int64)) := ⟨_, rfl⟩
  rw [← he_9] at Vq394
  have l9 : e_9.length = e_8.length + (own_pd n10 (4 : Int32) vv (10000 : Int64)).length := by rw [he_9, List.length_append]
  have hp9 : r394.toInt = (e_9.length : Int) := by rw [hr394, l9]; omega
  have in4 : (4 < n10.toInt ∧ (e_9.length : Int) = e_3.length + n10.toInt - 4) ∨ (n10.toInt ≤ 4 ∧ e_9.length = e_3.length) := by omega
  clear pl4 in5
  refine own_aload X394 hx hby at_385 rfl rfl ?_
  refine own_iload X394 hx hby at_387 rfl ?_
  refine own_iload X394 hx hby at_389 rfl ?_
  refine own_iconst X394 hx hby 3 at_391 rfl ?_
  refine own_lload X394 hx hby at_392 rfl ?_
  refine own_of (U' := (T394.setTop (mkF m 397 #[.val (.int p1), .val (.int p2), .val (.int p3), .val (.int p4), .val (.int fk), .val (.int mk), .val w362, .val w363, .val (.ref a366), .val (.ref u367), .val (.ref u368), .val (.long vv), .second, .val (.int neg), .val (.int n10), .val (.int nn), .val (.ref b383), .val (.int r394)] [(.long (1000 : Int64)), (.long vv), (.int (3 : Int32)), (.int n10), (.int r394), (.ref b383)]))) (X394.ldc2Long hx hown (mvT hZ (own_w hw 195 rfl)) (g := (mkF m 394 #[.val (.int p1), .val (.int p2), .val (.int p3), .val (.int p4), .val (.int fk), .val (.int mk), .val w362, .val w363, .val (.ref a366), .val (.ref u367), .val (.ref u368), .val (.long vv), .second, .val (.int neg), .val (.int n10), .val (.int nn), .val (.ref b383), .val (.int r394)] [(.long vv), (.int (3 : Int32)), (.int n10), (.int r394), (.ref b383)])) rfl (hb hby at_394)) ?_
  obtain ⟨_, _, ⟨T395, L395, k395, n395⟩, -, X395, ⟨Lc395, hQ395, l395, y395, z395⟩, st395⟩ := Jvm.LawKit.callS X394 hx (y := mN_43) hown (mvT hZ (own_w hw 205 rfl)) (mvT hZ (own_w hw 206 rfl)) (mvT hZ (own_w hw 2 rfl)) (mvT hZ (own_w hw 207 rfl)) (by decide) (backOf (W := 0) (rmpd l Z a0 hw [] b383 r394 n10 (3 : Int32) vv (1000 : Int64) k383 nn e_9  T394.heap n0 Z0 Vq394 g_b383 (by decide) hp9 (by omega) (fun q => by rw [own_ltI, show (3 : Int32).toInt = 3 by decide] at q; omega)) hZ (own_w hw 207 rfl) (own_w hw 2 rfl) (by decide) (by decide)) (g := (mkF m 397 #[.val (.int p1), .val (.int p2), .val (.int p3), .val (.int p4), .val (.int fk), .val (.int mk), .val w362, .val w363, .val (.ref a366), .val (.ref u367), .val (.ref u368), .val (.long vv), .second, .val (.int neg), .val (.int n10), .val (.int nn), .val (.ref b383), .val (.int r394)] [(.long (1000 : Int64)), (.long vv), (.int (3 : Int32)), (.int n10), (.int r394), (.ref b383)])) rfl (by rw [hml]; rfl) (argsL := [(.ref b383), (.int r394), (.int n10), (.int (3 : Int32)), (.long vv), (.long (1000 : Int64))]) (rest := []) (lenOf pd_34 rfl) rfl (by show 2 * 0 + _ ≤ _; exact Nat.le_of_eq rfl) (hb hby at_397) (fun _ _ => ⟨rfl, rfl, (by decide : 25 + 0 ≤ _), (by decide : 361 + 0 ≤ _)⟩)
  dsimp only [Pt.U, Pt.locs, Pt.cells, Pt.slots] at X395 l395 y395 z395 st395 hQ395
  rw [l395, y395, z395] at X395
  obtain ⟨r395, rfl, Nq395, Kp395, hr395, Vq395⟩ := hQ395
  have N395 := Fr.app N394 Nq395
  have nst_b383 := Vq394.nostat
  replace Z0 := Nat.le_trans Z0 Kp395.1
  replace SC := own_staKeep SC Kp395 (nsS nst_b383 ns0)
  replace Es366 := Es366.keep Kp395
  replace Cq366 := Cq366.keep Kp395 (ninS ne_a366_b383 nin0)
  replace Fq366 := Fq366.keep Kp395 (ninS ne_a366_b383 nin0)
  replace Vq366 := Vq366.keep Kp395 (ninS ne_u366_b383 nin0)
  replace hkS := Nat.le_trans hkS Kp395.1
  replace Vq367 := Vq367.keep Kp395 (ninS ne_u367_b383 nin0)
  replace Vq368 := Vq368.keep Kp395 (ninS ne_u368_b383 nin0)
  refine own_of (U' := (T395.setTop (mkF m 400 #[.val (.int p1), .val (.int p2), .val (.int p3), .val (.int p4), .val (.int fk), .val (.int mk), .val w362, .val w363, .val (.ref a366), .val (.ref u367), .val (.ref u368), .val (.long vv), .second, .val (.int neg), .val (.int n10), .val (.int nn), .val (.ref b383), .val (.int r394)] [(.int r395)]))) (st395) ?_
  refine own_istore X395 hx hby at_400 (l' := #[.val (.int p1), .val (.int p2), .val (.int p3), .val (.int p4), .val (.int fk), .val (.int mk), .val w362, .val w363, .val (.ref a366), .val (.ref u367), .val (.ref u368), .val (.long vv), .second, .val (.int neg), .val (.int n10), .val (.int nn), .val (.ref b383), .val (.int r395)]) rfl ?_
  have pl3 := own_pdl n10 (3 : Int32) vv (1000 : Int64)
  rw [show (3 : Int32).toInt = 3 by decide] at pl3
  obtain ⟨e_10, he_10⟩ : ∃ q : List Int32, q = (e_9 ++ own_pd n10 (3 : Int32) vv (1000 : Int64)) := ⟨_, rfl⟩
  rw [← he_10] at Vq395
  have l10 : e_10.length = e_9.length + (own_pd n10 (3 : Int32) vv (1000 : Int64)).length := by rw [he_10, List.length_append]
  have hp10 : r395.toInt = (e_10.length : Int) := by rw [hr395, l10]; omega
  have in3 : (3 < n10.toInt ∧ (e_10.length : Int) = e_3.length + n10.toInt - 3) ∨ (n10.toInt ≤ 3 ∧ e_10.length = e_3.length) := by omega
  clear pl3 in4
  refine own_aload X395 hx hby at_402 rfl rfl ?_
  refine own_iload X395 hx hby at_404 rfl ?_
  refine own_iload X395 hx hby at_406 rfl ?_
  refine own_iconst X395 hx hby 2 at_408 rfl ?_
  refine own_lload X395 hx hby at_409 rfl ?_
  refine own_of (U' := (T395.setTop (mkF m 414 #[.val (.int p1), .val (.int p2), .val (.int p3), .val (.int p4), .val (.int fk), .val (.int mk), .val w362, .val w363, .val (.ref a366), .val (.ref u367), .val (.ref u368), .val (.long vv), .second, .val (.int neg), .val (.int n10), .val (.int nn), .val (.ref b383), .val (.int r395)] [(.long (100 : Int64)), (.long vv), (.int (2 : Int32)), (.int n10), (.int r395), (.ref b383)]))) (X395.ldc2Long hx hown (mvT hZ (own_w hw 194 rfl)) (g := (mkF m 411 #[.val (.int p1), .val (.int p2), .val (.int p3), .val (.int p4), .val (.int fk), .val (.int mk), .val w362, .val w363, .val (.ref a366), .val (.ref u367), .val (.ref u368), .val (.long vv), .second, .val (.int neg), .val (.int n10), .val (.int nn), .val (.ref b383), .val (.int r395)] [(.long vv), (.int (2 : Int32)), (.int n10), (.int r395), (.ref b383)])) rfl (hb hby at_411)) ?_
  obtain ⟨_, _, ⟨T396, L396, k396, n396⟩, -, X396, ⟨Lc396, hQ396, l396, y396, z396⟩, st396⟩ := Jvm.LawKit.callS X395 hx (y := mN_43) hown (mvT hZ (own_w hw 205 rfl)) (mvT hZ (own_w hw 206 rfl)) (mvT hZ (own_w hw 2 rfl)) (mvT hZ (own_w hw 207 rfl)) (by decide) (backOf (W := 0) (rmpd l Z a0 hw [] b383 r395 n10 (2 : Int32) vv (100 : Int64) k383 nn e_10  T395.heap n0 Z0 Vq395 g_b383 (by decide) hp10 (by omega) (fun q => by rw [own_ltI, show (2 : Int32).toInt = 2 by decide] at q; omega)) hZ (own_w hw 207 rfl) (own_w hw 2 rfl) (by decide) (by decide)) (g := (mkF m 414 #[.val (.int p1), .val (.int p2), .val (.int p3), .val (.int p4), .val (.int fk), .val (.int mk), .val w362, .val w363, .val (.ref a366), .val (.ref u367), .val (.ref u368), .val (.long vv), .second, .val (.int neg), .val (.int n10), .val (.int nn), .val (.ref b383), .val (.int r395)] [(.long (100 : Int64)), (.long vv), (.int (2 : Int32)), (.int n10), (.int r395), (.ref b383)])) rfl (by rw [hml]; rfl) (argsL := [(.ref b383), (.int r395), (.int n10), (.int (2 : Int32)), (.long vv), (.long (100 : Int64))]) (rest := []) (lenOf pd_34 rfl) rfl (by show 2 * 0 + _ ≤ _; exact Nat.le_of_eq rfl) (hb hby at_414) (fun _ _ => ⟨rfl, rfl, (by decide : 25 + 0 ≤ _), (by decide : 361 + 0 ≤ _)⟩)
  dsimp only [Pt.U, Pt.locs, Pt.cells, Pt.slots] at X396 l396 y396 z396 st396 hQ396
  rw [l396, y396, z396] at X396
  obtain ⟨r396, rfl, Nq396, Kp396, hr396, Vq396⟩ := hQ396
  have N396 := Fr.app N395 Nq396
  have nst_b383 := Vq395.nostat
  replace Z0 := Nat.le_trans Z0 Kp396.1
  replace SC := own_staKeep SC Kp396 (nsS nst_b383 ns0)
  replace Es366 := Es366.keep Kp396
  replace Cq366 := Cq366.keep Kp396 (ninS ne_a366_b383 nin0)
  replace Fq366 := Fq366.keep Kp396 (ninS ne_a366_b383 nin0)
  replace Vq366 := Vq366.keep Kp396 (ninS ne_u366_b383 nin0)
  replace hkS := Nat.le_trans hkS Kp396.1
  replace Vq367 := Vq367.keep Kp396 (ninS ne_u367_b383 nin0)
  replace Vq368 := Vq368.keep Kp396 (ninS ne_u368_b383 nin0)
  refine own_of (U' := (T396.setTop (mkF m 417 #[.val (.int p1), .val (.int p2), .val (.int p3), .val (.int p4), .val (.int fk), .val (.int mk), .val w362, .val w363, .val (.ref a366), .val (.ref u367), .val (.ref u368), .val (.long vv), .second, .val (.int neg), .val (.int n10), .val (.int nn), .val (.ref b383), .val (.int r395)] [(.int r396)]))) (st396) ?_
  refine own_istore X396 hx hby at_417 (l' := #[.val (.int p1), .val (.int p2), .val (.int p3), .val (.int p4), .val (.int fk), .val (.int mk), .val w362, .val w363, .val (.ref a366), .val (.ref u367), .val (.ref u368), .val (.long vv), .second, .val (.int neg), .val (.int n10), .val (.int nn), .val (.ref b383), .val (.int r396)]) rfl ?_
  have pl2 := own_pdl n10 (2 : Int32) vv (100 : Int64)
  rw [show (2 : Int32).toInt = 2 by decide] at pl2
  obtain ⟨e_11, he_11⟩ : ∃ q : List Int32, q = (e_10 ++ own_pd n10 (2 : Int32) vv (100 : Int64)) := ⟨_, rfl⟩
  rw [← he_11] at Vq396
  have l11 : e_11.length = e_10.length + (own_pd n10 (2 : Int32) vv (100 : Int64)).length := by rw [he_11, List.length_append]
  have hp11 : r396.toInt = (e_11.length : Int) := by rw [hr396, l11]; omega
  have in2 : (2 < n10.toInt ∧ (e_11.length : Int) = e_3.length + n10.toInt - 2) ∨ (n10.toInt ≤ 2 ∧ e_11.length = e_3.length) := by omega
  clear pl2 in3
  refine own_aload X396 hx hby at_419 rfl rfl ?_
  refine own_iload X396 hx hby at_421 rfl ?_
  refine own_iload X396 hx hby at_423 rfl ?_
  refine own_iconst X396 hx hby 1 at_425 rfl ?_
  refine own_lload X396 hx hby at_426 rfl ?_
  refine own_of (U' := (T396.setTop (mkF m 431 #[.val (.int p1), .val (.int p2), .val (.int p3), .val (.int p4), .val (.int fk), .val (.int mk), .val w362, .val w363, .val (.ref a366), .val (.ref u367), .val (.ref u368), .val (.long vv), .second, .val (.int neg), .val (.int n10), .val (.int nn), .val (.ref b383), .val (.int r396)] [(.long (10 : Int64)), (.long vv), (.int (1 : Int32)), (.int n10), (.int r396), (.ref b383)]))) (X396.ldc2Long hx hown (mvT hZ (own_w hw 193 rfl)) (g := (mkF m 428 #[.val (.int p1), .val (.int p2), .val (.int p3), .val (.int p4), .val (.int fk), .val (.int mk), .val w362, .val w363, .val (.ref a366), .val (.ref u367), .val (.ref u368), .val (.long vv), .second, .val (.int neg), .val (.int n10), .val (.int nn), .val (.ref b383), .val (.int r396)] [(.long vv), (.int (1 : Int32)), (.int n10), (.int r396), (.ref b383)])) rfl (hb hby at_428)) ?_
  obtain ⟨_, _, ⟨T397, L397, k397, n397⟩, -, X397, ⟨Lc397, hQ397, l397, y397, z397⟩, st397⟩ := Jvm.LawKit.callS X396 hx (y := mN_43) hown (mvT hZ (own_w hw 205 rfl)) (mvT hZ (own_w hw 206 rfl)) (mvT hZ (own_w hw 2 rfl)) (mvT hZ (own_w hw 207 rfl)) (by decide) (backOf (W := 0) (rmpd l Z a0 hw [] b383 r396 n10 (1 : Int32) vv (10 : Int64) k383 nn e_11  T396.heap n0 Z0 Vq396 g_b383 (by decide) hp11 (by omega) (fun q => by rw [own_ltI, show (1 : Int32).toInt = 1 by decide] at q; omega)) hZ (own_w hw 207 rfl) (own_w hw 2 rfl) (by decide) (by decide)) (g := (mkF m 431 #[.val (.int p1), .val (.int p2), .val (.int p3), .val (.int p4), .val (.int fk), .val (.int mk), .val w362, .val w363, .val (.ref a366), .val (.ref u367), .val (.ref u368), .val (.long vv), .second, .val (.int neg), .val (.int n10), .val (.int nn), .val (.ref b383), .val (.int r396)] [(.long (10 : Int64)), (.long vv), (.int (1 : Int32)), (.int n10), (.int r396), (.ref b383)])) rfl (by rw [hml]; rfl) (argsL := [(.ref b383), (.int r396), (.int n10), (.int (1 : Int32)), (.long vv), (.long (10 : Int64))]) (rest := []) (lenOf pd_34 rfl) rfl (by show 2 * 0 + _ ≤ _; exact Nat.le_of_eq rfl) (hb hby at_431) (fun _ _ => ⟨rfl, rfl, (by decide : 25 + 0 ≤ _), (by decide : 361 + 0 ≤ _)⟩)
  dsimp only [Pt.U, Pt.locs, Pt.cells, Pt.slots] at X397 l397 y397 z397 st397 hQ397
  rw [l397, y397, z397] at X397
  obtain ⟨r397, rfl, Nq397, Kp397, hr397, Vq397⟩ := hQ397
  have N397 := Fr.app N396 Nq397
  have nst_b383 := Vq396.nostat
  replace Z0 := Nat.le_trans Z0 Kp397.1
  replace SC := own_staKeep SC Kp397 (nsS nst_b383 ns0)
  replace Es366 := Es366.keep Kp397
  replace Cq366 := Cq366.keep Kp397 (ninS ne_a366_b383 nin0)
  replace Fq366 := Fq366.keep Kp397 (ninS ne_a366_b383 nin0)
  replace Vq366 := Vq366.keep Kp397 (ninS ne_u366_b383 nin0)
  replace hkS := Nat.le_trans hkS Kp397.1
  replace Vq367 := Vq367.keep Kp397 (ninS ne_u367_b383 nin0)
  replace Vq368 := Vq368.keep Kp397 (ninS ne_u368_b383 nin0)
  refine own_of (U' := (T397.setTop (mkF m 434 #[.val (.int p1), .val (.int p2), .val (.int p3), .val (.int p4), .val (.int fk), .val (.int mk), .val w362, .val w363, .val (.ref a366), .val (.ref u367), .val (.ref u368), .val (.long vv), .second, .val (.int neg), .val (.int n10), .val (.int nn), .val (.ref b383), .val (.int r396)] [(.int r397)]))) (st397) ?_
  refine own_istore X397 hx hby at_434 (l' := #[.val (.int p1), .val (.int p2), .val (.int p3), .val (.int p4), .val (.int fk), .val (.int mk), .val w362, .val w363, .val (.ref a366), .val (.ref u367), .val (.ref u368), .val (.long vv), .second, .val (.int neg), .val (.int n10), .val (.int nn), .val (.ref b383), .val (.int r397)]) rfl ?_
  have pl1 := own_pdl n10 (1 : Int32) vv (10 : Int64)
  rw [show (1 : Int32).toInt = 1 by decide] at pl1
  obtain ⟨e_12, he_12⟩ : ∃ q : List Int32, q = (e_11 ++ own_pd n10 (1 : Int32) vv (10 : Int64)) := ⟨_, rfl⟩
  rw [← he_12] at Vq397
  have l12 : e_12.length = e_11.length + (own_pd n10 (1 : Int32) vv (10 : Int64)).length := by rw [he_12, List.length_append]
  have hp12 : r397.toInt = (e_12.length : Int) := by rw [hr397, l12]; omega
  have in1 : (1 < n10.toInt ∧ (e_12.length : Int) = e_3.length + n10.toInt - 1) ∨ (n10.toInt ≤ 1 ∧ e_12.length = e_3.length) := by omega
  clear pl1 in2
  refine own_aload X397 hx hby at_436 rfl rfl ?_
  refine own_iload X397 hx hby at_438 rfl ?_
  refine own_iload X397 hx hby at_440 rfl ?_
  refine own_iconst X397 hx hby 0 at_442 rfl ?_
  refine own_lload X397 hx hby at_443 rfl ?_
  refine own_lconst X397 hx hby 1 at_445 rfl ?_
  obtain ⟨_, _, ⟨T398, L398, k398, n398⟩, -, X398, ⟨Lc398, hQ398, l398, y398, z398⟩, st398⟩ := Jvm.LawKit.callS X397 hx (y := mN_43) hown (mvT hZ (own_w hw 205 rfl)) (mvT hZ (own_w hw 206 rfl)) (mvT hZ (own_w hw 2 rfl)) (mvT hZ (own_w hw 207 rfl)) (by decide) (backOf (W := 0) (rmpd l Z a0 hw [] b383 r397 n10 (0 : Int32) vv (1 : Int64) k383 nn e_12  T397.heap n0 Z0 Vq397 g_b383 (by decide) hp12 (by omega) (fun q => by rw [own_ltI, show (0 : Int32).toInt = 0 by decide] at q; omega)) hZ (own_w hw 207 rfl) (own_w hw 2 rfl) (by decide) (by decide)) (g := (mkF m 446 #[.val (.int p1), .val (.int p2), .val (.int p3), .val (.int p4), .val (.int fk), .val (.int mk), .val w362, .val w363, .val (.ref a366), .val (.ref u367), .val (.ref u368), .val (.long vv), .second, .val (.int neg), .val (.int n10), .val (.int nn), .val (.ref b383), .val (.int r397)] [(.long (1 : Int64)), (.long vv), (.int (0 : Int32)), (.int n10), (.int r397), (.ref b383)])) rfl (by rw [hml]; rfl) (argsL := [(.ref b383), (.int r397), (.int n10), (.int (0 : Int32)), (.long vv), (.long (1 : Int64))]) (rest := []) (lenOf pd_34 rfl) rfl (by show 2 * 0 + _ ≤ _; exact Nat.le_of_eq rfl) (hb hby at_446) (fun _ _ => ⟨rfl, rfl, (by decide : 25 + 0 ≤ _), (by decide : 361 + 0 ≤ _)⟩)
  dsimp only [Pt.U, Pt.locs, Pt.cells, Pt.slots] at X398 l398 y398 z398 st398 hQ398
  rw [l398, y398, z398] at X398
  obtain ⟨r398, rfl, Nq398, Kp398, hr398, Vq398⟩ := hQ398
  have N398 := Fr.app N397 Nq398
  have nst_b383 := Vq397.nostat
  replace Z0 := Nat.le_trans Z0 Kp398.1
  replace SC := own_staKeep SC Kp398 (nsS nst_b383 ns0)
  replace Es366 := Es366.keep Kp398
  replace Cq366 := Cq366.keep Kp398 (ninS ne_a366_b383 nin0)
  replace Fq366 := Fq366.keep Kp398 (ninS ne_a366_b383 nin0)
  replace Vq366 := Vq366.keep Kp398 (ninS ne_u366_b383 nin0)
  replace hkS := Nat.le_trans hkS Kp398.1
  replace Vq367 := Vq367.keep Kp398 (ninS ne_u367_b383 nin0)
  replace Vq368 := Vq368.keep Kp398 (ninS ne_u368_b383 nin0)
  refine own_of (U' := (T398.setTop (mkF m 449 #[.val (.int p1), .val (.int p2), .val (.int p3), .val (.int p4), .val (.int fk), .val (.int mk), .val w362, .val w363, .val (.ref a366), .val (.ref u367), .val (.ref u368), .val (.long vv), .second, .val (.int neg), .val (.int n10), .val (.int nn), .val (.ref b383), .val (.int r397)] [(.int r398)]))) (st398) ?_
  refine own_istore X398 hx hby at_449 (l' := #[.val (.int p1), .val (.int p2), .val (.int p3), .val (.int p4), .val (.int fk), .val (.int mk), .val w362, .val w363, .val (.ref a366), .val (.ref u367), .val (.ref u368), .val (.long vv), .second, .val (.int neg), .val (.int n10), .val (.int nn), .val (.ref b383), .val (.int r398)]) rfl ?_
  have pl0 := own_pdl n10 (0 : Int32) vv (1 : Int64)
  rw [show (0 : Int32).toInt = 0 by decide] at pl0
  obtain ⟨e_13, he_13⟩ : ∃ q : List Int32, q = (e_12 ++ own_pd n10 (0 : Int32) vv (1 : Int64)) := ⟨_, rfl⟩
  rw [← he_13] at Vq398
  have l13 : e_13.length = e_12.length + (own_pd n10 (0 : Int32) vv (1 : Int64)).length := by rw [he_13, List.length_append]
  have hp13 : r398.toInt = (e_13.length : Int) := by rw [hr398, l13]; omega
  have in0 : (0 < n10.toInt ∧ (e_13.length : Int) = e_3.length + n10.toInt - 0) ∨ (n10.toInt ≤ 0 ∧ e_13.length = e_3.length) := by omega
  clear pl0 in1
  have l13b : (e_13.length : Int) = e_3.length + n10.toInt := by omega
  clear in0
  replace Vq398 := Arv.pad Vq398 (own_padk e_13 1)
  replace Vq398 : Arv Z T398.heap b383 k383 .char nn (List.map Value.int (e_13 ++ [(0 : Int32)])) (.int (0 : Int32)) := Vq398
  refine own_aload X398 hx hby at_451 rfl rfl ?_
  refine own_iload X398 hx hby at_453 rfl ?_
  refine own_bipush X398 hx hby 58 at_455 rfl ?_
  obtain ⟨cl399, Ar399, qa399, Sa399, Na399, Ha399, Ga399⟩ := Vq398
  have hin399 : ¬ (r398 < 0 ∨ cl399.slots.size ≤ (r398).toNatClampNeg) := inb_of Sa399 ⟨own_ge0 (by rw [hp13]; omega), by rw [own_ltI, hp13]; omega⟩
  obtain ⟨T399, h399, X399, e399, W399, st399⟩ := stC X398 hx hZ rfl Ar399 (j := r398) hin399 (g := (mkF m 457 #[.val (.int p1), .val (.int p2), .val (.int p3), .val (.int p4), .val (.int fk), .val (.int mk), .val w362, .val w363, .val (.ref a366), .val (.ref u367), .val (.ref u368), .val (.long vv), .second, .val (.int neg), .val (.int n10), .val (.int nn), .val (.ref b383), .val (.int r398)] [(.int (58 : Int32)), (.int r398), (.ref b383)])) rfl rfl (hb hby at_457)
  replace Vq398 : Arv Z h399 b383 k383 .char nn (List.map Value.int (e_13 ++ [nar .char (58 : Int32)])) (.int (0 : Int32)) := by have q := Arv.set Ar399 qa399 Sa399 Na399 Ha399 Ga399 (fits_nar_char _) W399 (e_13.length + 0) (own_clamp (by rw [hp13]; rfl)) (by rw [List.length_map, List.length_append]; exact Nat.add_lt_add_left (by show 0 < 1; decide) _); rw [← List.map_set, List.set_append_right _ _ (Nat.le_add_right _ _), Nat.add_sub_cancel_left] at q; exact q
  replace Z0 := Nat.le_trans Z0 (Keep.of_wr W399).1
  replace SC := SC.wr W399
  replace Es366 := Es366.wr W399
  replace Cq366 := Cq366.other W399 (Or.inl ne_a366_b383)
  replace Fq366 := Fq366.other W399 (Or.inl ne_a366_b383)
  replace Vq366 := Vq366.other W399 ne_u366_b383
  replace hkS := Nat.le_trans hkS (Keep.of_wr W399).1
  replace Vq367 := Vq367.other W399 ne_u367_b383
  replace Vq368 := Vq368.other W399 ne_u368_b383
  have N399 := Fr.snoc X399 N398 g_b383
  refine own_of (U' := (T399.setTop (mkF m 458 #[.val (.int p1), .val (.int p2), .val (.int p3), .val (.int p4), .val (.int fk), .val (.int mk), .val w362, .val w363, .val (.ref a366), .val (.ref u367), .val (.ref u368), .val (.long vv), .second, .val (.int neg), .val (.int n10), .val (.int nn), .val (.ref b383), .val (.int r398)] []))) (st399) ?_
  refine own_iload X399 hx hby at_458 rfl ?_
  refine own_iconst X399 hx hby 1 at_460 rfl ?_
  refine own_iadd X399 hx hby at_461 ?_
  refine own_istore X399 hx hby at_462 (l' := #[.val (.int p1), .val (.int p2), .val (.int p3), .val (.int p4), .val (.int fk), .val (.int mk), .val w362, .val w363, .val (.ref a366), .val (.ref u367), .val (.ref u368), .val (.long vv), .second, .val (.int neg), .val (.int n10), .val (.int nn), .val (.ref b383), .val (.int (r398 + (1 : Int32)))]) rfl ?_
  obtain ⟨q14, hq14⟩ : ∃ z, z = (r398 + (1 : Int32)) := ⟨_, rfl⟩
  refine own_eq (U' := (T399.setTop (mkF m 464 #[.val (.int p1), .val (.int p2), .val (.int p3), .val (.int p4), .val (.int fk), .val (.int mk), .val w362, .val w363, .val (.ref a366), .val (.ref u367), .val (.ref u368), .val (.long vv), .second, .val (.int neg), .val (.int n10), .val (.int nn), .val (.ref b383), .val (.int q14)] []))) (by rw [hq14]) ?_
  obtain ⟨e_14, he_14⟩ : ∃ q : List Int32, q = (e_13 ++ [nar .char (58 : Int32)]) := ⟨_, rfl⟩
  rw [← he_14] at Vq398
  have l14 : e_14.length = e_13.length + 1 := by rw [he_14, List.length_append]; rfl
  have hp14 : q14.toInt = (e_14.length : Int) := by rw [hq14, l14]; exact own_inc hp13 (by omega)
  replace Vq398 := Arv.pad Vq398 (own_padk e_14 1)
  replace Vq398 : Arv Z h399 b383 k383 .char nn (List.map Value.int (e_14 ++ [(0 : Int32)])) (.int (0 : Int32)) := Vq398
  refine own_aload X399 hx hby at_464 rfl rfl ?_
  refine own_iload X399 hx hby at_466 rfl ?_
  refine own_bipush X399 hx hby 32 at_468 rfl ?_
  obtain ⟨cl400, Ar400, qa400, Sa400, Na400, Ha400, Ga400⟩ := Vq398
  have hin400 : ¬ (q14 < 0 ∨ cl400.slots.size ≤ (q14).toNatClampNeg) := inb_of Sa400 ⟨own_ge0 (by rw [hp14]; omega), by rw [own_ltI, hp14]; omega⟩
  obtain ⟨T400, h400, X400, e400, W400, st400⟩ := stC X399 hx hZ e399 Ar400 (j := q14) hin400 (g := (mkF m 470 #[.val (.int p1), .val (.int p2), .val (.int p3), .val (.int p4), .val (.int fk), .val (.int mk), .val w362, .val w363, .val (.ref a366), .val (.ref u367), .val (.ref u368), .val (.long vv), .second, .val (.int neg), .val (.int n10), .val (.int nn), .val (.ref b383), .val (.int q14)] [(.int (32 : Int32)), (.int q14), (.ref b383)])) rfl rfl (hb hby at_470)
  replace Vq398 : Arv Z h400 b383 k383 .char nn (List.map Value.int (e_14 ++ [nar .char (32 : Int32)])) (.int (0 : Int32)) := by have q := Arv.set Ar400 qa400 Sa400 Na400 Ha400 Ga400 (fits_nar_char _) W400 (e_14.length + 0) (own_clamp (by rw [hp14]; rfl)) (by rw [List.length_map, List.length_append]; exact Nat.add_lt_add_left (by show 0 < 1; decide) _); rw [← List.map_set, List.set_append_right _ _ (Nat.le_add_right _ _), Nat.add_sub_cancel_left] at q; exact q
  replace Z0 := Nat.le_trans Z0 (Keep.of_wr W400).1
  replace SC := SC.wr W400
  replace Es366 := Es366.wr W400
  replace Cq366 := Cq366.other W400 (Or.inl ne_a366_b383)
  replace Fq366 := Fq366.other W400 (Or.inl ne_a366_b383)
  replace Vq366 := Vq366.other W400 ne_u366_b383
  replace hkS := Nat.le_trans hkS (Keep.of_wr W400).1
  replace Vq367 := Vq367.other W400 ne_u367_b383
  replace Vq368 := Vq368.other W400 ne_u368_b383
  have N400 := Fr.snoc X400 N399 g_b383
  refine own_of (U' := (T400.setTop (mkF m 471 #[.val (.int p1), .val (.int p2), .val (.int p3), .val (.int p4), .val (.int fk), .val (.int mk), .val w362, .val w363, .val (.ref a366), .val (.ref u367), .val (.ref u368), .val (.long vv), .second, .val (.int neg), .val (.int n10), .val (.int nn), .val (.ref b383), .val (.int q14)] []))) (st400) ?_
  refine own_iload X400 hx hby at_471 rfl ?_
  refine own_iconst X400 hx hby 1 at_473 rfl ?_
  refine own_iadd X400 hx hby at_474 ?_
  refine own_istore X400 hx hby at_475 (l' := #[.val (.int p1), .val (.int p2), .val (.int p3), .val (.int p4), .val (.int fk), .val (.int mk), .val w362, .val w363, .val (.ref a366), .val (.ref u367), .val (.ref u368), .val (.long vv), .second, .val (.int neg), .val (.int n10), .val (.int nn), .val (.ref b383), .val (.int (q14 + (1 : Int32)))]) rfl ?_
  obtain ⟨q15, hq15⟩ : ∃ z, z = (q14 + (1 : Int32)) := ⟨_, rfl⟩
  refine own_eq (U' := (T400.setTop (mkF m 477 #[.val (.int p1), .val (.int p2), .val (.int p3), .val (.int p4), .val (.int fk), .val (.int mk), .val w362, .val w363, .val (.ref a366), .val (.ref u367), .val (.ref u368), .val (.long vv), .second, .val (.int neg), .val (.int n10), .val (.int nn), .val (.ref b383), .val (.int q15)] []))) (by rw [hq15]) ?_
  obtain ⟨e_15, he_15⟩ : ∃ q : List Int32, q = (e_14 ++ [nar .char (32 : Int32)]) := ⟨_, rfl⟩
  rw [← he_15] at Vq398
  have l15 : e_15.length = e_14.length + 1 := by rw [he_15, List.length_append]; rfl
  have hp15 : q15.toInt = (e_15.length : Int) := by rw [hq15, l15]; exact own_inc hp14 (by omega)
  refine own_aload X400 hx hby at_477 rfl rfl ?_
  refine own_iload X400 hx hby at_479 rfl ?_
  refine own_aload X400 hx hby at_481 rfl rfl ?_
  obtain ⟨_, _, ⟨T401, L401, k401, n401⟩, -, X401, ⟨Lc401, hQ401, l401, y401, z401⟩, st401⟩ := Jvm.LawKit.callS X400 hx (y := mN_42) hown (mvT hZ (own_w hw 202 rfl)) (mvT hZ (own_w hw 203 rfl)) (mvT hZ (own_w hw 2 rfl)) (mvT hZ (own_w hw 204 rfl)) (by decide) (backOf (W := 0) (rmc4 l Z a0 hw [] b383 q15 u368 k383 ku368 nn e_15 mk p3 h400 n0 Z0 Vq398 Vq368 g_b383 ne_u368_b383 hp15 (by omega) (by rw [hnnI]; omega) hk_mk) hZ (own_w hw 204 rfl) (own_w hw 2 rfl) (by decide) (by decide)) (g := (mkF m 483 #[.val (.int p1), .val (.int p2), .val (.int p3), .val (.int p4), .val (.int fk), .val (.int mk), .val w362, .val w363, .val (.ref a366), .val (.ref u367), .val (.ref u368), .val (.long vv), .second, .val (.int neg), .val (.int n10), .val (.int nn), .val (.ref b383), .val (.int q15)] [(.ref u368), (.int q15), (.ref b383)])) rfl (by rw [hml]; rfl) (argsL := [(.ref b383), (.int q15), (.ref u368)]) (rest := []) (lenOf pd_33 rfl) rfl (by show 2 * 0 + _ ≤ _; exact Nat.le_of_eq rfl) (hb hby at_483) (fun _ _ => ⟨rfl, e400, (by decide : 25 + 0 ≤ _), (by decide : 361 + 0 ≤ _)⟩)
  dsimp only [Pt.U, Pt.locs, Pt.cells, Pt.slots] at X401 l401 y401 z401 st401 hQ401
  rw [l401, y401, z401] at X401
  obtain ⟨r401, rfl, Nq401, Kp401, hr401, Vq401⟩ := hQ401
  have N401 := Fr.app N400 Nq401
  have nst_b383 := Vq398.nostat
  replace Z0 := Nat.le_trans Z0 Kp401.1
  replace SC := own_staKeep SC Kp401 (nsS nst_b383 ns0)
  replace Es366 := Es366.keep Kp401
  replace Cq366 := Cq366.keep Kp401 (ninS ne_a366_b383 nin0)
  replace Fq366 := Fq366.keep Kp401 (ninS ne_a366_b383 nin0)
  replace Vq366 := Vq366.keep Kp401 (ninS ne_u366_b383 nin0)
  replace hkS := Nat.le_trans hkS Kp401.1
  replace Vq367 := Vq367.keep Kp401 (ninS ne_u367_b383 nin0)
  replace Vq368 := Vq368.keep Kp401 (ninS ne_u368_b383 nin0)
  refine own_of (U' := (T401.setTop (mkF m 486 #[.val (.int p1), .val (.int p2), .val (.int p3), .val (.int p4), .val (.int fk), .val (.int mk), .val w362, .val w363, .val (.ref a366), .val (.ref u367), .val (.ref u368), .val (.long vv), .second, .val (.int neg), .val (.int n10), .val (.int nn), .val (.ref b383), .val (.int q15)] [(.int r401)]))) (st401) ?_
  refine own_istore X401 hx hby at_486 (l' := #[.val (.int p1), .val (.int p2), .val (.int p3), .val (.int p4), .val (.int fk), .val (.int mk), .val w362, .val w363, .val (.ref a366), .val (.ref u367), .val (.ref u368), .val (.long vv), .second, .val (.int neg), .val (.int n10), .val (.int nn), .val (.ref b383), .val (.int r401)]) rfl ?_
  obtain ⟨e_16, he_16⟩ : ∃ q : List Int32, q = (e_15 ++ List.map (nar .char) (own_pt mk p3)) := ⟨_, rfl⟩
  rw [← he_16] at Vq401
  have l16 : e_16.length = e_15.length + (own_pt mk p3).length := by rw [he_16, List.length_append, List.length_map]
  have hp16 : r401.toInt = (e_16.length : Int) := by rw [hr401, l16]; omega
  have hzN : nn.toInt = (e_16.length : Int) := by rw [hnnI]; omega
  refine own_iload X401 hx hby at_488 rfl ?_
  refine own_iload X401 hx hby at_490 rfl ?_
  have hc492_402 : r401 = nn := Int32.toInt_inj.mp (by rw [hp16, hzN])
  refine own_icmpNo X401 hx hby at_492 (teq hc492_402).2 ?_
  refine own_aload X401 hx hby at_495 rfl rfl ?_
  obtain ⟨T403, h403, X403, e403, E403, A403, D403, -, st403⟩ := newO X401 hx hZ hown (own_w hw 5 rfl) (own_w hw 6 rfl) (own_w hw 7 rfl) rfl (g := (mkF m 497 #[.val (.int p1), .val (.int p2), .val (.int p3), .val (.int p4), .val (.int fk), .val (.int mk), .val w362, .val w363, .val (.ref a366), .val (.ref u367), .val (.ref u368), .val (.long vv), .second, .val (.int neg), .val (.int n10), .val (.int nn), .val (.ref b383), .val (.int r401)] [(.ref a366)])) rfl (hb hby at_497) (by decide) (by decide)
  obtain ⟨b403, gz403⟩ : ∃ z, z = T401.heap.size := ⟨_, rfl⟩
  rw [← gz403] at A403 D403 st403
  have g_b403 : n0 ≤ b403 := Nat.le_trans Z0 (Nat.le_of_eq gz403.symm)
  have ne_a366_b403 : a366 ≠ b403 := Nat.ne_of_lt (Nat.lt_of_lt_of_le Es366.lt (Nat.le_of_eq gz403.symm))
  have ne_u366_b403 : u366 ≠ b403 := Nat.ne_of_lt (Nat.lt_of_lt_of_le Vq366.lt (Nat.le_of_eq gz403.symm))
  have ne_u367_b403 : u367 ≠ b403 := Nat.ne_of_lt (Nat.lt_of_lt_of_le Vq367.lt (Nat.le_of_eq gz403.symm))
  have ne_u368_b403 : u368 ≠ b403 := Nat.ne_of_lt (Nat.lt_of_lt_of_le Vq368.lt (Nat.le_of_eq gz403.symm))
  have ne_b383_b403 : b383 ≠ b403 := Nat.ne_of_lt (Nat.lt_of_lt_of_le Vq401.lt (Nat.le_of_eq gz403.symm))
  replace Z0 := Nat.le_trans Z0 E403.1
  replace SC := SC.ext E403
  replace Es366 := Es366.ext E403
  replace Cq366 := Cq366.ext E403
  replace Fq366 := Fq366.ext E403
  replace Vq366 := Vq366.ext E403
  replace hkS := Nat.le_trans hkS E403.1
  replace Vq367 := Vq367.ext E403
  replace Vq368 := Vq368.ext E403
  replace Vq401 := Vq401.ext E403
  have F403_coder : Fld Z h403 b403 "java/lang/String" "coder" "B" (.int (0 : Int32)) := D403 (Or.inr (own_w hw 31 rfl)) (ty := .byte) (by decide)
  have F403_value : Fld Z h403 b403 "java/lang/String" "value" "[B" .null := D403 (Or.inr (own_w hw 33 rfl)) (ty := (.array .byte)) (by decide)
  refine own_of (U' := (T403.setTop (mkF m 500 #[.val (.int p1), .val (.int p2), .val (.int p3), .val (.int p4), .val (.int fk), .val (.int mk), .val w362, .val w363, .val (.ref a366), .val (.ref u367), .val (.ref u368), .val (.long vv), .second, .val (.int neg), .val (.int n10), .val (.int nn), .val (.ref b383), .val (.int r401)] [(.ref b403), (.ref a366)]))) (st403) ?_
  refine own_dup X403 hx hby at_500 rfl ?_
  refine own_aload X403 hx hby at_501 rfl rfl ?_
  obtain ⟨_, _, ⟨T404, L404, k404, n404⟩, -, X404, ⟨Lc404, hQ404, l404, y404, z404⟩, st404⟩ := X403.specialBack hx (y := mN_34) rfl hown (mvT hZ (own_w hw 8 rfl)) (mvT hZ (own_w hw 9 rfl)) (mvT hZ (own_w hw 10 rfl)) (by decide) (backOf (W := 2) (rmsi l Z a0 hw [] b403 b383 k383 nn e_16 g1 h403 n0 Z0 A403 F403_coder F403_value Vq401 g_b403 (by omega) hzN (by omega) (own_plain_all hk_fk hk_mk he_1 he_2 he_3 he_4 he_5 he_6 he_7 he_8 he_9 he_10 he_11 he_12 he_13 he_14 he_15 he_16) SC hg1) hZ (own_w hw 10 rfl) (own_w hw 7 rfl) (by decide) (by decide)) (g := (mkF m 503 #[.val (.int p1), .val (.int p2), .val (.int p3), .val (.int p4), .val (.int fk), .val (.int mk), .val w362, .val w363, .val (.ref a366), .val (.ref u367), .val (.ref u368), .val (.long vv), .second, .val (.int neg), .val (.int n10), .val (.int nn), .val (.ref b383), .val (.int r401)] [(.ref b383), (.ref b403), (.ref b403), (.ref a366)])) rfl (by rw [hml]; rfl) (Steps.refl _) (a := b403) (argsL := [(.ref b383)]) (rest := [(.ref b403), (.ref a366)]) (lenOf pd_29 rfl) rfl (by show 2 * 0 + _ ≤ _; exact Nat.le_of_eq rfl) (hb hby at_503) (fun _ _ => ⟨rfl, e403, (by decide : 26 + 1 ≤ _), (by decide : 365 + 34 ≤ _)⟩)
  dsimp only [Pt.U, Pt.locs, Pt.cells, Pt.slots] at X404 l404 y404 z404 st404 hQ404
  rw [l404, y404, z404] at X404
  obtain ⟨rfl, Nq404, Kp404, u404, ku404, gq404, Cq404, Fq404, Vq404⟩ := hQ404
  have g_u404 : n0 ≤ u404 := Nat.le_trans Z0 gq404
  have ne_a366_u404 : a366 ≠ u404 := Nat.ne_of_lt (Nat.lt_of_lt_of_le Es366.lt gq404)
  have ne_u366_u404 : u366 ≠ u404 := Nat.ne_of_lt (Nat.lt_of_lt_of_le Vq366.lt gq404)
  have ne_u367_u404 : u367 ≠ u404 := Nat.ne_of_lt (Nat.lt_of_lt_of_le Vq367.lt gq404)
  have ne_u368_u404 : u368 ≠ u404 := Nat.ne_of_lt (Nat.lt_of_lt_of_le Vq368.lt gq404)
  have ne_b383_u404 : b383 ≠ u404 := Nat.ne_of_lt (Nat.lt_of_lt_of_le Vq401.lt gq404)
  have ne_b403_u404 : b403 ≠ u404 := Nat.ne_of_lt (Nat.lt_of_lt_of_le A403.lt gq404)
  have N404 := Fr.app N401 Nq404
  have nst_b403 := A403.nostat
  replace Z0 := Nat.le_trans Z0 Kp404.1
  replace SC := own_staKeep SC Kp404 (nsS nst_b403 ns0)
  replace Es366 := Es366.keep Kp404
  replace Cq366 := Cq366.keep Kp404 (ninS ne_a366_b403 nin0)
  replace Fq366 := Fq366.keep Kp404 (ninS ne_a366_b403 nin0)
  replace Vq366 := Vq366.keep Kp404 (ninS ne_u366_b403 nin0)
  replace hkS := Nat.le_trans hkS Kp404.1
  replace Vq367 := Vq367.keep Kp404 (ninS ne_u367_b403 nin0)
  replace Vq368 := Vq368.keep Kp404 (ninS ne_u368_b403 nin0)
  replace Vq401 := Vq401.keep Kp404 (ninS ne_b383_b403 nin0)
  replace A403 := A403.keep Kp404
  refine own_of (U' := (T404.setTop (mkF m 506 #[.val (.int p1), .val (.int p2), .val (.int p3), .val (.int p4), .val (.int fk), .val (.int mk), .val w362, .val w363, .val (.ref a366), .val (.ref u367), .val (.ref u368), .val (.long vv), .second, .val (.int neg), .val (.int n10), .val (.int nn), .val (.ref b383), .val (.int r401)] [(.ref b403), (.ref a366)]))) (fun _ k => st404.trans k) ?_
  have hSl : ((((([] ++ (List.map own_b8 (own_pt fk p1))) ++ own_co) ++ own_num p2) ++ own_cs) ++ (List.map own_b8 (own_pt mk p3))) = List.map own_b8 e_16 := own_plain hneg hvv hN hk_fk hk_mk he_1 he_2 he_3 he_4 he_5 he_6 he_7 he_8 he_9 he_10 he_11 he_12 he_13 he_14 he_15 he_16
  have hSn : nS = nn := Int32.toInt_inj.mp (by rw [hnS, hSl, List.length_map, hzN])
  obtain ⟨cq405, kq405, q405a, q405b, q405c⟩ := isOf hZ rfl Es366
  obtain ⟨_, _, ⟨T405, L405, k405, n405⟩, -, X405, ⟨Lc405, hQ405, l405, y405, z405⟩, st405⟩ := X404.virtualBack hx (y := mN_36) (z := mN_36) hown (mvT hZ (own_w hw 208 rfl)) (mvT hZ (own_w hw 209 rfl)) (notFace_of_selects (args := #[]) (mvT hZ (own_w hw 211 rfl))) (mvT hZ (own_w hw 211 rfl)) (mvT hZ (own_w hw 210 rfl)) (by decide) (backOf (W := 0) (rmeq l Z a0 hw [] a366 b403 g1 u366 u404 ku366 ku404 nS ((((([] ++ (List.map own_b8 (own_pt fk p1))) ++ own_co) ++ own_num p2) ++ own_cs) ++ (List.map own_b8 (own_pt mk p3))) T404.heap n0 Z0 Es366 Cq366 Fq366 A403 Cq404 Fq404 Vq366 (by rw [hSn, hSl]; exact Vq404) hnS SC hg1 ne_a366_b403) hZ (own_w hw 212 rfl) (own_w hw 7 rfl) (by decide) (by decide)) q405a q405c (g := (mkF m 506 #[.val (.int p1), .val (.int p2), .val (.int p3), .val (.int p4), .val (.int fk), .val (.int mk), .val w362, .val w363, .val (.ref a366), .val (.ref u367), .val (.ref u368), .val (.long vv), .second, .val (.int neg), .val (.int n10), .val (.int nn), .val (.ref b383), .val (.int r401)] [(.ref b403), (.ref a366)])) rfl (by rw [hml]; rfl) (Steps.refl _) (argsL := [(.ref b403)]) (rest := []) (lenOf pd_35 rfl) rfl (by show 2 * 0 + _ ≤ _; exact Nat.le_of_eq rfl) (hb hby at_506) (fun _ _ => ⟨rfl, rfl, (by decide : 27 + 0 ≤ _), (by decide : 399 + 0 ≤ _)⟩)
  dsimp only [Pt.U, Pt.locs, Pt.cells, Pt.slots] at X405 l405 y405 z405 st405 hQ405
  rw [l405, y405, z405] at X405
  obtain ⟨rfl, Nq405, e405⟩ := hQ405
  have N405 := Fr.app N404 Nq405
  refine own_of (U' := (T405.setTop (mkF m 509 #[.val (.int p1), .val (.int p2), .val (.int p3), .val (.int p4), .val (.int fk), .val (.int mk), .val w362, .val w363, .val (.ref a366), .val (.ref u367), .val (.ref u368), .val (.long vv), .second, .val (.int neg), .val (.int n10), .val (.int nn), .val (.ref b383), .val (.int r401)] [(.int (1 : Int32))]))) (fun _ k => st405.trans k) ?_
  have hc509_406 : ¬ ((1 : Int32) = (0 : Int32)) := by decide
  refine own_ifNo X405 hx hby at_509 ((if0 _ _).trans (feq hc509_406).1) ?_
  refine own_iconst X405 hx hby 1 at_512 rfl ?_
  refine own_goto X405 hx hby 513 517 at_513 (by decide) (by decide) ?_
  exact own_retNW X405 hx hlk hS (by rw [e405]; exact hkS) (t := .boolean) Bd.returns (by simp) (hb hby at_517) (by decide) (by decide) (⟨rfl, N405⟩)
set_option maxRecDepth 65536 in
set_option maxHeartbeats 40000000 in
theorem comes_1 {Post : Tables → Env → Array Value → State → Outcome → State → Prop} (hpost : ∀ tb e args s v u, (limb_1_1.after args s (.returned v) u = true ∧ limb_1_2.after args s (.returned v) u = true ∧ True) → ReturnedEndW s (.returned v) u (Jvm.fieldLocs frame_1_writes args s ++ Jvm.arrayLocs frame_1_arrays args s ++ Jvm.staticLocs frame_1_statics s) 48 3456 → Post tb e args s (.returned v) u) :
    ArmFor flags0 classFile x code maxLocals ret World_1 tables_1 room_1 Calls_1 rest_1 Pre_1 Post := by
  intro l hfl _ _ p e ha hc hk s m args below hf hA hF happ hP
  obtain ⟨hcalls, hrest, hpre⟩ := hP
  obtain ⟨-, -, -, hnamed, -, -, -, hat⟩ := (Spec.applies_iff hf).mp happ
  obtain ⟨hg, hn⟩ := and_e (Cond.before_iff.mp (show (Jvm.Cond.and given_1 narrow_1).before args s = true from hpre))
  obtain ⟨hcount, hv0⟩ := and_e hg
  obtain ⟨hi0, hv1⟩ := and_e hv0
  obtain ⟨hi1, hv2⟩ := and_e hv1
  obtain ⟨hi2, hv3⟩ := and_e hv2
  obtain ⟨w0, w1, w2, w3, rfl⟩ : ∃ w0 w1 w2 w3 : Value, args = #[w0, w1, w2, w3] := by
    have hs : args.size = 4 := by simpa [Cond.value, given_1] using hcount
    obtain ⟨L⟩ := args
    match L, hs with
    | [w0, w1, w2, w3], _ => exact ⟨w0, w1, w2, w3, rfl⟩
  have hw := fun d (hd : d ∈ tables_1) => atoms_spec (ws := Jvm.Cond.code x code maxLocals ret :: tables_1) hat d (List.mem_cons_of_mem _ hd)
  have hfit : Fit s := fun {y c} hc i hi => by
    obtain ⟨ha, rfl⟩ := Array.getElem?_eq_some_iff.mp hc
    have q := List.all_eq_true.mp ((Array.all_eq_true_iff_forall_mem.mp hF) _ (Array.getElem_mem ha)) i (List.mem_range.mpr hi)
    simpa [Array.getElem?_eq_getElem hi] using q
  obtain ⟨hsets, hown0⟩ := atoms_of _ (rest_1_c_eq ▸ (show rest_1_c.before _ s = true from hrest))
  have hr0 := Cond.before_iff.mp hown0
  obtain ⟨i0, ei0⟩ := is_v hi0
  obtain rfl : w0 = (.int i0) := Option.some.inj ei0
  obtain ⟨i1, ei1⟩ := is_v hi1
  obtain rfl : w1 = (.int i1) := Option.some.inj ei1
  obtain ⟨i2, ei2⟩ := is_v hi2
  obtain rfl : w2 = (.int i2) := Option.some.inj ei2
  obtain ⟨i3, ei3⟩ := is_v hv3
  obtain rfl : w3 = (.int i3) := Option.some.inj ei3
  obtain ⟨g1, eg1⟩ := is_v (Cond.before_iff.mp (hsets _ (List.mem_of_getElem? (i := 1) rfl)))
  have SC : Sta s s.heap "java/lang/String" "COMPACT_STRINGS" "Z" (.int g1) := Sta.start eg1 (Or.inl (hsets _ (List.mem_of_getElem? (i := 0) rfl)))
  have hg1 : ¬ (g1 = (0 : Int32)) := gotF (Cond.eq_ints eg1 (Term.int_eval 0)) (not_v (Cond.before_iff.mp (hsets _ (List.mem_of_getElem? (i := 2) rfl))))
  obtain ⟨ao, ko, SO, Vo⟩ := own_dtab (nm := "DigitOnes") (f := own_o) hfit (hsets _ (List.mem_of_getElem? (i := 11) rfl)) (hsets _ (List.mem_of_getElem? (i := 12) rfl)) (hsets _ (List.mem_of_getElem? (i := 13) rfl)) (hsets _ (List.mem_of_getElem? (i := 14) rfl)) (hw _ (List.mem_of_getElem? (i := 23) rfl)) own_valO
  obtain ⟨at_, kt, ST, Vt⟩ := own_dtab (nm := "DigitTens") (f := own_t) hfit (hsets _ (List.mem_of_getElem? (i := 16) rfl)) (hsets _ (List.mem_of_getElem? (i := 17) rfl)) (hsets _ (List.mem_of_getElem? (i := 18) rfl)) (hsets _ (List.mem_of_getElem? (i := 19) rfl)) (hw _ (List.mem_of_getElem? (i := 23) rfl)) own_valT
  have hEL : EW s #[.int i0, .int i1, .int i2, .int i3] consts_1 := EW.cons (hw _ (List.mem_of_getElem? (i := 125) rfl)) (by decide +kernel) (EW.cons (hw _ (List.mem_of_getElem? (i := 148) rfl)) (by decide +kernel) (EW.cons (hw _ (List.mem_of_getElem? (i := 34) rfl)) (by decide +kernel) EW.nil))
  have HH : CHv s consts_1 s.vm s.heap := CHv.start hEL hcalls.1 (hsets _ (List.mem_of_getElem? (i := 2) rfl)) (hw _ (List.mem_of_getElem? (i := 23) rfl)) (hw _ (List.mem_of_getElem? (i := 6) rfl))
  obtain ⟨n, o, h1, h2, h3, _, L, rfl, ⟨rfl, N⟩, hq⟩ := rm0 l s _ hw tables_1 i0 i1 i2 i3 g1 ao at_ ko kt s.heap s.heap.size (Nat.le_refl _) hEL SC hg1 SO Vo ST Vt p e ha hc hk s m _ below hf ((Spec.applies_iff_loose hf).mp happ).1 ⟨rfl, State.Warmed39.refl s, rfl, HH⟩ trivial
  exact ⟨n, _, h1, h2, h3, hpost _ _ _ _ _ _ ⟨Cond.after_iff.mpr rfl, Cond.after_iff.mpr (eq_i res_at (Term.int_eval (1)) rfl), trivial⟩ ⟨hq.1, hq.2.1, hq.2.2.1, (hq.2.2.2.sift fun y hy => Or.inr (N y hy)).mono (by decide) (by decide)⟩⟩
theorem main_1_1 : Claimed_1_1 := comes_1 fun _ _ _ _ _ _ h hF => ⟨h.1, hF⟩
theorem main_1_2 : Claimed_1_2 := comes_1 fun _ _ _ _ _ _ h hF => ⟨h.2.1, hF⟩
end Jvm.Pilot.@@N@@
namespace Jvm.Pilot.@@N@@
open Jvm Jvm.ClassFile Sem Op Lib Jvm.Free Jvm.Stand Jvm.Pilot.@@N@@.Jvm.D
/-! MADE BY PROGRAM (witnessworld.py) out of the Statement's table words and the real class files: 29 classes; the members and pool entries that the words name. The judged class is class 1, her method 5. -/
namespace start1
open Jvm.ClassFile
def u (s : String) : CpInfo := .utf8 (stringToUtf16 s)
/-- a pool by its gaps: so many unusable entries, then the entry; so many at the end -/
def gap : Nat → List CpInfo → List CpInfo
  | 0, r => r
  | n + 1, r => .unusable :: gap n r
def poolList (es : List (Nat × CpInfo)) (last : Nat) : List CpInfo := es.foldr (fun e r => gap e.1 (e.2 :: r)) (gap last [])
def pool (es : List (Nat × CpInfo)) (last : Nat) : Array CpInfo := ⟨poolList es last⟩
def fileOf (pool : Array CpInfo) (this : Nat) (attrs : Array Attribute := #[]) (ms : Array MethodInfo := #[]) (fl : Nat := 33) (sup : Nat := 0) (ifs : Array Nat := #[]) (fds : Array FieldInfo := #[]) : ClassFile where
  minorVersion := 0
  majorVersion := 65
  constantPool := pool
  accessFlags := fl
  thisClass := this
  superClass := sup
  interfaces := ifs
  fields := fds
  methods := ms
  attributes := attrs
def plain (name : String) (sup : Option ClassId) : Class where
  name := name
  kind := .ordinary
  loader := none
  accessFlags := 33
  super := sup
  interfaces := #[]
  cf := none
  fields := #[]
  methods := #[]
  instanceTypes := #[]
  staticTypes := #[]
  resolved := #[]
  callSites := []
  init := .initialized
  statics := none
  mirror := none

def pool0 : Array CpInfo := pool [(5, u "<init>"), (0, u "()V"), (1, .class_ 10), (1, u "java/lang/Object"), (85, u "clone"), (0, u "()Ljava/lang/Object;")] 26

def k0c0 : Code := { maxStack := 0, maxLocals := 1, code := object_method_1_code, exceptionTable := #[], attributes := #[] }
def k0m0 : Method := { name := "<init>", desc := "()V", sig := { parameters := [], returnType := none }, accessFlags := 1, code := some k0c0 }
def k0m1 : Method := { name := "clone", desc := "()Ljava/lang/Object;", sig := { parameters := [], returnType := some (.object "java/lang/Object") }, accessFlags := 260, code := none }
/-- java/lang/Object -/
def k0 : Class := { plain "java/lang/Object" none with
  accessFlags := 33
  interfaces := #[]
  cf := some (fileOf pool0 8 #[] #[{ accessFlags := 1, nameIndex := 5, descriptorIndex := 6, attributes := #[] }, { accessFlags := 260, nameIndex := 96, descriptorIndex := 97, attributes := #[] }] 33 0 #[] #[])
  fields := #[]
  methods := #[k0m0, k0m1]
  instanceTypes := #[]
  staticTypes := #[]
  resolved := Array.replicate 124 none
  statics := none }

def pool1 : Array CpInfo := pool [(2, .class_ 4), (1, u "java/lang/Object"), (0, u "<init>"), (0, u "()V"), (0, .class_ 8), (0, u "java/lang/String"), (0, .methodref 7 10), (0, .nameAndType 5 11), (0, u "([C)V"), (0, .long 10), (1, .methodref 15 16), (0, .class_ 17), (0, .nameAndType 18 19), (0, u "com/example/handover/handover/ProblemToStringPinLaw"), (0, u "make"), (0, u "(II)Ljava/lang/String;"), (0, .class_ 21), (0, u "com/example/handover/handover/ConfigException$Problem"), (0, .methodref 20 23), (0, .nameAndType 5 24), (0, u "(Ljava/lang/String;ILjava/lang/String;)V"), (0, .methodref 20 26), (0, .nameAndType 27 28), (0, u "toString"), (0, u "()Ljava/lang/String;"), (0, .methodref 15 30), (0, .nameAndType 31 32), (0, u "part"), (0, u "(II)[C"), (0, .long 100), (1, .long 1000), (1, .long 10000), (1, .long 100000), (1, .long 1000000), (1, .long 10000000), (1, .long 100000000), (1, .long 1000000000), (1, .methodref 15 50), (0, .nameAndType 51 52), (0, u "copy4"), (0, u "([CI[C)I"), (0, .methodref 15 54), (0, .nameAndType 55 56), (0, u "putDigit"), (0, u "([CIIIJJ)I"), (0, .methodref 7 58), (0, .nameAndType 59 60), (0, u "equals"), (0, u "(Ljava/lang/Object;)Z"), (5, u "law"), (0, u "(IIII)Z")] 6

def k1m0 : Method := { name := "<init>", desc := "()V", sig := { parameters := [], returnType := none }, accessFlags := 2, code := none }
def k1c1 : Code := { maxStack := 4, maxLocals := 3, code := method_2_code, exceptionTable := #[], attributes := #[] }
def k1m1 : Method := { name := "make", desc := "(II)Ljava/lang/String;", sig := { parameters := [.int, .int], returnType := some (.object "java/lang/String") }, accessFlags := 10, code := some k1c1 }
def k1c2 : Code := { maxStack := 4, maxLocals := 3, code := method_3_code, exceptionTable := #[], attributes := #[] }
def k1m2 : Method := { name := "part", desc := "(II)[C", sig := { parameters := [.int, .int], returnType := some (.array .char) }, accessFlags := 10, code := some k1c2 }
def k1c3 : Code := { maxStack := 4, maxLocals := 4, code := method_4_code, exceptionTable := #[], attributes := #[] }
def k1m3 : Method := { name := "copy4", desc := "([CI[C)I", sig := { parameters := [(.array .char), .int, (.array .char)], returnType := some .int }, accessFlags := 10, code := some k1c3 }
def k1c4 : Code := { maxStack := 7, maxLocals := 8, code := method_5_code, exceptionTable := #[], attributes := #[] }
def k1m4 : Method := { name := "putDigit", desc := "([CIIIJJ)I", sig := { parameters := [(.array .char), .int, .int, .int, .long, .long], returnType := some .int }, accessFlags := 10, code := some k1c4 }
def k1c5 : Code := { maxStack := 8, maxLocals := 18, code := code, exceptionTable := #[], attributes := #[] }
def k1m5 : Method := { name := "law", desc := "(IIII)Z", sig := { parameters := [.int, .int, .int, .int], returnType := some .boolean }, accessFlags := 9, code := some k1c5 }
/-- com/example/handover/handover/ProblemToStringPinLaw -/
def k1 : Class := { plain "com/example/handover/handover/ProblemToStringPinLaw" (some 0) with
  accessFlags := 49
  interfaces := #[]
  cf := some (fileOf pool1 15 #[] #[{ accessFlags := 2, nameIndex := 5, descriptorIndex := 6, attributes := #[] }, { accessFlags := 10, nameIndex := 18, descriptorIndex := 19, attributes := #[] }, { accessFlags := 10, nameIndex := 31, descriptorIndex := 32, attributes := #[] }, { accessFlags := 10, nameIndex := 51, descriptorIndex := 52, attributes := #[] }, { accessFlags := 10, nameIndex := 55, descriptorIndex := 56, attributes := #[] }, { accessFlags := 9, nameIndex := 66, descriptorIndex := 67, attributes := #[] }] 49 2 #[] #[])
  fields := #[]
  methods := #[k1m0, k1m1, k1m2, k1m3, k1m4, k1m5]
  instanceTypes := #[]
  staticTypes := #[]
  resolved := Array.replicate 74 none
  statics := none }

def pool2 : Array CpInfo := pool [(1, .class_ 2), (0, u "java/io/Serializable"), (0, .class_ 4), (0, u "java/lang/Object")] 2

/-- java/io/Serializable -/
def k2 : Class := { plain "java/io/Serializable" (some 0) with
  accessFlags := 1537
  interfaces := #[]
  cf := some (fileOf pool2 1 #[] #[] 1537 3 #[] #[])
  fields := #[]
  methods := #[]
  instanceTypes := #[]
  staticTypes := #[]
  resolved := Array.replicate 7 none
  statics := none }

def pool3 : Array CpInfo := pool [(1, .class_ 2), (0, u "java/lang/Comparable"), (0, .class_ 4), (0, u "java/lang/Object")] 7

/-- java/lang/Comparable -/
def k3 : Class := { plain "java/lang/Comparable" (some 0) with
  accessFlags := 1537
  interfaces := #[]
  cf := some (fileOf pool3 1 #[] #[] 1537 3 #[] #[])
  fields := #[]
  methods := #[]
  instanceTypes := #[]
  staticTypes := #[]
  resolved := Array.replicate 12 none
  statics := none }

def pool4 : Array CpInfo := pool [(2, .class_ 4), (1, u "java/lang/CharSequence"), (42, .class_ 48), (0, u "java/lang/CharSequence$1CodePointIterator"), (10, .class_ 60), (0, u "java/lang/CharSequence$1CharIterator"), (5, .class_ 67), (0, u "java/lang/Object")] 63

/-- java/lang/CharSequence -/
def k4 : Class := { plain "java/lang/CharSequence" (some 0) with
  accessFlags := 1537
  interfaces := #[]
  cf := some (fileOf pool4 2 #[.nestMembers #[47, 59]] #[] 1537 66 #[] #[])
  fields := #[]
  methods := #[]
  instanceTypes := #[]
  staticTypes := #[]
  resolved := Array.replicate 131 none
  statics := none }

def pool5 : Array CpInfo := pool [(1, .class_ 2), (0, u "java/lang/constant/Constable"), (0, .class_ 4), (0, u "java/lang/Object")] 6

/-- java/lang/constant/Constable -/
def k5 : Class := { plain "java/lang/constant/Constable" (some 0) with
  accessFlags := 1537
  interfaces := #[]
  cf := some (fileOf pool5 1 #[] #[] 1537 3 #[] #[])
  fields := #[]
  methods := #[]
  instanceTypes := #[]
  staticTypes := #[]
  resolved := Array.replicate 11 none
  statics := none }

def pool6 : Array CpInfo := pool [(1, .class_ 2), (0, u "java/lang/constant/ConstantDesc"), (0, .class_ 4), (0, u "java/lang/Object")] 32

/-- java/lang/constant/ConstantDesc -/
def k6 : Class := { plain "java/lang/constant/ConstantDesc" (some 0) with
  accessFlags := 1537
  interfaces := #[]
  cf := some (fileOf pool6 1 #[] #[] 1537 3 #[] #[])
  fields := #[]
  methods := #[]
  instanceTypes := #[]
  staticTypes := #[]
  resolved := Array.replicate 37 none
  statics := none }

def pool7 : Array CpInfo := pool [(1, .methodref 2 3), (0, .class_ 4), (0, .nameAndType 5 6), (0, u "java/lang/Object"), (0, u "<init>"), (0, u "()V"), (0, .string 8), (0, u ""), (0, .fieldref 10 11), (0, .class_ 12), (0, .nameAndType 13 14), (0, u "java/lang/String"), (0, u "value"), (0, u "[B"), (0, .fieldref 10 16), (0, .nameAndType 17 18), (0, u "coder"), (0, u "B"), (2, u "hash"), (0, u "I"), (2, u "hashIsZero"), (0, u "Z"), (0, .methodref 10 28), (0, .nameAndType 5 29), (0, u "([CIILjava/lang/Void;)V"), (8, .fieldref 10 39), (0, .nameAndType 40 26), (0, u "COMPACT_STRINGS"), (1, .class_ 44), (1, u "java/lang/StringUTF16"), (0, u "compress"), (1, .methodref 42 48), (0, .nameAndType 49 50), (0, u "coderFromArrayLen"), (0, u "([BI)B"), (3, .methodref 55 56), (0, .class_ 57), (0, .nameAndType 58 59), (0, u "java/util/Arrays"), (0, u "copyOfRange"), (0, u "([BII)[B"), (47, .class_ 109), (1, u "java/lang/StringLatin1"), (32, u "()Z"), (34, .methodref 42 178), (0, .nameAndType 45 179), (0, u "([CII)[B"), (13, .class_ 195), (1, u "java/lang/System"), (16, .methodref 193 213), (0, .nameAndType 214 215), (0, u "arraycopy"), (0, u "(Ljava/lang/Object;ILjava/lang/Object;II)V"), (118, u "()I"), (0, .methodref 10 336), (0, .nameAndType 17 337), (0, u "()B"), (2, u "()[B"), (148, .methodref 10 490), (0, .nameAndType 5 491), (0, u "(Ljava/lang/AbstractStringBuilder;Ljava/lang/Void;)V"), (1, .nameAndType 494 142), (0, u "isLatin1"), (11, .nameAndType 507 334), (0, u "length"), (24, u "getBytes"), (8, .methodref 107 542), (0, .nameAndType 543 544), (0, u "equals"), (0, u "([B[B)Z"), (4, .methodref 550 506), (0, .class_ 551), (0, u "java/lang/AbstractStringBuilder"), (0, .methodref 550 553), (0, .nameAndType 554 340), (0, u "getValue"), (18, u "(Ljava/lang/Object;)Z"), (1, .class_ 576), (0, u "java/lang/CharSequence"), (22, u "CASE_INSENSITIVE_ORDER"), (0, u "Ljava/util/Comparator;"), (220, u "([BIB)V"), (188, u "([C)V"), (36, .methodref 550 493), (53, u "serialPersistentFields"), (0, u "[Ljava/io/ObjectStreamField;"), (0, .class_ 1104), (0, u "java/lang/String$CaseInsensitiveComparator"), (1, .class_ 1107), (0, u "java/io/Serializable"), (0, .class_ 1109), (0, u "java/lang/Comparable"), (0, .class_ 1111), (0, u "java/lang/constant/Constable"), (0, .class_ 1113), (0, u "java/lang/constant/ConstantDesc"), (2, u "serialVersionUID"), (0, u "J"), (3, u "REPL"), (0, u "C"), (2, u "LATIN1"), (1, u "UTF16"), (105, u "(Ljava/lang/StringBuilder;)V")] 217

def k7m0 : Method := { name := "<init>", desc := "()V", sig := { parameters := [], returnType := none }, accessFlags := 1, code := none }
def k7c1 : Code := { maxStack := 5, maxLocals := 2, code := jdk_42_method_3_code, exceptionTable := #[], attributes := #[] }
def k7m1 : Method := { name := "<init>", desc := "([C)V", sig := { parameters := [(.array .char)], returnType := none }, accessFlags := 1, code := some k7c1 }
def k7c2 : Code := { maxStack := 3, maxLocals := 2, code := jdk_42_method_53_code, exceptionTable := #[], attributes := #[] }
def k7m2 : Method := { name := "<init>", desc := "(Ljava/lang/StringBuilder;)V", sig := { parameters := [(.object "java/lang/StringBuilder")], returnType := none }, accessFlags := 1, code := some k7c2 }
def k7c3 : Code := { maxStack := 2, maxLocals := 1, code := jdk_42_method_54_code, exceptionTable := #[], attributes := #[] }
def k7m3 : Method := { name := "length", desc := "()I", sig := { parameters := [], returnType := some .int }, accessFlags := 1, code := some k7c3 }
def k7c4 : Code := { maxStack := 2, maxLocals := 3, code := jdk_42_method_66_code, exceptionTable := #[], attributes := #[] }
def k7m4 : Method := { name := "equals", desc := "(Ljava/lang/Object;)Z", sig := { parameters := [(.object "java/lang/Object")], returnType := some .boolean }, accessFlags := 1, code := some k7c4 }
def k7c5 : Code := { maxStack := 5, maxLocals := 4, code := jdk_42_method_147_code, exceptionTable := #[], attributes := #[] }
def k7m5 : Method := { name := "getBytes", desc := "([BIB)V", sig := { parameters := [(.array .byte), .int, .byte], returnType := none }, accessFlags := 0, code := some k7c5 }
def k7c6 : Code := { maxStack := 4, maxLocals := 6, code := jdk_42_method_149_code, exceptionTable := #[], attributes := #[] }
def k7m6 : Method := { name := "<init>", desc := "([CIILjava/lang/Void;)V", sig := { parameters := [(.array .char), .int, .int, (.object "java/lang/Void")], returnType := none }, accessFlags := 2, code := some k7c6 }
def k7c7 : Code := { maxStack := 5, maxLocals := 5, code := jdk_42_method_150_code, exceptionTable := #[], attributes := #[] }
def k7m7 : Method := { name := "<init>", desc := "(Ljava/lang/AbstractStringBuilder;Ljava/lang/Void;)V", sig := { parameters := [(.object "java/lang/AbstractStringBuilder"), (.object "java/lang/Void")], returnType := none }, accessFlags := 0, code := some k7c7 }
def k7c8 : Code := { maxStack := 1, maxLocals := 1, code := jdk_42_method_152_code, exceptionTable := #[], attributes := #[] }
def k7m8 : Method := { name := "coder", desc := "()B", sig := { parameters := [], returnType := some .byte }, accessFlags := 0, code := some k7c8 }
/-- java/lang/String -/
def k7 : Class := { plain "java/lang/String" (some 0) with
  accessFlags := 49
  interfaces := #[2, 3, 4, 5, 6]
  cf := some (fileOf pool7 10 #[.nestMembers #[1103]] #[{ accessFlags := 1, nameIndex := 5, descriptorIndex := 6, attributes := #[] }, { accessFlags := 1, nameIndex := 5, descriptorIndex := 1010, attributes := #[] }, { accessFlags := 1, nameIndex := 5, descriptorIndex := 1233, attributes := #[] }, { accessFlags := 1, nameIndex := 507, descriptorIndex := 334, attributes := #[] }, { accessFlags := 1, nameIndex := 543, descriptorIndex := 573, attributes := #[] }, { accessFlags := 0, nameIndex := 532, descriptorIndex := 821, attributes := #[] }, { accessFlags := 2, nameIndex := 5, descriptorIndex := 29, attributes := #[] }, { accessFlags := 0, nameIndex := 5, descriptorIndex := 491, attributes := #[] }, { accessFlags := 0, nameIndex := 17, descriptorIndex := 337, attributes := #[] }] 49 2 #[1106, 1108, 575, 1110, 1112] #[{ accessFlags := 18, nameIndex := 13, descriptorIndex := 14, attributes := #[] }, { accessFlags := 18, nameIndex := 17, descriptorIndex := 18, attributes := #[] }, { accessFlags := 2, nameIndex := 21, descriptorIndex := 22, attributes := #[] }, { accessFlags := 2, nameIndex := 25, descriptorIndex := 26, attributes := #[] }, { accessFlags := 26, nameIndex := 1116, descriptorIndex := 1117, attributes := #[] }, { accessFlags := 24, nameIndex := 40, descriptorIndex := 26, attributes := #[] }, { accessFlags := 26, nameIndex := 1101, descriptorIndex := 1102, attributes := #[] }, { accessFlags := 26, nameIndex := 1121, descriptorIndex := 1122, attributes := #[] }, { accessFlags := 25, nameIndex := 599, descriptorIndex := 600, attributes := #[] }, { accessFlags := 24, nameIndex := 1125, descriptorIndex := 18, attributes := #[] }, { accessFlags := 24, nameIndex := 1127, descriptorIndex := 18, attributes := #[] }])
  fields := #[{ name := "value", type := (.array .byte), accessFlags := 18, slot := 0, constantValue := 0 }, { name := "coder", type := .byte, accessFlags := 18, slot := 1, constantValue := 0 }, { name := "hash", type := .int, accessFlags := 2, slot := 2, constantValue := 0 }, { name := "hashIsZero", type := .boolean, accessFlags := 2, slot := 3, constantValue := 0 }, { name := "serialVersionUID", type := .long, accessFlags := 26, slot := 0, constantValue := 0 }, { name := "COMPACT_STRINGS", type := .boolean, accessFlags := 24, slot := 1, constantValue := 0 }, { name := "serialPersistentFields", type := (.array (.object "java/io/ObjectStreamField")), accessFlags := 26, slot := 2, constantValue := 0 }, { name := "REPL", type := .char, accessFlags := 26, slot := 3, constantValue := 0 }, { name := "CASE_INSENSITIVE_ORDER", type := (.object "java/util/Comparator"), accessFlags := 25, slot := 4, constantValue := 0 }, { name := "LATIN1", type := .byte, accessFlags := 24, slot := 5, constantValue := 0 }, { name := "UTF16", type := .byte, accessFlags := 24, slot := 6, constantValue := 0 }]
  methods := #[k7m0, k7m1, k7m2, k7m3, k7m4, k7m5, k7m6, k7m7, k7m8]
  instanceTypes := #[(.array .byte), .byte, .int, .boolean]
  staticTypes := #[.long, .boolean, (.array (.object "java/io/ObjectStreamField")), .char, (.object "java/util/Comparator"), .byte, .byte]
  resolved := Array.replicate 1451 none
  statics := some 0 }

def pool8 : Array CpInfo := pool [(6, .class_ 8), (1, u "java/lang/Object"), (0, u "<init>"), (0, u "()V"), (1, .class_ 14), (1, u "java/lang/StringUTF16"), (31, u "$assertionsDisabled"), (0, u "Z"), (13, u "HI_BYTE_SHIFT"), (0, u "I"), (2, u "LO_BYTE_SHIFT"), (49, .methodref 12 116), (0, .nameAndType 117 118), (0, u "compress"), (0, u "([CI[BII)I"), (3, u "([CII)[B"), (138, u "coderFromArrayLen"), (0, u "([BI)B"), (106, .class_ 371), (1, u "java/lang/StringUTF16$LinesSpliterator"), (58, u "MAX_LENGTH"), (196, .class_ 628), (0, u "java/lang/StringUTF16$CodePointsSpliterator"), (0, .class_ 630), (0, u "java/lang/StringUTF16$CharsSpliterator")] 4

def k8m0 : Method := { name := "<init>", desc := "()V", sig := { parameters := [], returnType := none }, accessFlags := 0, code := none }
def k8c1 : Code := { maxStack := 2, maxLocals := 2, code := jdk_52_method_15_code, exceptionTable := #[], attributes := #[] }
def k8m1 : Method := { name := "coderFromArrayLen", desc := "([BI)B", sig := { parameters := [(.array .byte), .int], returnType := some .byte }, accessFlags := 8, code := some k8c1 }
def k8c2 : Code := { maxStack := 5, maxLocals := 6, code := jdk_52_method_16_code, exceptionTable := #[], attributes := #[] }
def k8m2 : Method := { name := "compress", desc := "([CII)[B", sig := { parameters := [(.array .char), .int, .int], returnType := some (.array .byte) }, accessFlags := 9, code := some k8c2 }
def k8c3 : Code := { maxStack := 3, maxLocals := 7, code := jdk_52_method_21_code, exceptionTable := #[], attributes := #[] }
def k8m3 : Method := { name := "compress", desc := "([CI[BII)I", sig := { parameters := [(.array .char), .int, (.array .byte), .int, .int], returnType := some .int }, accessFlags := 9, code := some k8c3 }
/-- java/lang/StringUTF16 -/
def k8 : Class := { plain "java/lang/StringUTF16" (some 0) with
  accessFlags := 48
  interfaces := #[]
  cf := some (fileOf pool8 12 #[.nestMembers #[627, 629, 369]] #[{ accessFlags := 0, nameIndex := 9, descriptorIndex := 10, attributes := #[] }, { accessFlags := 8, nameIndex := 261, descriptorIndex := 262, attributes := #[] }, { accessFlags := 9, nameIndex := 117, descriptorIndex := 122, attributes := #[] }, { accessFlags := 9, nameIndex := 117, descriptorIndex := 118, attributes := #[] }] 48 6 #[] #[{ accessFlags := 26, nameIndex := 61, descriptorIndex := 62, attributes := #[] }, { accessFlags := 26, nameIndex := 65, descriptorIndex := 62, attributes := #[] }, { accessFlags := 24, nameIndex := 430, descriptorIndex := 62, attributes := #[] }, { accessFlags := 4120, nameIndex := 46, descriptorIndex := 47, attributes := #[] }])
  fields := #[{ name := "HI_BYTE_SHIFT", type := .int, accessFlags := 26, slot := 0, constantValue := 0 }, { name := "LO_BYTE_SHIFT", type := .int, accessFlags := 26, slot := 1, constantValue := 0 }, { name := "MAX_LENGTH", type := .int, accessFlags := 24, slot := 2, constantValue := 0 }, { name := "$assertionsDisabled", type := .boolean, accessFlags := 4120, slot := 3, constantValue := 0 }]
  methods := #[k8m0, k8m1, k8m2, k8m3]
  instanceTypes := #[]
  staticTypes := #[.int, .int, .int, .boolean]
  resolved := Array.replicate 635 none
  statics := none }

def pool9 : Array CpInfo := pool [(1, .methodref 2 3), (0, .class_ 4), (0, .nameAndType 5 6), (0, u "java/lang/Object"), (0, u "<init>"), (0, u "()V"), (0, .class_ 8), (0, u "java/lang/Record")] 13

def k9c0 : Code := { maxStack := 1, maxLocals := 1, code := jdk_30_method_1_code, exceptionTable := #[], attributes := #[] }
def k9m0 : Method := { name := "<init>", desc := "()V", sig := { parameters := [], returnType := none }, accessFlags := 4, code := some k9c0 }
/-- java/lang/Record -/
def k9 : Class := { plain "java/lang/Record" (some 0) with
  accessFlags := 1057
  interfaces := #[]
  cf := some (fileOf pool9 7 #[] #[{ accessFlags := 4, nameIndex := 5, descriptorIndex := 6, attributes := #[] }] 1057 2 #[] #[])
  fields := #[]
  methods := #[k9m0]
  instanceTypes := #[]
  staticTypes := #[]
  resolved := Array.replicate 22 none
  statics := none }

def pool10 : Array CpInfo := pool [(1, .methodref 2 3), (0, .class_ 4), (0, .nameAndType 5 6), (0, u "java/lang/Record"), (0, u "<init>"), (0, u "()V"), (0, .fieldref 8 9), (0, .class_ 10), (0, .nameAndType 11 12), (0, u "com/example/handover/handover/ConfigException$Problem"), (0, u "file"), (0, u "Ljava/lang/String;"), (0, .fieldref 8 14), (0, .nameAndType 15 16), (0, u "line"), (0, u "I"), (0, .fieldref 8 18), (0, .nameAndType 19 12), (0, u "message"), (0, .class_ 21), (0, u "java/lang/StringBuilder"), (0, .methodref 20 3), (0, .methodref 20 24), (0, .nameAndType 25 26), (0, u "append"), (0, u "(Ljava/lang/String;)Ljava/lang/StringBuilder;"), (0, .string 28), (0, u ":"), (0, .methodref 20 30), (0, .nameAndType 25 31), (0, u "(I)Ljava/lang/StringBuilder;"), (0, .string 33), (0, u ": "), (0, .methodref 20 35), (0, .nameAndType 36 37), (0, u "toString"), (0, u "()Ljava/lang/String;"), (8, u "(Ljava/lang/String;ILjava/lang/String;)V"), (8, .class_ 56), (0, u "com/example/handover/handover/ConfigException")] 21

def k10c0 : Code := { maxStack := 2, maxLocals := 4, code := prog_2_method_1_code, exceptionTable := #[], attributes := #[] }
def k10m0 : Method := { name := "<init>", desc := "(Ljava/lang/String;ILjava/lang/String;)V", sig := { parameters := [(.object "java/lang/String"), .int, (.object "java/lang/String")], returnType := none }, accessFlags := 0, code := some k10c0 }
def k10c1 : Code := { maxStack := 2, maxLocals := 1, code := prog_2_method_2_code, exceptionTable := #[], attributes := #[] }
def k10m1 : Method := { name := "toString", desc := "()Ljava/lang/String;", sig := { parameters := [], returnType := some (.object "java/lang/String") }, accessFlags := 1, code := some k10c1 }
/-- com/example/handover/handover/ConfigException$Problem -/
def k10 : Class := { plain "com/example/handover/handover/ConfigException$Problem" (some 9) with
  accessFlags := 48
  interfaces := #[]
  cf := some (fileOf pool10 8 #[.nestHost 55] #[{ accessFlags := 0, nameIndex := 5, descriptorIndex := 46, attributes := #[] }, { accessFlags := 1, nameIndex := 36, descriptorIndex := 37, attributes := #[] }] 48 2 #[] #[{ accessFlags := 18, nameIndex := 11, descriptorIndex := 12, attributes := #[] }, { accessFlags := 18, nameIndex := 15, descriptorIndex := 16, attributes := #[] }, { accessFlags := 18, nameIndex := 19, descriptorIndex := 12, attributes := #[] }])
  fields := #[{ name := "file", type := (.object "java/lang/String"), accessFlags := 18, slot := 0, constantValue := 0 }, { name := "line", type := .int, accessFlags := 18, slot := 1, constantValue := 0 }, { name := "message", type := (.object "java/lang/String"), accessFlags := 18, slot := 2, constantValue := 0 }]
  methods := #[k10m0, k10m1]
  instanceTypes := #[(.object "java/lang/String"), .int, (.object "java/lang/String")]
  staticTypes := #[]
  resolved := Array.replicate 78 none
  statics := none }

def pool11 : Array CpInfo := pool [(1, .class_ 2), (0, u "java/lang/Appendable"), (0, .class_ 4), (0, u "java/lang/Object")] 9

/-- java/lang/Appendable -/
def k11 : Class := { plain "java/lang/Appendable" (some 0) with
  accessFlags := 1537
  interfaces := #[]
  cf := some (fileOf pool11 1 #[] #[] 1537 3 #[] #[])
  fields := #[]
  methods := #[]
  instanceTypes := #[]
  staticTypes := #[]
  resolved := Array.replicate 14 none
  statics := none }

def pool12 : Array CpInfo := pool [(1, .class_ 2), (0, u "java/lang/String"), (0, .methodref 4 5), (0, .class_ 6), (0, .nameAndType 7 8), (0, u "java/lang/Object"), (0, u "<init>"), (0, u "()V"), (1, .class_ 12), (1, u "java/lang/AbstractStringBuilder"), (0, u "EMPTYVALUE"), (0, u "[B"), (0, .fieldref 10 16), (0, .nameAndType 17 14), (0, u "value"), (0, .fieldref 1 19), (0, .nameAndType 20 21), (0, u "COMPACT_STRINGS"), (0, u "Z"), (0, .fieldref 10 23), (0, .nameAndType 24 25), (0, u "coder"), (0, u "B"), (6, .methodref 1 33), (0, .nameAndType 34 35), (0, u "length"), (0, u "()I"), (0, .class_ 37), (0, u "java/lang/Integer"), (1, .integer 2147483647), (0, .methodref 1 41), (0, .nameAndType 24 42), (0, u "()B"), (2, u "append"), (0, u "(Ljava/lang/String;)Ljava/lang/AbstractStringBuilder;"), (1, .class_ 49), (0, u "java/lang/CharSequence"), (19, u "(Ljava/lang/String;)V"), (5, u "maybeLatin1"), (3, .fieldref 10 80), (0, .nameAndType 81 82), (0, u "count"), (0, u "I"), (0, .methodref 10 84), (0, .nameAndType 85 86), (0, u "isLatin1"), (0, u "()Z"), (13, .methodref 10 101), (0, .nameAndType 102 103), (0, u "ensureCapacityInternal"), (0, u "(I)V"), (0, .methodref 10 105), (0, .nameAndType 106 107), (0, u "newCapacity"), (0, u "(I)I"), (0, .methodref 109 110), (0, .class_ 111), (0, .nameAndType 112 113), (0, u "java/util/Arrays"), (0, u "copyOf"), (0, u "([BI)[B"), (0, .methodref 115 116), (0, .class_ 117), (0, .nameAndType 118 119), (0, u "jdk/internal/util/ArraysSupport"), (0, u "newLength"), (0, u "(III)I"), (68, u "getChars"), (15, .methodref 10 205), (0, .nameAndType 206 207), (0, u "appendNull"), (0, u "()Ljava/lang/AbstractStringBuilder;"), (0, .methodref 10 209), (0, .nameAndType 210 211), (0, u "putStringAt"), (0, u "(ILjava/lang/String;)V"), (5, u "inflateIfNeededFor"), (2, .nameAndType 221 222), (0, u "getBytes"), (0, u "([BIB)V"), (22, .methodref 36 246), (0, .nameAndType 247 107), (0, u "stringSize"), (0, .methodref 36 249), (0, .nameAndType 188 250), (0, u "(II[B)I"), (146, .methodref 10 398), (0, .nameAndType 217 69), (0, .methodref 1 220), (3, u "()[B"), (40, .class_ 445), (0, u "java/lang/Appendable"), (65, u "(I)Ljava/lang/AbstractStringBuilder;"), (40, u "getValue")] 56

def k12m0 : Method := { name := "<init>", desc := "()V", sig := { parameters := [], returnType := none }, accessFlags := 0, code := none }
def k12c1 : Code := { maxStack := 2, maxLocals := 2, code := jdk_68_method_2_code, exceptionTable := #[], attributes := #[] }
def k12m1 : Method := { name := "<init>", desc := "(I)V", sig := { parameters := [.int], returnType := none }, accessFlags := 0, code := some k12c1 }
def k12c2 : Code := { maxStack := 1, maxLocals := 1, code := jdk_68_method_6_code, exceptionTable := #[], attributes := #[] }
def k12m2 : Method := { name := "length", desc := "()I", sig := { parameters := [], returnType := some .int }, accessFlags := 1, code := some k12c2 }
def k12c3 : Code := { maxStack := 4, maxLocals := 3, code := jdk_68_method_9_code, exceptionTable := #[], attributes := #[] }
def k12m3 : Method := { name := "ensureCapacityInternal", desc := "(I)V", sig := { parameters := [.int], returnType := none }, accessFlags := 2, code := some k12c3 }
def k12c4 : Code := { maxStack := 5, maxLocals := 6, code := jdk_68_method_10_code, exceptionTable := #[], attributes := #[] }
def k12m4 : Method := { name := "newCapacity", desc := "(I)I", sig := { parameters := [.int], returnType := some .int }, accessFlags := 2, code := some k12c4 }
def k12c5 : Code := { maxStack := 3, maxLocals := 3, code := jdk_68_method_22_code, exceptionTable := #[], attributes := #[] }
def k12m5 : Method := { name := "append", desc := "(Ljava/lang/String;)Ljava/lang/AbstractStringBuilder;", sig := { parameters := [(.object "java/lang/String")], returnType := some (.object "java/lang/AbstractStringBuilder") }, accessFlags := 1, code := some k12c5 }
def k12c6 : Code := { maxStack := 6, maxLocals := 3, code := jdk_68_method_26_code, exceptionTable := #[], attributes := #[] }
def k12m6 : Method := { name := "appendNull", desc := "()Ljava/lang/AbstractStringBuilder;", sig := { parameters := [], returnType := some (.object "java/lang/AbstractStringBuilder") }, accessFlags := 2, code := some k12c6 }
def k12c7 : Code := { maxStack := 4, maxLocals := 4, code := jdk_68_method_32_code, exceptionTable := #[], attributes := #[] }
def k12m7 : Method := { name := "append", desc := "(I)Ljava/lang/AbstractStringBuilder;", sig := { parameters := [.int], returnType := some (.object "java/lang/AbstractStringBuilder") }, accessFlags := 1, code := some k12c7 }
def k12c8 : Code := { maxStack := 1, maxLocals := 1, code := jdk_68_method_64_code, exceptionTable := #[], attributes := #[] }
def k12m8 : Method := { name := "getValue", desc := "()[B", sig := { parameters := [], returnType := some (.array .byte) }, accessFlags := 16, code := some k12c8 }
def k12c9 : Code := { maxStack := 1, maxLocals := 1, code := jdk_68_method_68_code, exceptionTable := #[], attributes := #[] }
def k12m9 : Method := { name := "isLatin1", desc := "()Z", sig := { parameters := [], returnType := some .boolean }, accessFlags := 16, code := some k12c9 }
def k12c10 : Code := { maxStack := 2, maxLocals := 2, code := jdk_68_method_71_code, exceptionTable := #[], attributes := #[] }
def k12m10 : Method := { name := "inflateIfNeededFor", desc := "(Ljava/lang/String;)V", sig := { parameters := [(.object "java/lang/String")], returnType := none }, accessFlags := 2, code := some k12c10 }
def k12c11 : Code := { maxStack := 4, maxLocals := 3, code := jdk_68_method_73_code, exceptionTable := #[], attributes := #[] }
def k12m11 : Method := { name := "putStringAt", desc := "(ILjava/lang/String;)V", sig := { parameters := [.int, (.object "java/lang/String")], returnType := none }, accessFlags := 2, code := some k12c11 }
/-- java/lang/AbstractStringBuilder -/
def k12 : Class := { plain "java/lang/AbstractStringBuilder" (some 0) with
  accessFlags := 1056
  interfaces := #[11, 4]
  cf := some (fileOf pool12 10 #[] #[{ accessFlags := 0, nameIndex := 7, descriptorIndex := 8, attributes := #[] }, { accessFlags := 0, nameIndex := 7, descriptorIndex := 103, attributes := #[] }, { accessFlags := 1, nameIndex := 34, descriptorIndex := 35, attributes := #[] }, { accessFlags := 2, nameIndex := 102, descriptorIndex := 103, attributes := #[] }, { accessFlags := 2, nameIndex := 106, descriptorIndex := 107, attributes := #[] }, { accessFlags := 1, nameIndex := 45, descriptorIndex := 46, attributes := #[] }, { accessFlags := 2, nameIndex := 206, descriptorIndex := 207, attributes := #[] }, { accessFlags := 1, nameIndex := 45, descriptorIndex := 511, attributes := #[] }, { accessFlags := 16, nameIndex := 552, descriptorIndex := 403, attributes := #[] }, { accessFlags := 16, nameIndex := 85, descriptorIndex := 86, attributes := #[] }, { accessFlags := 2, nameIndex := 217, descriptorIndex := 69, attributes := #[] }, { accessFlags := 2, nameIndex := 210, descriptorIndex := 211, attributes := #[] }] 1056 4 #[444, 48] #[{ accessFlags := 0, nameIndex := 17, descriptorIndex := 14, attributes := #[] }, { accessFlags := 0, nameIndex := 24, descriptorIndex := 25, attributes := #[] }, { accessFlags := 0, nameIndex := 75, descriptorIndex := 21, attributes := #[] }, { accessFlags := 0, nameIndex := 81, descriptorIndex := 82, attributes := #[] }, { accessFlags := 26, nameIndex := 13, descriptorIndex := 14, attributes := #[] }])
  fields := #[{ name := "value", type := (.array .byte), accessFlags := 0, slot := 0, constantValue := 0 }, { name := "coder", type := .byte, accessFlags := 0, slot := 1, constantValue := 0 }, { name := "maybeLatin1", type := .boolean, accessFlags := 0, slot := 2, constantValue := 0 }, { name := "count", type := .int, accessFlags := 0, slot := 3, constantValue := 0 }, { name := "EMPTYVALUE", type := (.array .byte), accessFlags := 26, slot := 0, constantValue := 0 }]
  methods := #[k12m0, k12m1, k12m2, k12m3, k12m4, k12m5, k12m6, k12m7, k12m8, k12m9, k12m10, k12m11]
  instanceTypes := #[(.array .byte), .byte, .boolean, .int]
  staticTypes := #[(.array .byte)]
  resolved := Array.replicate 609 none
  statics := none }

def pool13 : Array CpInfo := pool [(1, .methodref 2 3), (0, .class_ 4), (0, .nameAndType 5 6), (0, u "java/lang/AbstractStringBuilder"), (0, u "<init>"), (0, u "(I)V"), (11, .class_ 20), (1, u "java/lang/String"), (3, .class_ 26), (1, u "java/lang/StringBuilder"), (0, u "append"), (0, u "(Ljava/lang/String;)Ljava/lang/StringBuilder;"), (0, .methodref 2 30), (0, .nameAndType 27 31), (0, u "(Ljava/lang/String;)Ljava/lang/AbstractStringBuilder;"), (21, .methodref 2 54), (0, .nameAndType 27 55), (0, u "(I)Ljava/lang/AbstractStringBuilder;"), (81, .methodref 18 138), (0, .nameAndType 5 139), (0, u "(Ljava/lang/StringBuilder;)V"), (5, u "()V"), (10, u "()I"), (111, u "(I)Ljava/lang/StringBuilder;"), (74, .methodref 2 344), (0, .nameAndType 345 156), (0, u "length"), (3, .class_ 350), (0, u "java/lang/Appendable"), (0, .class_ 352), (0, u "java/io/Serializable"), (0, .class_ 354), (0, u "java/lang/Comparable"), (0, .class_ 356), (0, u "java/lang/CharSequence"), (0, u "serialVersionUID"), (0, u "J"), (40, u "toString"), (0, u "()Ljava/lang/String;")] 21

def k13c0 : Code := { maxStack := 2, maxLocals := 1, code := jdk_67_method_1_code, exceptionTable := #[], attributes := #[] }
def k13m0 : Method := { name := "<init>", desc := "()V", sig := { parameters := [], returnType := none }, accessFlags := 1, code := some k13c0 }
def k13c1 : Code := { maxStack := 2, maxLocals := 2, code := jdk_67_method_7_code, exceptionTable := #[], attributes := #[] }
def k13m1 : Method := { name := "append", desc := "(Ljava/lang/String;)Ljava/lang/StringBuilder;", sig := { parameters := [(.object "java/lang/String")], returnType := some (.object "java/lang/StringBuilder") }, accessFlags := 1, code := some k13c1 }
def k13c2 : Code := { maxStack := 2, maxLocals := 2, code := jdk_67_method_15_code, exceptionTable := #[], attributes := #[] }
def k13m2 : Method := { name := "append", desc := "(I)Ljava/lang/StringBuilder;", sig := { parameters := [.int], returnType := some (.object "java/lang/StringBuilder") }, accessFlags := 1, code := some k13c2 }
def k13c3 : Code := { maxStack := 3, maxLocals := 1, code := jdk_67_method_42_code, exceptionTable := #[], attributes := #[] }
def k13m3 : Method := { name := "toString", desc := "()Ljava/lang/String;", sig := { parameters := [], returnType := some (.object "java/lang/String") }, accessFlags := 1, code := some k13c3 }
def k13c4 : Code := { maxStack := 1, maxLocals := 1, code := jdk_67_method_93_code, exceptionTable := #[], attributes := #[] }
def k13m4 : Method := { name := "length", desc := "()I", sig := { parameters := [], returnType := some .int }, accessFlags := 4161, code := some k13c4 }
/-- java/lang/StringBuilder -/
def k13 : Class := { plain "java/lang/StringBuilder" (some 12) with
  accessFlags := 49
  interfaces := #[11, 2, 3, 4]
  cf := some (fileOf pool13 24 #[] #[{ accessFlags := 1, nameIndex := 5, descriptorIndex := 145, attributes := #[] }, { accessFlags := 1, nameIndex := 27, descriptorIndex := 28, attributes := #[] }, { accessFlags := 1, nameIndex := 27, descriptorIndex := 268, attributes := #[] }, { accessFlags := 1, nameIndex := 399, descriptorIndex := 400, attributes := #[] }, { accessFlags := 4161, nameIndex := 345, descriptorIndex := 156, attributes := #[] }] 49 2 #[349, 351, 353, 355] #[{ accessFlags := 24, nameIndex := 357, descriptorIndex := 358, attributes := #[] }])
  fields := #[{ name := "serialVersionUID", type := .long, accessFlags := 24, slot := 0, constantValue := 0 }]
  methods := #[k13m0, k13m1, k13m2, k13m3, k13m4]
  instanceTypes := #[(.array .byte), .byte, .boolean, .int]
  staticTypes := #[.long]
  resolved := Array.replicate 422 none
  statics := none }

def pool14 : Array CpInfo := pool [(2, .class_ 4), (1, u "java/lang/Object"), (0, u "<init>"), (0, u "()V"), (1, .class_ 10), (1, u "java/lang/System"), (0, u "allowSecurityManager"), (0, u "I"), (16, u "cons"), (0, u "Ljava/io/Console;"), (77, .class_ 110), (1, u "java/lang/System$CallersHolder"), (43, u "initialErrStream"), (0, u "Ljava/io/PrintStream;"), (19, u "security"), (0, u "Ljava/lang/SecurityManager;"), (31, .class_ 209), (0, u "java/lang/System$1"), (7, u "props"), (0, u "Ljava/util/Properties;"), (2, u "lineSeparator"), (0, u "Ljava/lang/String;"), (96, .class_ 321), (1, u "java/lang/System$LoggerFinder"), (5, .class_ 328), (0, u "java/lang/System$Logger"), (67, u "err"), (2, u "out"), (91, u "notSupportedJnuEncoding"), (15, u "in"), (17, u "initialIn"), (0, u "Ljava/io/InputStream;"), (35, u "bootLayer"), (0, u "Ljava/lang/ModuleLayer;"), (99, .class_ 664), (0, u "java/lang/System$2"), (9, u "NEVER"), (2, u "MAYBE"), (49, u "arraycopy"), (0, u "(Ljava/lang/Object;ILjava/lang/Object;II)V"), (72, .class_ 802), (0, u "java/lang/System$Logger$Level")] 31

def k14m0 : Method := { name := "<init>", desc := "()V", sig := { parameters := [], returnType := none }, accessFlags := 2, code := none }
def k14m1 : Method := { name := "arraycopy", desc := "(Ljava/lang/Object;ILjava/lang/Object;II)V", sig := { parameters := [(.object "java/lang/Object"), .int, (.object "java/lang/Object"), .int, .int], returnType := none }, accessFlags := 265, code := none }
/-- java/lang/System -/
def k14 : Class := { plain "java/lang/System" (some 0) with
  accessFlags := 49
  interfaces := #[]
  cf := some (fileOf pool14 8 #[.nestMembers #[319, 327, 801, 108, 663, 208]] #[{ accessFlags := 2, nameIndex := 5, descriptorIndex := 6, attributes := #[] }, { accessFlags := 265, nameIndex := 727, descriptorIndex := 728, attributes := #[] }] 49 2 #[] #[{ accessFlags := 25, nameIndex := 507, descriptorIndex := 526, attributes := #[] }, { accessFlags := 25, nameIndex := 399, descriptorIndex := 155, attributes := #[] }, { accessFlags := 25, nameIndex := 396, descriptorIndex := 155, attributes := #[] }, { accessFlags := 10, nameIndex := 525, descriptorIndex := 526, attributes := #[] }, { accessFlags := 26, nameIndex := 674, descriptorIndex := 12, attributes := #[] }, { accessFlags := 26, nameIndex := 677, descriptorIndex := 12, attributes := #[] }, { accessFlags := 10, nameIndex := 11, descriptorIndex := 12, attributes := #[] }, { accessFlags := 74, nameIndex := 175, descriptorIndex := 176, attributes := #[] }, { accessFlags := 10, nameIndex := 491, descriptorIndex := 222, attributes := #[] }, { accessFlags := 74, nameIndex := 29, descriptorIndex := 30, attributes := #[] }, { accessFlags := 74, nameIndex := 154, descriptorIndex := 155, attributes := #[] }, { accessFlags := 10, nameIndex := 217, descriptorIndex := 218, attributes := #[] }, { accessFlags := 10, nameIndex := 221, descriptorIndex := 222, attributes := #[] }, { accessFlags := 8, nameIndex := 562, descriptorIndex := 563, attributes := #[] }])
  fields := #[{ name := "in", type := (.object "java/io/InputStream"), accessFlags := 25, slot := 0, constantValue := 0 }, { name := "out", type := (.object "java/io/PrintStream"), accessFlags := 25, slot := 1, constantValue := 0 }, { name := "err", type := (.object "java/io/PrintStream"), accessFlags := 25, slot := 2, constantValue := 0 }, { name := "initialIn", type := (.object "java/io/InputStream"), accessFlags := 10, slot := 3, constantValue := 0 }, { name := "NEVER", type := .int, accessFlags := 26, slot := 4, constantValue := 0 }, { name := "MAYBE", type := .int, accessFlags := 26, slot := 5, constantValue := 0 }, { name := "allowSecurityManager", type := .int, accessFlags := 10, slot := 6, constantValue := 0 }, { name := "security", type := (.object "java/lang/SecurityManager"), accessFlags := 74, slot := 7, constantValue := 0 }, { name := "notSupportedJnuEncoding", type := (.object "java/lang/String"), accessFlags := 10, slot := 8, constantValue := 0 }, { name := "cons", type := (.object "java/io/Console"), accessFlags := 74, slot := 9, constantValue := 0 }, { name := "initialErrStream", type := (.object "java/io/PrintStream"), accessFlags := 74, slot := 10, constantValue := 0 }, { name := "props", type := (.object "java/util/Properties"), accessFlags := 10, slot := 11, constantValue := 0 }, { name := "lineSeparator", type := (.object "java/lang/String"), accessFlags := 10, slot := 12, constantValue := 0 }, { name := "bootLayer", type := (.object "java/lang/ModuleLayer"), accessFlags := 8, slot := 13, constantValue := 0 }]
  methods := #[k14m0, k14m1]
  instanceTypes := #[]
  staticTypes := #[(.object "java/io/InputStream"), (.object "java/io/PrintStream"), (.object "java/io/PrintStream"), (.object "java/io/InputStream"), .int, .int, .int, (.object "java/lang/SecurityManager"), (.object "java/lang/String"), (.object "java/io/Console"), (.object "java/io/PrintStream"), (.object "java/util/Properties"), (.object "java/lang/String"), (.object "java/lang/ModuleLayer")]
  resolved := Array.replicate 834 none
  statics := none }

def pool15 : Array CpInfo := pool [(2, .class_ 4), (1, u "java/lang/Object"), (0, u "<init>"), (0, u "()V"), (1, .class_ 10), (1, u "java/lang/Number"), (2, .class_ 14), (0, u "java/io/Serializable"), (0, u "serialVersionUID"), (0, u "J")] 20

def k15m0 : Method := { name := "<init>", desc := "()V", sig := { parameters := [], returnType := none }, accessFlags := 1, code := none }
/-- java/lang/Number -/
def k15 : Class := { plain "java/lang/Number" (some 0) with
  accessFlags := 1057
  interfaces := #[2]
  cf := some (fileOf pool15 8 #[] #[{ accessFlags := 1, nameIndex := 5, descriptorIndex := 6, attributes := #[] }] 1057 2 #[13] #[{ accessFlags := 26, nameIndex := 15, descriptorIndex := 16, attributes := #[] }])
  fields := #[{ name := "serialVersionUID", type := .long, accessFlags := 26, slot := 0, constantValue := 0 }]
  methods := #[k15m0]
  instanceTypes := #[]
  staticTypes := #[.long]
  resolved := Array.replicate 37 none
  statics := none }

def pool16 : Array CpInfo := pool [(1, .class_ 2), (0, u "java/lang/Integer"), (16, u "digits"), (0, u "[C"), (33, u "(I)I"), (19, u "stringSize"), (2, u "getChars"), (0, u "(II[B)I"), (4, .fieldref 1 84), (0, .nameAndType 85 86), (0, u "DigitOnes"), (0, u "[B"), (0, .fieldref 1 88), (0, .nameAndType 89 86), (0, u "DigitTens"), (99, .class_ 190), (0, u "java/lang/Integer$IntegerCache"), (3, u "I"), (8, .class_ 204), (0, u "java/lang/Number"), (2, u "value"), (94, u "TYPE"), (0, u "Ljava/lang/Class;"), (0, .class_ 305), (0, u "java/lang/Comparable"), (0, .class_ 307), (0, u "java/lang/constant/Constable"), (0, .class_ 309), (0, u "java/lang/constant/ConstantDesc"), (0, u "MIN_VALUE"), (1, u "MAX_VALUE"), (3, u "SIZE"), (1, u "BYTES"), (1, u "serialVersionUID"), (0, u "J")] 131

def k16c0 : Code := { maxStack := 4, maxLocals := 7, code := jdk_33_method_12_code, exceptionTable := #[], attributes := #[] }
def k16m0 : Method := { name := "getChars", desc := "(II[B)I", sig := { parameters := [.int, .int, (.array .byte)], returnType := some .int }, accessFlags := 8, code := some k16c0 }
def k16c1 : Code := { maxStack := 2, maxLocals := 4, code := jdk_33_method_13_code, exceptionTable := #[], attributes := #[] }
def k16m1 : Method := { name := "stringSize", desc := "(I)I", sig := { parameters := [.int], returnType := some .int }, accessFlags := 8, code := some k16c1 }
/-- java/lang/Integer -/
def k16 : Class := { plain "java/lang/Integer" (some 15) with
  accessFlags := 49
  interfaces := #[3, 5, 6]
  cf := some (fileOf pool16 1 #[.nestMembers #[189]] #[{ accessFlags := 8, nameIndex := 77, descriptorIndex := 78, attributes := #[] }, { accessFlags := 8, nameIndex := 74, descriptorIndex := 54, attributes := #[] }] 49 203 #[304, 306, 308] #[{ accessFlags := 25, nameIndex := 310, descriptorIndex := 194, attributes := #[] }, { accessFlags := 25, nameIndex := 312, descriptorIndex := 194, attributes := #[] }, { accessFlags := 25, nameIndex := 302, descriptorIndex := 303, attributes := #[] }, { accessFlags := 24, nameIndex := 19, descriptorIndex := 20, attributes := #[] }, { accessFlags := 24, nameIndex := 89, descriptorIndex := 86, attributes := #[] }, { accessFlags := 24, nameIndex := 85, descriptorIndex := 86, attributes := #[] }, { accessFlags := 18, nameIndex := 207, descriptorIndex := 194, attributes := #[] }, { accessFlags := 25, nameIndex := 316, descriptorIndex := 194, attributes := #[] }, { accessFlags := 25, nameIndex := 318, descriptorIndex := 194, attributes := #[] }, { accessFlags := 26, nameIndex := 320, descriptorIndex := 321, attributes := #[] }])
  fields := #[{ name := "MIN_VALUE", type := .int, accessFlags := 25, slot := 0, constantValue := 0 }, { name := "MAX_VALUE", type := .int, accessFlags := 25, slot := 1, constantValue := 0 }, { name := "TYPE", type := (.object "java/lang/Class"), accessFlags := 25, slot := 2, constantValue := 0 }, { name := "digits", type := (.array .char), accessFlags := 24, slot := 3, constantValue := 0 }, { name := "DigitTens", type := (.array .byte), accessFlags := 24, slot := 4, constantValue := 0 }, { name := "DigitOnes", type := (.array .byte), accessFlags := 24, slot := 5, constantValue := 0 }, { name := "value", type := .int, accessFlags := 18, slot := 0, constantValue := 0 }, { name := "SIZE", type := .int, accessFlags := 25, slot := 6, constantValue := 0 }, { name := "BYTES", type := .int, accessFlags := 25, slot := 7, constantValue := 0 }, { name := "serialVersionUID", type := .long, accessFlags := 26, slot := 8, constantValue := 0 }]
  methods := #[k16m0, k16m1]
  instanceTypes := #[.int]
  staticTypes := #[.int, .int, (.object "java/lang/Class"), (.array .char), (.array .byte), (.array .byte), .int, .int, .long]
  resolved := Array.replicate 453 none
  statics := some 1 }

def pool17 : Array CpInfo := pool [(2, .class_ 4), (1, u "java/lang/Object"), (0, u "<init>"), (0, u "()V"), (7, .class_ 16), (1, u "java/util/Arrays"), (57, .class_ 76), (1, u "java/util/Arrays$NaturalOrder"), (32, u "()Ljava/lang/Object;"), (3, .class_ 115), (1, u "java/util/Arrays$LegacyMergeSort"), (1, u "Z"), (10, .nameAndType 129 109), (0, u "clone"), (9, u "copyOfRange"), (10, .methodref 151 152), (0, .class_ 153), (0, .nameAndType 154 155), (0, u "java/lang/System"), (0, u "arraycopy"), (0, u "(Ljava/lang/Object;ILjava/lang/Object;II)V"), (146, u "copyOf"), (1, .methodref 305 306), (0, .class_ 307), (0, .nameAndType 308 309), (0, u "java/lang/Math"), (0, u "min"), (0, u "(II)I"), (0, .methodref 311 128), (0, .class_ 312), (0, u "[B"), (26, .methodref 14 340), (0, .nameAndType 341 342), (0, u "copyOfRangeByte"), (0, u "([BII)[B"), (0, .methodref 14 344), (0, .nameAndType 345 346), (0, u "checkLength"), (0, u "(II)V"), (28, .class_ 376), (0, u "java/util/Arrays$ArrayList"), (68, u "$assertionsDisabled"), (269, u "MIN_ARRAY_SORT_GRAN"), (0, u "I"), (2, u "INSERTIONSORT_THRESHOLD"), (149, u "([BI)[B"), (105, .class_ 976), (0, u "java/util/Arrays$ArrayItr")] 52

def k17m0 : Method := { name := "<init>", desc := "()V", sig := { parameters := [], returnType := none }, accessFlags := 2, code := none }
def k17c1 : Code := { maxStack := 6, maxLocals := 3, code := jdk_65_method_121_code, exceptionTable := #[], attributes := #[] }
def k17m1 : Method := { name := "copyOf", desc := "([BI)[B", sig := { parameters := [(.array .byte), .int], returnType := some (.array .byte) }, accessFlags := 9, code := some k17c1 }
def k17c2 : Code := { maxStack := 4, maxLocals := 2, code := jdk_65_method_131_code, exceptionTable := #[], attributes := #[] }
def k17m2 : Method := { name := "checkLength", desc := "(II)V", sig := { parameters := [.int, .int], returnType := none }, accessFlags := 10, code := some k17c2 }
def k17c3 : Code := { maxStack := 3, maxLocals := 3, code := jdk_65_method_132_code, exceptionTable := #[], attributes := #[] }
def k17m3 : Method := { name := "copyOfRange", desc := "([BII)[B", sig := { parameters := [(.array .byte), .int, .int], returnType := some (.array .byte) }, accessFlags := 9, code := some k17c3 }
def k17c4 : Code := { maxStack := 6, maxLocals := 5, code := jdk_65_method_133_code, exceptionTable := #[], attributes := #[] }
def k17m4 : Method := { name := "copyOfRangeByte", desc := "([BII)[B", sig := { parameters := [(.array .byte), .int, .int], returnType := some (.array .byte) }, accessFlags := 10, code := some k17c4 }
/-- java/util/Arrays -/
def k17 : Class := { plain "java/util/Arrays" (some 0) with
  accessFlags := 49
  interfaces := #[]
  cf := some (fileOf pool17 14 #[.nestMembers #[975, 375, 113, 74]] #[{ accessFlags := 2, nameIndex := 5, descriptorIndex := 6, attributes := #[] }, { accessFlags := 9, nameIndex := 302, descriptorIndex := 869, attributes := #[] }, { accessFlags := 10, nameIndex := 345, descriptorIndex := 346, attributes := #[] }, { accessFlags := 9, nameIndex := 139, descriptorIndex := 342, attributes := #[] }, { accessFlags := 10, nameIndex := 341, descriptorIndex := 342, attributes := #[] }] 49 2 #[] #[{ accessFlags := 26, nameIndex := 715, descriptorIndex := 716, attributes := #[] }, { accessFlags := 26, nameIndex := 719, descriptorIndex := 716, attributes := #[] }, { accessFlags := 4120, nameIndex := 445, descriptorIndex := 117, attributes := #[] }])
  fields := #[{ name := "MIN_ARRAY_SORT_GRAN", type := .int, accessFlags := 26, slot := 0, constantValue := 0 }, { name := "INSERTIONSORT_THRESHOLD", type := .int, accessFlags := 26, slot := 1, constantValue := 0 }, { name := "$assertionsDisabled", type := .boolean, accessFlags := 4120, slot := 2, constantValue := 0 }]
  methods := #[k17m0, k17m1, k17m2, k17m3, k17m4]
  instanceTypes := #[]
  staticTypes := #[.int, .int, .boolean]
  resolved := Array.replicate 1029 none
  statics := none }

def pool18 : Array CpInfo := pool [(1, .class_ 2), (0, u "java/lang/Math"), (1, .class_ 6), (1, u "java/lang/Object"), (0, u "<init>"), (0, u "()V"), (89, .class_ 100), (1, u "java/lang/Math$RandomNumberGeneratorHolder"), (71, u "negativeZeroFloatBits"), (0, u "J"), (2, u "negativeZeroDoubleBits"), (21, u "max"), (2, u "min"), (43, u "$assertionsDisabled"), (0, u "Z"), (88, u "(II)I"), (2, u "twoToTheDoubleScaleDown"), (0, u "D"), (4, u "twoToTheDoubleScaleUp"), (9, u "E"), (3, u "PI"), (2, u "TAU"), (2, u "DEGREES_TO_RADIANS"), (0, u "RADIANS_TO_DEGREES")] 94

def k18m0 : Method := { name := "<init>", desc := "()V", sig := { parameters := [], returnType := none }, accessFlags := 2, code := none }
def k18c1 : Code := { maxStack := 2, maxLocals := 2, code := jdk_29_method_65_code, exceptionTable := #[], attributes := #[] }
def k18m1 : Method := { name := "max", desc := "(II)I", sig := { parameters := [.int, .int], returnType := some .int }, accessFlags := 9, code := some k18c1 }
def k18c2 : Code := { maxStack := 2, maxLocals := 2, code := jdk_29_method_69_code, exceptionTable := #[], attributes := #[] }
def k18m2 : Method := { name := "min", desc := "(II)I", sig := { parameters := [.int, .int], returnType := some .int }, accessFlags := 9, code := some k18c2 }
/-- java/lang/Math -/
def k18 : Class := { plain "java/lang/Math" (some 0) with
  accessFlags := 49
  interfaces := #[]
  cf := some (fileOf pool18 1 #[.nestMembers #[98]] #[{ accessFlags := 2, nameIndex := 7, descriptorIndex := 8, attributes := #[] }, { accessFlags := 9, nameIndex := 198, descriptorIndex := 335, attributes := #[] }, { accessFlags := 9, nameIndex := 201, descriptorIndex := 335, attributes := #[] }] 49 4 #[] #[{ accessFlags := 25, nameIndex := 354, descriptorIndex := 339, attributes := #[] }, { accessFlags := 25, nameIndex := 358, descriptorIndex := 339, attributes := #[] }, { accessFlags := 25, nameIndex := 361, descriptorIndex := 339, attributes := #[] }, { accessFlags := 26, nameIndex := 364, descriptorIndex := 339, attributes := #[] }, { accessFlags := 26, nameIndex := 365, descriptorIndex := 339, attributes := #[] }, { accessFlags := 26, nameIndex := 172, descriptorIndex := 173, attributes := #[] }, { accessFlags := 26, nameIndex := 176, descriptorIndex := 173, attributes := #[] }, { accessFlags := 8, nameIndex := 344, descriptorIndex := 339, attributes := #[] }, { accessFlags := 8, nameIndex := 338, descriptorIndex := 339, attributes := #[] }, { accessFlags := 4120, nameIndex := 245, descriptorIndex := 246, attributes := #[] }])
  fields := #[{ name := "E", type := .double, accessFlags := 25, slot := 0, constantValue := 0 }, { name := "PI", type := .double, accessFlags := 25, slot := 1, constantValue := 0 }, { name := "TAU", type := .double, accessFlags := 25, slot := 2, constantValue := 0 }, { name := "DEGREES_TO_RADIANS", type := .double, accessFlags := 26, slot := 3, constantValue := 0 }, { name := "RADIANS_TO_DEGREES", type := .double, accessFlags := 26, slot := 4, constantValue := 0 }, { name := "negativeZeroFloatBits", type := .long, accessFlags := 26, slot := 5, constantValue := 0 }, { name := "negativeZeroDoubleBits", type := .long, accessFlags := 26, slot := 6, constantValue := 0 }, { name := "twoToTheDoubleScaleUp", type := .double, accessFlags := 8, slot := 7, constantValue := 0 }, { name := "twoToTheDoubleScaleDown", type := .double, accessFlags := 8, slot := 8, constantValue := 0 }, { name := "$assertionsDisabled", type := .boolean, accessFlags := 4120, slot := 9, constantValue := 0 }]
  methods := #[k18m0, k18m1, k18m2]
  instanceTypes := #[]
  staticTypes := #[.double, .double, .double, .double, .double, .long, .long, .double, .double, .boolean]
  resolved := Array.replicate 460 none
  statics := none }

def pool19 : Array CpInfo := pool [(4, .class_ 6), (1, u "java/lang/Object"), (0, u "<init>"), (0, u "()V"), (5, .class_ 16), (1, u "java/lang/StringLatin1"), (104, u "$assertionsDisabled"), (0, u "Z"), (98, .class_ 223), (1, u "java/lang/StringLatin1$LinesSpliterator"), (57, u "equals"), (0, u "([B[B)Z"), (107, .class_ 391), (0, u "java/lang/StringLatin1$CharsSpliterator")] 3

def k19m0 : Method := { name := "<init>", desc := "()V", sig := { parameters := [], returnType := none }, accessFlags := 0, code := none }
def k19c1 : Code := { maxStack := 3, maxLocals := 3, code := jdk_43_method_13_code, exceptionTable := #[], attributes := #[] }
def k19m1 : Method := { name := "equals", desc := "([B[B)Z", sig := { parameters := [(.array .byte), (.array .byte)], returnType := some .boolean }, accessFlags := 9, code := some k19c1 }
/-- java/lang/StringLatin1 -/
def k19 : Class := { plain "java/lang/StringLatin1" (some 0) with
  accessFlags := 48
  interfaces := #[]
  cf := some (fileOf pool19 14 #[.nestMembers #[390, 221]] #[{ accessFlags := 0, nameIndex := 7, descriptorIndex := 8, attributes := #[] }, { accessFlags := 9, nameIndex := 281, descriptorIndex := 282, attributes := #[] }] 48 4 #[] #[{ accessFlags := 4120, nameIndex := 121, descriptorIndex := 122, attributes := #[] }])
  fields := #[{ name := "$assertionsDisabled", type := .boolean, accessFlags := 4120, slot := 0, constantValue := 0 }]
  methods := #[k19m0, k19m1]
  instanceTypes := #[]
  staticTypes := #[.boolean]
  resolved := Array.replicate 395 none
  statics := none }

def pool20 : Array CpInfo := pool [(1, .class_ 2), (0, u "java/lang/Cloneable"), (0, .class_ 4), (0, u "java/lang/Object")] 2

/-- java/lang/Cloneable -/
def k20 : Class := { plain "java/lang/Cloneable" (some 0) with
  accessFlags := 1537
  interfaces := #[]
  cf := some (fileOf pool20 1 #[] #[] 1537 3 #[] #[])
  fields := #[]
  methods := #[]
  instanceTypes := #[]
  staticTypes := #[]
  resolved := Array.replicate 7 none
  statics := none }

def pool21 : Array CpInfo := pool [(9, u "<init>"), (6, .class_ 18), (1, u "java/lang/Object"), (0, u "()V"), (1, .class_ 23), (1, u "jdk/internal/util/ArraysSupport"), (0, u "LOG2_ARRAY_LONG_INDEX_SCALE"), (0, u "I"), (2, u "U"), (0, u "Ljdk/internal/misc/Unsafe;"), (8, u "BIG_ENDIAN"), (0, u "Z"), (8, u "LOG2_BYTE_BIT_SIZE"), (4, u "LOG2_ARRAY_INT_INDEX_SCALE"), (54, u "JLA"), (0, u "Ljdk/internal/access/JavaLangAccess;"), (11, u "LOG2_ARRAY_BOOLEAN_INDEX_SCALE"), (9, u "LOG2_ARRAY_BYTE_INDEX_SCALE"), (5, u "LOG2_ARRAY_CHAR_INDEX_SCALE"), (5, u "LOG2_ARRAY_SHORT_INDEX_SCALE"), (18, u "LOG2_ARRAY_FLOAT_INDEX_SCALE"), (24, u "LOG2_ARRAY_DOUBLE_INDEX_SCALE"), (6, .methodref 195 196), (0, .class_ 197), (0, .nameAndType 198 199), (0, u "java/lang/Math"), (0, u "max"), (0, u "(II)I"), (0, .integer 2147483639), (76, u "T_BOOLEAN"), (2, u "T_CHAR"), (1, u "T_FLOAT"), (1, u "T_DOUBLE"), (1, u "T_BYTE"), (1, u "T_SHORT"), (1, u "T_INT"), (1, u "T_LONG"), (1, u "SOFT_MAX_ARRAY_LENGTH"), (56, u "newLength"), (0, u "(III)I")] 25

def k21m0 : Method := { name := "<init>", desc := "()V", sig := { parameters := [], returnType := none }, accessFlags := 2, code := none }
def k21c1 : Code := { maxStack := 3, maxLocals := 4, code := jdk_48_method_27_code, exceptionTable := #[], attributes := #[] }
def k21m1 : Method := { name := "newLength", desc := "(III)I", sig := { parameters := [.int, .int, .int], returnType := some .int }, accessFlags := 9, code := some k21c1 }
/-- jdk/internal/util/ArraysSupport -/
def k21 : Class := { plain "jdk/internal/util/ArraysSupport" (some 0) with
  accessFlags := 33
  interfaces := #[]
  cf := some (fileOf pool21 21 #[] #[{ accessFlags := 2, nameIndex := 9, descriptorIndex := 19, attributes := #[] }, { accessFlags := 9, nameIndex := 351, descriptorIndex := 352, attributes := #[] }] 33 16 #[] #[{ accessFlags := 24, nameIndex := 28, descriptorIndex := 29, attributes := #[] }, { accessFlags := 26, nameIndex := 38, descriptorIndex := 39, attributes := #[] }, { accessFlags := 25, nameIndex := 121, descriptorIndex := 25, attributes := #[] }, { accessFlags := 25, nameIndex := 131, descriptorIndex := 25, attributes := #[] }, { accessFlags := 25, nameIndex := 137, descriptorIndex := 25, attributes := #[] }, { accessFlags := 25, nameIndex := 143, descriptorIndex := 25, attributes := #[] }, { accessFlags := 25, nameIndex := 53, descriptorIndex := 25, attributes := #[] }, { accessFlags := 25, nameIndex := 24, descriptorIndex := 25, attributes := #[] }, { accessFlags := 25, nameIndex := 162, descriptorIndex := 25, attributes := #[] }, { accessFlags := 25, nameIndex := 187, descriptorIndex := 25, attributes := #[] }, { accessFlags := 26, nameIndex := 48, descriptorIndex := 25, attributes := #[] }, { accessFlags := 25, nameIndex := 277, descriptorIndex := 25, attributes := #[] }, { accessFlags := 25, nameIndex := 280, descriptorIndex := 25, attributes := #[] }, { accessFlags := 25, nameIndex := 282, descriptorIndex := 25, attributes := #[] }, { accessFlags := 25, nameIndex := 284, descriptorIndex := 25, attributes := #[] }, { accessFlags := 25, nameIndex := 286, descriptorIndex := 25, attributes := #[] }, { accessFlags := 25, nameIndex := 288, descriptorIndex := 25, attributes := #[] }, { accessFlags := 25, nameIndex := 290, descriptorIndex := 25, attributes := #[] }, { accessFlags := 25, nameIndex := 292, descriptorIndex := 25, attributes := #[] }, { accessFlags := 26, nameIndex := 108, descriptorIndex := 109, attributes := #[] }, { accessFlags := 25, nameIndex := 294, descriptorIndex := 25, attributes := #[] }])
  fields := #[{ name := "U", type := (.object "jdk/internal/misc/Unsafe"), accessFlags := 24, slot := 0, constantValue := 0 }, { name := "BIG_ENDIAN", type := .boolean, accessFlags := 26, slot := 1, constantValue := 0 }, { name := "LOG2_ARRAY_BOOLEAN_INDEX_SCALE", type := .int, accessFlags := 25, slot := 2, constantValue := 0 }, { name := "LOG2_ARRAY_BYTE_INDEX_SCALE", type := .int, accessFlags := 25, slot := 3, constantValue := 0 }, { name := "LOG2_ARRAY_CHAR_INDEX_SCALE", type := .int, accessFlags := 25, slot := 4, constantValue := 0 }, { name := "LOG2_ARRAY_SHORT_INDEX_SCALE", type := .int, accessFlags := 25, slot := 5, constantValue := 0 }, { name := "LOG2_ARRAY_INT_INDEX_SCALE", type := .int, accessFlags := 25, slot := 6, constantValue := 0 }, { name := "LOG2_ARRAY_LONG_INDEX_SCALE", type := .int, accessFlags := 25, slot := 7, constantValue := 0 }, { name := "LOG2_ARRAY_FLOAT_INDEX_SCALE", type := .int, accessFlags := 25, slot := 8, constantValue := 0 }, { name := "LOG2_ARRAY_DOUBLE_INDEX_SCALE", type := .int, accessFlags := 25, slot := 9, constantValue := 0 }, { name := "LOG2_BYTE_BIT_SIZE", type := .int, accessFlags := 26, slot := 10, constantValue := 0 }, { name := "T_BOOLEAN", type := .int, accessFlags := 25, slot := 11, constantValue := 0 }, { name := "T_CHAR", type := .int, accessFlags := 25, slot := 12, constantValue := 0 }, { name := "T_FLOAT", type := .int, accessFlags := 25, slot := 13, constantValue := 0 }, { name := "T_DOUBLE", type := .int, accessFlags := 25, slot := 14, constantValue := 0 }, { name := "T_BYTE", type := .int, accessFlags := 25, slot := 15, constantValue := 0 }, { name := "T_SHORT", type := .int, accessFlags := 25, slot := 16, constantValue := 0 }, { name := "T_INT", type := .int, accessFlags := 25, slot := 17, constantValue := 0 }, { name := "T_LONG", type := .int, accessFlags := 25, slot := 18, constantValue := 0 }, { name := "JLA", type := (.object "jdk/internal/access/JavaLangAccess"), accessFlags := 26, slot := 19, constantValue := 0 }, { name := "SOFT_MAX_ARRAY_LENGTH", type := .int, accessFlags := 25, slot := 20, constantValue := 0 }]
  methods := #[k21m0, k21m1]
  instanceTypes := #[]
  staticTypes := #[(.object "jdk/internal/misc/Unsafe"), .boolean, .int, .int, .int, .int, .int, .int, .int, .int, .int, .int, .int, .int, .int, .int, .int, .int, .int, (.object "jdk/internal/access/JavaLangAccess"), .int]
  resolved := Array.replicate 378 none
  statics := none }

def pool22 : Array CpInfo := pool [(2, .class_ 4), (1, u "java/lang/Object"), (0, u "<init>"), (0, u "()V"), (17, .class_ 26), (1, u "jdk/internal/util/Preconditions"), (28, .class_ 56), (0, u "jdk/internal/util/Preconditions$4"), (57, .class_ 115), (0, u "jdk/internal/util/Preconditions$1"), (7, u "SIOOBE_FORMATTER"), (0, u "Ljava/util/function/BiFunction;"), (0, .class_ 126), (0, u "jdk/internal/util/Preconditions$2"), (3, u "AIOOBE_FORMATTER"), (0, .class_ 132), (0, u "jdk/internal/util/Preconditions$3"), (3, u "IOOBE_FORMATTER")] 57

def k22m0 : Method := { name := "<init>", desc := "()V", sig := { parameters := [], returnType := none }, accessFlags := 1, code := none }
/-- jdk/internal/util/Preconditions -/
def k22 : Class := { plain "jdk/internal/util/Preconditions" (some 0) with
  accessFlags := 33
  interfaces := #[]
  cf := some (fileOf pool22 24 #[.nestMembers #[55, 131, 125, 114]] #[{ accessFlags := 1, nameIndex := 5, descriptorIndex := 6, attributes := #[] }] 33 2 #[] #[{ accessFlags := 25, nameIndex := 123, descriptorIndex := 124, attributes := #[] }, { accessFlags := 25, nameIndex := 130, descriptorIndex := 124, attributes := #[] }, { accessFlags := 25, nameIndex := 136, descriptorIndex := 124, attributes := #[] }])
  fields := #[{ name := "SIOOBE_FORMATTER", type := (.object "java/util/function/BiFunction"), accessFlags := 25, slot := 0, constantValue := 0 }, { name := "AIOOBE_FORMATTER", type := (.object "java/util/function/BiFunction"), accessFlags := 25, slot := 1, constantValue := 0 }, { name := "IOOBE_FORMATTER", type := (.object "java/util/function/BiFunction"), accessFlags := 25, slot := 2, constantValue := 0 }]
  methods := #[k22m0]
  instanceTypes := #[]
  staticTypes := #[(.object "java/util/function/BiFunction"), (.object "java/util/function/BiFunction"), (.object "java/util/function/BiFunction")]
  resolved := Array.replicate 194 none
  statics := some 2 }

/-- the primitive byte -/
def k23 : Class := { plain "byte" none with kind := .primitive 'B', accessFlags := 0x411 }
/-- [B -/
def k24 : Class := { plain "[B" (some 0) with kind := .array 23 .byte, interfaces := #[20, 2], accessFlags := 1041 }

/-- the primitive char -/
def k25 : Class := { plain "char" none with kind := .primitive 'C', accessFlags := 0x411 }
/-- [C -/
def k26 : Class := { plain "[C" (some 0) with kind := .array 25 .char, interfaces := #[20, 2], accessFlags := 1041 }

/-- the primitive int -/
def k27 : Class := { plain "int" none with kind := .primitive 'I', accessFlags := 0x411 }
/-- [I -/
def k28 : Class := { plain "[I" (some 0) with kind := .array 27 .int, interfaces := #[20, 2], accessFlags := 1041 }

def heap : Heap := #[{ cls := 7, slots := #[.long 0, .int 1, .null, .int 0, .null, .int 0, .int 0], vm := .statics 7 },
  { cls := 16, slots := #[.int 0, .int 0, .null, .null, .ref 4, .ref 3, .int 0, .int 0, .long 0], vm := .statics 16 },
  { cls := 22, slots := #[.null, .null, .null], vm := .statics 22 },
  { cls := 24, slots := #[.int 48, .int 49, .int 50, .int 51, .int 52, .int 53, .int 54, .int 55, .int 56, .int 57, .int 48, .int 49, .int 50, .int 51, .int 52, .int 53, .int 54, .int 55, .int 56, .int 57, .int 48, .int 49, .int 50, .int 51, .int 52, .int 53, .int 54, .int 55, .int 56, .int 57, .int 48, .int 49, .int 50, .int 51, .int 52, .int 53, .int 54, .int 55, .int 56, .int 57, .int 48, .int 49, .int 50, .int 51, .int 52, .int 53, .int 54, .int 55, .int 56, .int 57, .int 48, .int 49, .int 50, .int 51, .int 52, .int 53, .int 54, .int 55, .int 56, .int 57, .int 48, .int 49, .int 50, .int 51, .int 52, .int 53, .int 54, .int 55, .int 56, .int 57, .int 48, .int 49, .int 50, .int 51, .int 52, .int 53, .int 54, .int 55, .int 56, .int 57, .int 48, .int 49, .int 50, .int 51, .int 52, .int 53, .int 54, .int 55, .int 56, .int 57, .int 48, .int 49, .int 50, .int 51, .int 52, .int 53, .int 54, .int 55, .int 56, .int 57], vm := .none },
  { cls := 24, slots := #[.int 48, .int 48, .int 48, .int 48, .int 48, .int 48, .int 48, .int 48, .int 48, .int 48, .int 49, .int 49, .int 49, .int 49, .int 49, .int 49, .int 49, .int 49, .int 49, .int 49, .int 50, .int 50, .int 50, .int 50, .int 50, .int 50, .int 50, .int 50, .int 50, .int 50, .int 51, .int 51, .int 51, .int 51, .int 51, .int 51, .int 51, .int 51, .int 51, .int 51, .int 52, .int 52, .int 52, .int 52, .int 52, .int 52, .int 52, .int 52, .int 52, .int 52, .int 53, .int 53, .int 53, .int 53, .int 53, .int 53, .int 53, .int 53, .int 53, .int 53, .int 54, .int 54, .int 54, .int 54, .int 54, .int 54, .int 54, .int 54, .int 54, .int 54, .int 55, .int 55, .int 55, .int 55, .int 55, .int 55, .int 55, .int 55, .int 55, .int 55, .int 56, .int 56, .int 56, .int 56, .int 56, .int 56, .int 56, .int 56, .int 56, .int 56, .int 57, .int 57, .int 57, .int 57, .int 57, .int 57, .int 57, .int 57, .int 57, .int 57], vm := .none }]
def classes : Array Class := #[k0, k1, k2, k3, k4, k5, k6, k7, k8, k9, k10, k11, k12, k13, k14, k15, k16, k17, k18, k19, k20, k21, k22, k23, k24, k25, k26, k27, k28]
def interned : List (Array UInt16 × Addr) := []
def slotsUsed : Nat := 219
def theMethod : MethodId := ⟨1, 5⟩
def args0 : Array Value := #[.int 5, .int 70, .int 3, .int 9]
def aboutOver (below : List Frame) : State where
  vm := { classes := classes, interned := interned.toArray }
  heap := heap
  slotsUsed := slotsUsed
  threads := #[{ frames := .invoking theMethod args0 :: below }]
def below0 : List Frame := [.native { method := ⟨0, 0⟩, args := #[] }]
def about1 : State := aboutOver below0
def p0 : Program := .bare "" "" ""
def e0 : Env := launch0.env 0 0 0
theorem w_frames : about1.frames = Frame.invoking theMethod args0 :: below0 := rfl
set_option maxRecDepth 65536 in
theorem w_args : argsFit about1.vm theMethod args0 = true := by decide +kernel
set_option maxRecDepth 65536 in
theorem w_heap : heapFits about1 = true := by decide +kernel
set_option maxRecDepth 65536 in
theorem w_runnable : about1.curStatus? = some .runnable := by decide +kernel
set_option maxRecDepth 65536 in
theorem w_alone : about1.alone = true := by decide +kernel
set_option maxRecDepth 65536 in
theorem w_named : about1.methodNamed? x = some theMethod := by decide +kernel
set_option maxRecDepth 65536 in
theorem w_hears : about1.hears theMethod below0 = true := by decide +kernel
set_option maxRecDepth 65536 in
theorem w_ripe : about1.ripe theMethod args0 below0 = true := by decide +kernel
theorem w_running : about1.status = .running := rfl
set_option maxRecDepth 65536 in
theorem w_room : about1.hasRoom e0.platform room_1 = true :=
  launch0.hasRoom_least _ room_1 (by decide +kernel) (by decide +kernel) (by decide +kernel) (by decide +kernel) (by decide +kernel) (by decide +kernel)
theorem allAtoms_all (ts : List Jvm.Cond) (a : Array Jvm.Value) (st : Jvm.State) : (allAtoms ts).before a st = ts.all (fun c => c.before a st) := by
  induction ts with
  | nil => rfl
  | cons c t ih =>
    show (Jvm.Cond.and c (allAtoms t)).before a st = _
    rw [Jvm.Cond.before_and, ih, List.all_cons]
def words1 : List Jvm.Cond := Jvm.Cond.code x code maxLocals ret :: tables_1
/-- a 'code' word, met by the world's own term for the bytes: nothing is compared byte by byte -/
theorem code_word {y : MethodName} {bytes : ByteArray} {mx : Nat} {rt : Option FieldType} {a : Array Value} {s : State} {m : MethodId} {meth : Method} {c : Code} (h1 : s.methodNamed? y = some m) (h2 : s.vm.method? m = some meth) (h3 : meth.code = some c) (h4 : c.code = bytes)
    (h5 : (c.maxLocals == mx && c.exceptionTable.isEmpty && decide (c.maxStack ≤ mostOperands) && decide (meth.sig.returnType = rt) && !meth.locks && decide (parseMethodDescriptor y.desc = some meth.sig)) = true) : (Jvm.Cond.code y bytes mx rt).before a s = true := by
  simp only [Bool.and_eq_true, beq_iff_eq, Bool.not_eq_true', decide_eq_true_eq] at h5
  obtain ⟨⟨⟨⟨⟨g1, g2⟩, g3⟩, g4⟩, g5⟩, g6⟩ := h5
  simp [Cond.before, Cond.holds, Cond.value, h1, h2, h3, h4, g1, g2, g3, g4, g5, g6]
def isCode : Jvm.Cond → Bool
  | .code _ _ _ _ => true
  | _ => false
theorem all_split {L : List Jvm.Cond} {P : Jvm.Cond → Bool} (h1 : L.all (fun c => isCode c || P c) = true) (h2 : ∀ c ∈ L.filter isCode, P c = true) : L.all P = true := by
  refine List.all_eq_true.mpr fun c hc => ?_
  have h := List.all_eq_true.mp h1 c hc
  rcases Bool.eq_false_or_eq_true (isCode c) with hi | hi
  · exact h2 c (List.mem_filter.mpr ⟨hc, hi⟩)
  · simpa [hi] using h
set_option maxRecDepth 65536 in
theorem w_c0 : (Jvm.Cond.code x code maxLocals ret).before args0 about1 = true := code_word (m := ⟨1, 5⟩) (meth := k1m5) (c := k1c5) (by decide +kernel) rfl rfl rfl (by decide +kernel)
set_option maxRecDepth 65536 in
theorem w_c1 : (Jvm.Cond.code ({ cls := "com/example/handover/handover/ProblemToStringPinLaw", name := "make", desc := "(II)Ljava/lang/String;" } : Jvm.MethodName) method_2_code (3 : Nat) (Option.some (Jvm.ClassFile.FieldType.object "java/lang/String"))).before args0 about1 = true := code_word (m := ⟨1, 1⟩) (meth := k1m1) (c := k1c1) (by decide +kernel) rfl rfl rfl (by decide +kernel)
set_option maxRecDepth 65536 in
theorem w_c2 : (Jvm.Cond.code ({ cls := "java/lang/String", name := "<init>", desc := "([C)V" } : Jvm.MethodName) jdk_42_method_3_code (2 : Nat) (Option.none : Option Jvm.ClassFile.FieldType)).before args0 about1 = true := code_word (m := ⟨7, 1⟩) (meth := k7m1) (c := k7c1) (by decide +kernel) rfl rfl rfl (by decide +kernel)
set_option maxRecDepth 65536 in
theorem w_c3 : (Jvm.Cond.code ({ cls := "java/lang/String", name := "<init>", desc := "([CIILjava/lang/Void;)V" } : Jvm.MethodName) jdk_42_method_149_code (6 : Nat) (Option.none : Option Jvm.ClassFile.FieldType)).before args0 about1 = true := code_word (m := ⟨7, 6⟩) (meth := k7m6) (c := k7c6) (by decide +kernel) rfl rfl rfl (by decide +kernel)
set_option maxRecDepth 65536 in
theorem w_c4 : (Jvm.Cond.code ({ cls := "java/lang/Object", name := "<init>", desc := "()V" } : Jvm.MethodName) object_method_1_code (1 : Nat) (Option.none : Option Jvm.ClassFile.FieldType)).before args0 about1 = true := code_word (m := ⟨0, 0⟩) (meth := k0m0) (c := k0c0) (by decide +kernel) rfl rfl rfl (by decide +kernel)
set_option maxRecDepth 65536 in
theorem w_c5 : (Jvm.Cond.code ({ cls := "java/lang/StringUTF16", name := "compress", desc := "([CII)[B" } : Jvm.MethodName) jdk_52_method_16_code (6 : Nat) (Option.some (Jvm.ClassFile.FieldType.array Jvm.ClassFile.FieldType.byte))).before args0 about1 = true := code_word (m := ⟨8, 2⟩) (meth := k8m2) (c := k8c2) (by decide +kernel) rfl rfl rfl (by decide +kernel)
set_option maxRecDepth 65536 in
theorem w_c6 : (Jvm.Cond.code ({ cls := "java/lang/StringUTF16", name := "compress", desc := "([CI[BII)I" } : Jvm.MethodName) jdk_52_method_21_code (7 : Nat) (Option.some Jvm.ClassFile.FieldType.int)).before args0 about1 = true := code_word (m := ⟨8, 3⟩) (meth := k8m3) (c := k8c3) (by decide +kernel) rfl rfl rfl (by decide +kernel)
set_option maxRecDepth 65536 in
theorem w_c7 : (Jvm.Cond.code ({ cls := "java/lang/StringUTF16", name := "coderFromArrayLen", desc := "([BI)B" } : Jvm.MethodName) jdk_52_method_15_code (2 : Nat) (Option.some Jvm.ClassFile.FieldType.byte)).before args0 about1 = true := code_word (m := ⟨8, 1⟩) (meth := k8m1) (c := k8c1) (by decide +kernel) rfl rfl rfl (by decide +kernel)
set_option maxRecDepth 65536 in
theorem w_c8 : (Jvm.Cond.code ({ cls := "com/example/handover/handover/ConfigException$Problem", name := "<init>", desc := "(Ljava/lang/String;ILjava/lang/String;)V" } : Jvm.MethodName) prog_2_method_1_code (4 : Nat) (Option.none : Option Jvm.ClassFile.FieldType)).before args0 about1 = true := code_word (m := ⟨10, 0⟩) (meth := k10m0) (c := k10c0) (by decide +kernel) rfl rfl rfl (by decide +kernel)
set_option maxRecDepth 65536 in
theorem w_c9 : (Jvm.Cond.code ({ cls := "java/lang/Record", name := "<init>", desc := "()V" } : Jvm.MethodName) jdk_30_method_1_code (1 : Nat) (Option.none : Option Jvm.ClassFile.FieldType)).before args0 about1 = true := code_word (m := ⟨9, 0⟩) (meth := k9m0) (c := k9c0) (by decide +kernel) rfl rfl rfl (by decide +kernel)
set_option maxRecDepth 65536 in
theorem w_c10 : (Jvm.Cond.code ({ cls := "com/example/handover/handover/ConfigException$Problem", name := "toString", desc := "()Ljava/lang/String;" } : Jvm.MethodName) prog_2_method_2_code (1 : Nat) (Option.some (Jvm.ClassFile.FieldType.object "java/lang/String"))).before args0 about1 = true := code_word (m := ⟨10, 1⟩) (meth := k10m1) (c := k10c1) (by decide +kernel) rfl rfl rfl (by decide +kernel)
set_option maxRecDepth 65536 in
theorem w_c11 : (Jvm.Cond.code ({ cls := "java/lang/StringBuilder", name := "<init>", desc := "()V" } : Jvm.MethodName) jdk_67_method_1_code (1 : Nat) (Option.none : Option Jvm.ClassFile.FieldType)).before args0 about1 = true := code_word (m := ⟨13, 0⟩) (meth := k13m0) (c := k13c0) (by decide +kernel) rfl rfl rfl (by decide +kernel)
set_option maxRecDepth 65536 in
theorem w_c12 : (Jvm.Cond.code ({ cls := "java/lang/AbstractStringBuilder", name := "<init>", desc := "(I)V" } : Jvm.MethodName) jdk_68_method_2_code (2 : Nat) (Option.none : Option Jvm.ClassFile.FieldType)).before args0 about1 = true := code_word (m := ⟨12, 1⟩) (meth := k12m1) (c := k12c1) (by decide +kernel) rfl rfl rfl (by decide +kernel)
set_option maxRecDepth 65536 in
theorem w_c13 : (Jvm.Cond.code ({ cls := "java/lang/StringBuilder", name := "append", desc := "(Ljava/lang/String;)Ljava/lang/StringBuilder;" } : Jvm.MethodName) jdk_67_method_7_code (2 : Nat) (Option.some (Jvm.ClassFile.FieldType.object "java/lang/StringBuilder"))).before args0 about1 = true := code_word (m := ⟨13, 1⟩) (meth := k13m1) (c := k13c1) (by decide +kernel) rfl rfl rfl (by decide +kernel)
set_option maxRecDepth 65536 in
theorem w_c14 : (Jvm.Cond.code ({ cls := "java/lang/AbstractStringBuilder", name := "append", desc := "(Ljava/lang/String;)Ljava/lang/AbstractStringBuilder;" } : Jvm.MethodName) jdk_68_method_22_code (3 : Nat) (Option.some (Jvm.ClassFile.FieldType.object "java/lang/AbstractStringBuilder"))).before args0 about1 = true := code_word (m := ⟨12, 5⟩) (meth := k12m5) (c := k12c5) (by decide +kernel) rfl rfl rfl (by decide +kernel)
set_option maxRecDepth 65536 in
theorem w_c15 : (Jvm.Cond.code ({ cls := "java/lang/String", name := "length", desc := "()I" } : Jvm.MethodName) jdk_42_method_54_code (1 : Nat) (Option.some Jvm.ClassFile.FieldType.int)).before args0 about1 = true := code_word (m := ⟨7, 3⟩) (meth := k7m3) (c := k7c3) (by decide +kernel) rfl rfl rfl (by decide +kernel)
set_option maxRecDepth 65536 in
theorem w_c16 : (Jvm.Cond.code ({ cls := "java/lang/String", name := "coder", desc := "()B" } : Jvm.MethodName) jdk_42_method_152_code (1 : Nat) (Option.some Jvm.ClassFile.FieldType.byte)).before args0 about1 = true := code_word (m := ⟨7, 8⟩) (meth := k7m8) (c := k7c8) (by decide +kernel) rfl rfl rfl (by decide +kernel)
set_option maxRecDepth 65536 in
theorem w_c17 : (Jvm.Cond.code ({ cls := "java/lang/AbstractStringBuilder", name := "ensureCapacityInternal", desc := "(I)V" } : Jvm.MethodName) jdk_68_method_9_code (3 : Nat) (Option.none : Option Jvm.ClassFile.FieldType)).before args0 about1 = true := code_word (m := ⟨12, 3⟩) (meth := k12m3) (c := k12c3) (by decide +kernel) rfl rfl rfl (by decide +kernel)
set_option maxRecDepth 65536 in
theorem w_c18 : (Jvm.Cond.code ({ cls := "java/lang/AbstractStringBuilder", name := "putStringAt", desc := "(ILjava/lang/String;)V" } : Jvm.MethodName) jdk_68_method_73_code (3 : Nat) (Option.none : Option Jvm.ClassFile.FieldType)).before args0 about1 = true := code_word (m := ⟨12, 11⟩) (meth := k12m11) (c := k12c11) (by decide +kernel) rfl rfl rfl (by decide +kernel)
set_option maxRecDepth 65536 in
theorem w_c19 : (Jvm.Cond.code ({ cls := "java/lang/AbstractStringBuilder", name := "inflateIfNeededFor", desc := "(Ljava/lang/String;)V" } : Jvm.MethodName) jdk_68_method_71_code (2 : Nat) (Option.none : Option Jvm.ClassFile.FieldType)).before args0 about1 = true := code_word (m := ⟨12, 10⟩) (meth := k12m10) (c := k12c10) (by decide +kernel) rfl rfl rfl (by decide +kernel)
set_option maxRecDepth 65536 in
theorem w_c20 : (Jvm.Cond.code ({ cls := "java/lang/String", name := "getBytes", desc := "([BIB)V" } : Jvm.MethodName) jdk_42_method_147_code (4 : Nat) (Option.none : Option Jvm.ClassFile.FieldType)).before args0 about1 = true := code_word (m := ⟨7, 5⟩) (meth := k7m5) (c := k7c5) (by decide +kernel) rfl rfl rfl (by decide +kernel)
set_option maxRecDepth 65536 in
theorem w_c21 : (Jvm.Cond.code ({ cls := "java/lang/StringBuilder", name := "append", desc := "(I)Ljava/lang/StringBuilder;" } : Jvm.MethodName) jdk_67_method_15_code (2 : Nat) (Option.some (Jvm.ClassFile.FieldType.object "java/lang/StringBuilder"))).before args0 about1 = true := code_word (m := ⟨13, 2⟩) (meth := k13m2) (c := k13c2) (by decide +kernel) rfl rfl rfl (by decide +kernel)
set_option maxRecDepth 65536 in
theorem w_c22 : (Jvm.Cond.code ({ cls := "java/lang/AbstractStringBuilder", name := "append", desc := "(I)Ljava/lang/AbstractStringBuilder;" } : Jvm.MethodName) jdk_68_method_32_code (4 : Nat) (Option.some (Jvm.ClassFile.FieldType.object "java/lang/AbstractStringBuilder"))).before args0 about1 = true := code_word (m := ⟨12, 7⟩) (meth := k12m7) (c := k12c7) (by decide +kernel) rfl rfl rfl (by decide +kernel)
set_option maxRecDepth 65536 in
theorem w_c23 : (Jvm.Cond.code ({ cls := "java/lang/Integer", name := "stringSize", desc := "(I)I" } : Jvm.MethodName) jdk_33_method_13_code (4 : Nat) (Option.some Jvm.ClassFile.FieldType.int)).before args0 about1 = true := code_word (m := ⟨16, 1⟩) (meth := k16m1) (c := k16c1) (by decide +kernel) rfl rfl rfl (by decide +kernel)
set_option maxRecDepth 65536 in
theorem w_c24 : (Jvm.Cond.code ({ cls := "java/lang/AbstractStringBuilder", name := "isLatin1", desc := "()Z" } : Jvm.MethodName) jdk_68_method_68_code (1 : Nat) (Option.some Jvm.ClassFile.FieldType.boolean)).before args0 about1 = true := code_word (m := ⟨12, 9⟩) (meth := k12m9) (c := k12c9) (by decide +kernel) rfl rfl rfl (by decide +kernel)
set_option maxRecDepth 65536 in
theorem w_c25 : (Jvm.Cond.code ({ cls := "java/lang/Integer", name := "getChars", desc := "(II[B)I" } : Jvm.MethodName) jdk_33_method_12_code (7 : Nat) (Option.some Jvm.ClassFile.FieldType.int)).before args0 about1 = true := code_word (m := ⟨16, 0⟩) (meth := k16m0) (c := k16c0) (by decide +kernel) rfl rfl rfl (by decide +kernel)
set_option maxRecDepth 65536 in
theorem w_c26 : (Jvm.Cond.code ({ cls := "java/lang/StringBuilder", name := "toString", desc := "()Ljava/lang/String;" } : Jvm.MethodName) jdk_67_method_42_code (1 : Nat) (Option.some (Jvm.ClassFile.FieldType.object "java/lang/String"))).before args0 about1 = true := code_word (m := ⟨13, 3⟩) (meth := k13m3) (c := k13c3) (by decide +kernel) rfl rfl rfl (by decide +kernel)
set_option maxRecDepth 65536 in
theorem w_c27 : (Jvm.Cond.code ({ cls := "java/lang/String", name := "<init>", desc := "(Ljava/lang/StringBuilder;)V" } : Jvm.MethodName) jdk_42_method_53_code (2 : Nat) (Option.none : Option Jvm.ClassFile.FieldType)).before args0 about1 = true := code_word (m := ⟨7, 2⟩) (meth := k7m2) (c := k7c2) (by decide +kernel) rfl rfl rfl (by decide +kernel)
set_option maxRecDepth 65536 in
theorem w_c28 : (Jvm.Cond.code ({ cls := "java/lang/String", name := "<init>", desc := "(Ljava/lang/AbstractStringBuilder;Ljava/lang/Void;)V" } : Jvm.MethodName) jdk_42_method_150_code (5 : Nat) (Option.none : Option Jvm.ClassFile.FieldType)).before args0 about1 = true := code_word (m := ⟨7, 7⟩) (meth := k7m7) (c := k7c7) (by decide +kernel) rfl rfl rfl (by decide +kernel)
set_option maxRecDepth 65536 in
theorem w_c29 : (Jvm.Cond.code ({ cls := "java/lang/AbstractStringBuilder", name := "getValue", desc := "()[B" } : Jvm.MethodName) jdk_68_method_64_code (1 : Nat) (Option.some (Jvm.ClassFile.FieldType.array Jvm.ClassFile.FieldType.byte))).before args0 about1 = true := code_word (m := ⟨12, 8⟩) (meth := k12m8) (c := k12c8) (by decide +kernel) rfl rfl rfl (by decide +kernel)
set_option maxRecDepth 65536 in
theorem w_c30 : (Jvm.Cond.code ({ cls := "java/lang/StringBuilder", name := "length", desc := "()I" } : Jvm.MethodName) jdk_67_method_93_code (1 : Nat) (Option.some Jvm.ClassFile.FieldType.int)).before args0 about1 = true := code_word (m := ⟨13, 4⟩) (meth := k13m4) (c := k13c4) (by decide +kernel) rfl rfl rfl (by decide +kernel)
set_option maxRecDepth 65536 in
theorem w_c31 : (Jvm.Cond.code ({ cls := "java/lang/AbstractStringBuilder", name := "length", desc := "()I" } : Jvm.MethodName) jdk_68_method_6_code (1 : Nat) (Option.some Jvm.ClassFile.FieldType.int)).before args0 about1 = true := code_word (m := ⟨12, 2⟩) (meth := k12m2) (c := k12c2) (by decide +kernel) rfl rfl rfl (by decide +kernel)
set_option maxRecDepth 65536 in
theorem w_c32 : (Jvm.Cond.code ({ cls := "java/util/Arrays", name := "copyOfRange", desc := "([BII)[B" } : Jvm.MethodName) jdk_65_method_132_code (3 : Nat) (Option.some (Jvm.ClassFile.FieldType.array Jvm.ClassFile.FieldType.byte))).before args0 about1 = true := code_word (m := ⟨17, 3⟩) (meth := k17m3) (c := k17c3) (by decide +kernel) rfl rfl rfl (by decide +kernel)
set_option maxRecDepth 65536 in
theorem w_c33 : (Jvm.Cond.code ({ cls := "java/util/Arrays", name := "copyOfRangeByte", desc := "([BII)[B" } : Jvm.MethodName) jdk_65_method_133_code (5 : Nat) (Option.some (Jvm.ClassFile.FieldType.array Jvm.ClassFile.FieldType.byte))).before args0 about1 = true := code_word (m := ⟨17, 4⟩) (meth := k17m4) (c := k17c4) (by decide +kernel) rfl rfl rfl (by decide +kernel)
set_option maxRecDepth 65536 in
theorem w_c34 : (Jvm.Cond.code ({ cls := "java/util/Arrays", name := "checkLength", desc := "(II)V" } : Jvm.MethodName) jdk_65_method_131_code (2 : Nat) (Option.none : Option Jvm.ClassFile.FieldType)).before args0 about1 = true := code_word (m := ⟨17, 2⟩) (meth := k17m2) (c := k17c2) (by decide +kernel) rfl rfl rfl (by decide +kernel)
set_option maxRecDepth 65536 in
theorem w_c35 : (Jvm.Cond.code ({ cls := "java/lang/Math", name := "min", desc := "(II)I" } : Jvm.MethodName) jdk_29_method_69_code (2 : Nat) (Option.some Jvm.ClassFile.FieldType.int)).before args0 about1 = true := code_word (m := ⟨18, 2⟩) (meth := k18m2) (c := k18c2) (by decide +kernel) rfl rfl rfl (by decide +kernel)
set_option maxRecDepth 65536 in
theorem w_c36 : (Jvm.Cond.code ({ cls := "com/example/handover/handover/ProblemToStringPinLaw", name := "part", desc := "(II)[C" } : Jvm.MethodName) method_3_code (3 : Nat) (Option.some (Jvm.ClassFile.FieldType.array Jvm.ClassFile.FieldType.char))).before args0 about1 = true := code_word (m := ⟨1, 2⟩) (meth := k1m2) (c := k1c2) (by decide +kernel) rfl rfl rfl (by decide +kernel)
set_option maxRecDepth 65536 in
theorem w_c37 : (Jvm.Cond.code ({ cls := "com/example/handover/handover/ProblemToStringPinLaw", name := "copy4", desc := "([CI[C)I" } : Jvm.MethodName) method_4_code (4 : Nat) (Option.some Jvm.ClassFile.FieldType.int)).before args0 about1 = true := code_word (m := ⟨1, 3⟩) (meth := k1m3) (c := k1c3) (by decide +kernel) rfl rfl rfl (by decide +kernel)
set_option maxRecDepth 65536 in
theorem w_c38 : (Jvm.Cond.code ({ cls := "com/example/handover/handover/ProblemToStringPinLaw", name := "putDigit", desc := "([CIIIJJ)I" } : Jvm.MethodName) method_5_code (8 : Nat) (Option.some Jvm.ClassFile.FieldType.int)).before args0 about1 = true := code_word (m := ⟨1, 4⟩) (meth := k1m4) (c := k1c4) (by decide +kernel) rfl rfl rfl (by decide +kernel)
set_option maxRecDepth 65536 in
theorem w_c39 : (Jvm.Cond.code ({ cls := "java/lang/String", name := "equals", desc := "(Ljava/lang/Object;)Z" } : Jvm.MethodName) jdk_42_method_66_code (3 : Nat) (Option.some Jvm.ClassFile.FieldType.boolean)).before args0 about1 = true := code_word (m := ⟨7, 4⟩) (meth := k7m4) (c := k7c4) (by decide +kernel) rfl rfl rfl (by decide +kernel)
set_option maxRecDepth 65536 in
theorem w_c40 : (Jvm.Cond.code ({ cls := "java/lang/StringLatin1", name := "equals", desc := "([B[B)Z" } : Jvm.MethodName) jdk_43_method_13_code (3 : Nat) (Option.some Jvm.ClassFile.FieldType.boolean)).before args0 about1 = true := code_word (m := ⟨19, 1⟩) (meth := k19m1) (c := k19c1) (by decide +kernel) rfl rfl rfl (by decide +kernel)
set_option maxRecDepth 65536 in
theorem w_c41 : (Jvm.Cond.code ({ cls := "java/lang/AbstractStringBuilder", name := "appendNull", desc := "()Ljava/lang/AbstractStringBuilder;" } : Jvm.MethodName) jdk_68_method_26_code (3 : Nat) (Option.some (Jvm.ClassFile.FieldType.object "java/lang/AbstractStringBuilder"))).before args0 about1 = true := code_word (m := ⟨12, 6⟩) (meth := k12m6) (c := k12c6) (by decide +kernel) rfl rfl rfl (by decide +kernel)
set_option maxRecDepth 65536 in
theorem w_c42 : (Jvm.Cond.code ({ cls := "java/lang/AbstractStringBuilder", name := "newCapacity", desc := "(I)I" } : Jvm.MethodName) jdk_68_method_10_code (6 : Nat) (Option.some Jvm.ClassFile.FieldType.int)).before args0 about1 = true := code_word (m := ⟨12, 4⟩) (meth := k12m4) (c := k12c4) (by decide +kernel) rfl rfl rfl (by decide +kernel)
set_option maxRecDepth 65536 in
theorem w_c43 : (Jvm.Cond.code ({ cls := "jdk/internal/util/ArraysSupport", name := "newLength", desc := "(III)I" } : Jvm.MethodName) jdk_48_method_27_code (4 : Nat) (Option.some Jvm.ClassFile.FieldType.int)).before args0 about1 = true := code_word (m := ⟨21, 1⟩) (meth := k21m1) (c := k21c1) (by decide +kernel) rfl rfl rfl (by decide +kernel)
set_option maxRecDepth 65536 in
theorem w_c44 : (Jvm.Cond.code ({ cls := "java/lang/Math", name := "max", desc := "(II)I" } : Jvm.MethodName) jdk_29_method_65_code (2 : Nat) (Option.some Jvm.ClassFile.FieldType.int)).before args0 about1 = true := code_word (m := ⟨18, 1⟩) (meth := k18m1) (c := k18c1) (by decide +kernel) rfl rfl rfl (by decide +kernel)
set_option maxRecDepth 65536 in
theorem w_c45 : (Jvm.Cond.code ({ cls := "java/util/Arrays", name := "copyOf", desc := "([BI)[B" } : Jvm.MethodName) jdk_65_method_121_code (3 : Nat) (Option.some (Jvm.ClassFile.FieldType.array Jvm.ClassFile.FieldType.byte))).before args0 about1 = true := code_word (m := ⟨17, 1⟩) (meth := k17m1) (c := k17c1) (by decide +kernel) rfl rfl rfl (by decide +kernel)
def codes1 : List Jvm.Cond := [Jvm.Cond.code x code maxLocals ret, Jvm.Cond.code ({ cls := "com/example/handover/handover/ProblemToStringPinLaw", name := "make", desc := "(II)Ljava/lang/String;" } : Jvm.MethodName) method_2_code (3 : Nat) (Option.some (Jvm.ClassFile.FieldType.object "java/lang/String")), Jvm.Cond.code ({ cls := "java/lang/String", name := "<init>", desc := "([C)V" } : Jvm.MethodName) jdk_42_method_3_code (2 : Nat) (Option.none : Option Jvm.ClassFile.FieldType), Jvm.Cond.code ({ cls := "java/lang/String", name := "<init>", desc := "([CIILjava/lang/Void;)V" } : Jvm.MethodName) jdk_42_method_149_code (6 : Nat) (Option.none : Option Jvm.ClassFile.FieldType), Jvm.Cond.code ({ cls := "java/lang/Object", name := "<init>", desc := "()V" } : Jvm.MethodName) object_method_1_code (1 : Nat) (Option.none : Option Jvm.ClassFile.FieldType), Jvm.Cond.code ({ cls := "java/lang/StringUTF16", name := "compress", desc := "([CII)[B" } : Jvm.MethodName) jdk_52_method_16_code (6 : Nat) (Option.some (Jvm.ClassFile.FieldType.array Jvm.ClassFile.FieldType.byte)), Jvm.Cond.code ({ cls := "java/lang/StringUTF16", name := "compress", desc := "([CI[BII)I" } : Jvm.MethodName) jdk_52_method_21_code (7 : Nat) (Option.some Jvm.ClassFile.FieldType.int), Jvm.Cond.code ({ cls := "java/lang/StringUTF16", name := "coderFromArrayLen", desc := "([BI)B" } : Jvm.MethodName) jdk_52_method_15_code (2 : Nat) (Option.some Jvm.ClassFile.FieldType.byte), Jvm.Cond.code ({ cls := "com/example/handover/handover/ConfigException$Problem", name := "<init>", desc := "(Ljava/lang/String;ILjava/lang/String;)V" } : Jvm.MethodName) prog_2_method_1_code (4 : Nat) (Option.none : Option Jvm.ClassFile.FieldType), Jvm.Cond.code ({ cls := "java/lang/Record", name := "<init>", desc := "()V" } : Jvm.MethodName) jdk_30_method_1_code (1 : Nat) (Option.none : Option Jvm.ClassFile.FieldType), Jvm.Cond.code ({ cls := "com/example/handover/handover/ConfigException$Problem", name := "toString", desc := "()Ljava/lang/String;" } : Jvm.MethodName) prog_2_method_2_code (1 : Nat) (Option.some (Jvm.ClassFile.FieldType.object "java/lang/String")), Jvm.Cond.code ({ cls := "java/lang/StringBuilder", name := "<init>", desc := "()V" } : Jvm.MethodName) jdk_67_method_1_code (1 : Nat) (Option.none : Option Jvm.ClassFile.FieldType), Jvm.Cond.code ({ cls := "java/lang/AbstractStringBuilder", name := "<init>", desc := "(I)V" } : Jvm.MethodName) jdk_68_method_2_code (2 : Nat) (Option.none : Option Jvm.ClassFile.FieldType), Jvm.Cond.code ({ cls := "java/lang/StringBuilder", name := "append", desc := "(Ljava/lang/String;)Ljava/lang/StringBuilder;" } : Jvm.MethodName) jdk_67_method_7_code (2 : Nat) (Option.some (Jvm.ClassFile.FieldType.object "java/lang/StringBuilder")), Jvm.Cond.code ({ cls := "java/lang/AbstractStringBuilder", name := "append", desc := "(Ljava/lang/String;)Ljava/lang/AbstractStringBuilder;" } : Jvm.MethodName) jdk_68_method_22_code (3 : Nat) (Option.some (Jvm.ClassFile.FieldType.object "java/lang/AbstractStringBuilder")), Jvm.Cond.code ({ cls := "java/lang/String", name := "length", desc := "()I" } : Jvm.MethodName) jdk_42_method_54_code (1 : Nat) (Option.some Jvm.ClassFile.FieldType.int), Jvm.Cond.code ({ cls := "java/lang/String", name := "coder", desc := "()B" } : Jvm.MethodName) jdk_42_method_152_code (1 : Nat) (Option.some Jvm.ClassFile.FieldType.byte), Jvm.Cond.code ({ cls := "java/lang/AbstractStringBuilder", name := "ensureCapacityInternal", desc := "(I)V" } : Jvm.MethodName) jdk_68_method_9_code (3 : Nat) (Option.none : Option Jvm.ClassFile.FieldType), Jvm.Cond.code ({ cls := "java/lang/AbstractStringBuilder", name := "putStringAt", desc := "(ILjava/lang/String;)V" } : Jvm.MethodName) jdk_68_method_73_code (3 : Nat) (Option.none : Option Jvm.ClassFile.FieldType), Jvm.Cond.code ({ cls := "java/lang/AbstractStringBuilder", name := "inflateIfNeededFor", desc := "(Ljava/lang/String;)V" } : Jvm.MethodName) jdk_68_method_71_code (2 : Nat) (Option.none : Option Jvm.ClassFile.FieldType), Jvm.Cond.code ({ cls := "java/lang/String", name := "getBytes", desc := "([BIB)V" } : Jvm.MethodName) jdk_42_method_147_code (4 : Nat) (Option.none : Option Jvm.ClassFile.FieldType), Jvm.Cond.code ({ cls := "java/lang/StringBuilder", name := "append", desc := "(I)Ljava/lang/StringBuilder;" } : Jvm.MethodName) jdk_67_method_15_code (2 : Nat) (Option.some (Jvm.ClassFile.FieldType.object "java/lang/StringBuilder")), Jvm.Cond.code ({ cls := "java/lang/AbstractStringBuilder", name := "append", desc := "(I)Ljava/lang/AbstractStringBuilder;" } : Jvm.MethodName) jdk_68_method_32_code (4 : Nat) (Option.some (Jvm.ClassFile.FieldType.object "java/lang/AbstractStringBuilder")), Jvm.Cond.code ({ cls := "java/lang/Integer", name := "stringSize", desc := "(I)I" } : Jvm.MethodName) jdk_33_method_13_code (4 : Nat) (Option.some Jvm.ClassFile.FieldType.int), Jvm.Cond.code ({ cls := "java/lang/AbstractStringBuilder", name := "isLatin1", desc := "()Z" } : Jvm.MethodName) jdk_68_method_68_code (1 : Nat) (Option.some Jvm.ClassFile.FieldType.boolean), Jvm.Cond.code ({ cls := "java/lang/Integer", name := "getChars", desc := "(II[B)I" } : Jvm.MethodName) jdk_33_method_12_code (7 : Nat) (Option.some Jvm.ClassFile.FieldType.int), Jvm.Cond.code ({ cls := "java/lang/StringBuilder", name := "toString", desc := "()Ljava/lang/String;" } : Jvm.MethodName) jdk_67_method_42_code (1 : Nat) (Option.some (Jvm.ClassFile.FieldType.object "java/lang/String")), Jvm.Cond.code ({ cls := "java/lang/String", name := "<init>", desc := "(Ljava/lang/StringBuilder;)V" } : Jvm.MethodName) jdk_42_method_53_code (2 : Nat) (Option.none : Option Jvm.ClassFile.FieldType), Jvm.Cond.code ({ cls := "java/lang/String", name := "<init>", desc := "(Ljava/lang/AbstractStringBuilder;Ljava/lang/Void;)V" } : Jvm.MethodName) jdk_42_method_150_code (5 : Nat) (Option.none : Option Jvm.ClassFile.FieldType), Jvm.Cond.code ({ cls := "java/lang/AbstractStringBuilder", name := "getValue", desc := "()[B" } : Jvm.MethodName) jdk_68_method_64_code (1 : Nat) (Option.some (Jvm.ClassFile.FieldType.array Jvm.ClassFile.FieldType.byte)), Jvm.Cond.code ({ cls := "java/lang/StringBuilder", name := "length", desc := "()I" } : Jvm.MethodName) jdk_67_method_93_code (1 : Nat) (Option.some Jvm.ClassFile.FieldType.int), Jvm.Cond.code ({ cls := "java/lang/AbstractStringBuilder", name := "length", desc := "()I" } : Jvm.MethodName) jdk_68_method_6_code (1 : Nat) (Option.some Jvm.ClassFile.FieldType.int), Jvm.Cond.code ({ cls := "java/util/Arrays", name := "copyOfRange", desc := "([BII)[B" } : Jvm.MethodName) jdk_65_method_132_code (3 : Nat) (Option.some (Jvm.ClassFile.FieldType.array Jvm.ClassFile.FieldType.byte)), Jvm.Cond.code ({ cls := "java/util/Arrays", name := "copyOfRangeByte", desc := "([BII)[B" } : Jvm.MethodName) jdk_65_method_133_code (5 : Nat) (Option.some (Jvm.ClassFile.FieldType.array Jvm.ClassFile.FieldType.byte)), Jvm.Cond.code ({ cls := "java/util/Arrays", name := "checkLength", desc := "(II)V" } : Jvm.MethodName) jdk_65_method_131_code (2 : Nat) (Option.none : Option Jvm.ClassFile.FieldType), Jvm.Cond.code ({ cls := "java/lang/Math", name := "min", desc := "(II)I" } : Jvm.MethodName) jdk_29_method_69_code (2 : Nat) (Option.some Jvm.ClassFile.FieldType.int), Jvm.Cond.code ({ cls := "com/example/handover/handover/ProblemToStringPinLaw", name := "part", desc := "(II)[C" } : Jvm.MethodName) method_3_code (3 : Nat) (Option.some (Jvm.ClassFile.FieldType.array Jvm.ClassFile.FieldType.char)), Jvm.Cond.code ({ cls := "com/example/handover/handover/ProblemToStringPinLaw", name := "copy4", desc := "([CI[C)I" } : Jvm.MethodName) method_4_code (4 : Nat) (Option.some Jvm.ClassFile.FieldType.int), Jvm.Cond.code ({ cls := "com/example/handover/handover/ProblemToStringPinLaw", name := "putDigit", desc := "([CIIIJJ)I" } : Jvm.MethodName) method_5_code (8 : Nat) (Option.some Jvm.ClassFile.FieldType.int), Jvm.Cond.code ({ cls := "java/lang/String", name := "equals", desc := "(Ljava/lang/Object;)Z" } : Jvm.MethodName) jdk_42_method_66_code (3 : Nat) (Option.some Jvm.ClassFile.FieldType.boolean), Jvm.Cond.code ({ cls := "java/lang/StringLatin1", name := "equals", desc := "([B[B)Z" } : Jvm.MethodName) jdk_43_method_13_code (3 : Nat) (Option.some Jvm.ClassFile.FieldType.boolean), Jvm.Cond.code ({ cls := "java/lang/AbstractStringBuilder", name := "appendNull", desc := "()Ljava/lang/AbstractStringBuilder;" } : Jvm.MethodName) jdk_68_method_26_code (3 : Nat) (Option.some (Jvm.ClassFile.FieldType.object "java/lang/AbstractStringBuilder")), Jvm.Cond.code ({ cls := "java/lang/AbstractStringBuilder", name := "newCapacity", desc := "(I)I" } : Jvm.MethodName) jdk_68_method_10_code (6 : Nat) (Option.some Jvm.ClassFile.FieldType.int), Jvm.Cond.code ({ cls := "jdk/internal/util/ArraysSupport", name := "newLength", desc := "(III)I" } : Jvm.MethodName) jdk_48_method_27_code (4 : Nat) (Option.some Jvm.ClassFile.FieldType.int), Jvm.Cond.code ({ cls := "java/lang/Math", name := "max", desc := "(II)I" } : Jvm.MethodName) jdk_29_method_65_code (2 : Nat) (Option.some Jvm.ClassFile.FieldType.int), Jvm.Cond.code ({ cls := "java/util/Arrays", name := "copyOf", desc := "([BI)[B" } : Jvm.MethodName) jdk_65_method_121_code (3 : Nat) (Option.some (Jvm.ClassFile.FieldType.array Jvm.ClassFile.FieldType.byte))]
set_option maxRecDepth 65536 in
theorem codes_eq : words1.filter isCode = codes1 := rfl
theorem w_codes : ∀ c ∈ words1.filter isCode, c.before args0 about1 = true := by
  rw [codes_eq]
  intro c hc
  simp only [codes1, List.mem_cons, List.not_mem_nil, or_false] at hc
  rcases hc with rfl | rfl | rfl | rfl | rfl | rfl | rfl | rfl | rfl | rfl | rfl | rfl | rfl | rfl | rfl | rfl | rfl | rfl | rfl | rfl | rfl | rfl | rfl | rfl | rfl | rfl | rfl | rfl | rfl | rfl | rfl | rfl | rfl | rfl | rfl | rfl | rfl | rfl | rfl | rfl | rfl | rfl | rfl | rfl | rfl | rfl
  · exact w_c0
  · exact w_c1
  · exact w_c2
  · exact w_c3
  · exact w_c4
  · exact w_c5
  · exact w_c6
  · exact w_c7
  · exact w_c8
  · exact w_c9
  · exact w_c10
  · exact w_c11
  · exact w_c12
  · exact w_c13
  · exact w_c14
  · exact w_c15
  · exact w_c16
  · exact w_c17
  · exact w_c18
  · exact w_c19
  · exact w_c20
  · exact w_c21
  · exact w_c22
  · exact w_c23
  · exact w_c24
  · exact w_c25
  · exact w_c26
  · exact w_c27
  · exact w_c28
  · exact w_c29
  · exact w_c30
  · exact w_c31
  · exact w_c32
  · exact w_c33
  · exact w_c34
  · exact w_c35
  · exact w_c36
  · exact w_c37
  · exact w_c38
  · exact w_c39
  · exact w_c40
  · exact w_c41
  · exact w_c42
  · exact w_c43
  · exact w_c44
  · exact w_c45
set_option maxRecDepth 65536 in
theorem w_t1 : (words1.take 24).all (fun c => isCode c || c.before args0 about1) = true := by decide +kernel
set_option maxRecDepth 65536 in
theorem w_t2 : ((words1.drop 24).take 24).all (fun c => isCode c || c.before args0 about1) = true := by decide +kernel
set_option maxRecDepth 65536 in
theorem w_t3 : (((words1.drop 24).drop 24).take 24).all (fun c => isCode c || c.before args0 about1) = true := by decide +kernel
set_option maxRecDepth 65536 in
theorem w_t4 : ((((words1.drop 24).drop 24).drop 24).take 24).all (fun c => isCode c || c.before args0 about1) = true := by decide +kernel
set_option maxRecDepth 65536 in
theorem w_t5 : (((((words1.drop 24).drop 24).drop 24).drop 24).take 24).all (fun c => isCode c || c.before args0 about1) = true := by decide +kernel
set_option maxRecDepth 65536 in
theorem w_t6 : ((((((words1.drop 24).drop 24).drop 24).drop 24).drop 24).take 24).all (fun c => isCode c || c.before args0 about1) = true := by decide +kernel
set_option maxRecDepth 65536 in
theorem w_t7 : (((((((words1.drop 24).drop 24).drop 24).drop 24).drop 24).drop 24).take 24).all (fun c => isCode c || c.before args0 about1) = true := by decide +kernel
set_option maxRecDepth 65536 in
theorem w_t8 : ((((((((words1.drop 24).drop 24).drop 24).drop 24).drop 24).drop 24).drop 24).take 24).all (fun c => isCode c || c.before args0 about1) = true := by decide +kernel
set_option maxRecDepth 65536 in
theorem w_t9 : (((((((((words1.drop 24).drop 24).drop 24).drop 24).drop 24).drop 24).drop 24).drop 24).take 24).all (fun c => isCode c || c.before args0 about1) = true := by decide +kernel
set_option maxRecDepth 65536 in
theorem w_t10 : ((((((((((words1.drop 24).drop 24).drop 24).drop 24).drop 24).drop 24).drop 24).drop 24).drop 24).take 24).all (fun c => isCode c || c.before args0 about1) = true := by decide +kernel
set_option maxRecDepth 65536 in
theorem w_t11 : ((((((((((words1.drop 24).drop 24).drop 24).drop 24).drop 24).drop 24).drop 24).drop 24).drop 24).drop 24).all (fun c => isCode c || c.before args0 about1) = true := by decide +kernel
theorem w_tables : (allAtoms (Jvm.Cond.code x code maxLocals ret :: tables_1)).before args0 about1 = true := by
  rw [allAtoms_all]
  show words1.all (fun c => c.before args0 about1) = true
  refine all_split ?_ w_codes
  rw [← List.take_append_drop 24 words1, List.all_append, w_t1, ← List.take_append_drop 24 (words1.drop 24), List.all_append, w_t2, ← List.take_append_drop 24 ((words1.drop 24).drop 24), List.all_append, w_t3, ← List.take_append_drop 24 (((words1.drop 24).drop 24).drop 24), List.all_append, w_t4, ← List.take_append_drop 24 ((((words1.drop 24).drop 24).drop 24).drop 24), List.all_append, w_t5, ← List.take_append_drop 24 (((((words1.drop 24).drop 24).drop 24).drop 24).drop 24), List.all_append, w_t6, ← List.take_append_drop 24 ((((((words1.drop 24).drop 24).drop 24).drop 24).drop 24).drop 24), List.all_append, w_t7, ← List.take_append_drop 24 (((((((words1.drop 24).drop 24).drop 24).drop 24).drop 24).drop 24).drop 24), List.all_append, w_t8, ← List.take_append_drop 24 ((((((((words1.drop 24).drop 24).drop 24).drop 24).drop 24).drop 24).drop 24).drop 24), List.all_append, w_t9, ← List.take_append_drop 24 (((((((((words1.drop 24).drop 24).drop 24).drop 24).drop 24).drop 24).drop 24).drop 24).drop 24), List.all_append, w_t10, w_t11]
  rfl
set_option maxRecDepth 65536 in
theorem w_rest : rest_1_c.before args0 about1 = true := by decide +kernel
set_option maxRecDepth 65536 in
theorem w_case : (Jvm.Cond.and given_1 narrow_1).before args0 about1 = true := by decide +kernel
set_option maxRecDepth 65536 in
theorem w_consts : constsHeld consts_1 about1 := Jvm.Lit.constsHeldB_iff.mp (by decide +kernel)
theorem w_applies : (headSpec (Jvm.Cond.code x code maxLocals ret :: tables_1) room_1).applies x e0.platform about1 = true :=
  (Spec.applies_iff w_frames).mpr ⟨w_running, w_runnable, w_alone, w_named, w_hears, w_ripe, w_room, w_tables⟩
theorem atStart : AtStart classFile x code maxLocals ret World_1 tables_1 room_1 Calls_1 rest_1 Pre_1 launch0 p0 e0 about1 theMethod args0 below0 :=
  ⟨lists_1, trivial, launch0.admits_env _ _ _, launch0.least_env, fairChoices_fair.cas, fairChoices_fair.clock, w_frames, w_args, w_heap, w_applies, ⟨w_consts, trivial⟩, w_rest, w_case⟩
end start1
theorem witness_1 : WitnessClaimed_1 := ⟨start1.p0, start1.e0, start1.about1, start1.theMethod, start1.args0, start1.below0, start1.atStart⟩
end Jvm.Pilot.@@N@@
