import JvmDerived
import JvmDerived.Pilot.@@N@@Statement
import JvmDerived.Pilot.@@N@@Code
set_option linter.unusedVariables false
set_option linter.unusedSimpArgs false
@@BLOCK:NumsL.lean.txt@@
namespace Jvm.Pilot.@@N@@
open Jvm Jvm.ClassFile Sem Op Lib Jvm.Free Jvm.Stand Jvm.LawKit Jvm.RoadKit Bundle Jvm.Pilot.@@N@@.Jvm.D
section Own
variable {p : Program} {l : Launch} {e : Env} {R : Room} {s : State} {m : MethodId} {args : Array Value} {below : List Frame} {meth : Method} {c : Code} {T : State} {locs : List Loc} {cells slots : Nat} {Q : Option Value → Heap → List Loc → Prop} {kc ks : Nat} {G : State → Outcome → State → List Loc → Nat → Nat → Prop}
/-- the run from U returns; Q says of what it returned, of the heap and of the places written; kc, ks: how much it may have made -/
def own_Ends (p : Program) (e : Env) (below : List Frame) (s : State) (G : State → Outcome → State → List Loc → Nat → Nat → Prop) (Q : Option Value → Heap → List Loc → Prop) (kc ks : Nat) (U : State) : Prop :=
  ∃ s₂ o, Steps p.tables e below U s₂ ∧ s₂.status = .running ∧ Ended s₂ below o ∧ ∃ v L, o = .returned v ∧ Q v s₂.heap L ∧ G s o s₂ L kc ks
theorem own_of {U U' : State} (h : ∀ t, Steps p.tables e below U' t → Steps p.tables e below U t) (k : own_Ends p e below s G Q kc ks U') : own_Ends p e below s G Q kc ks U := by
  obtain ⟨s₂, o, h1, r⟩ := k
  exact ⟨s₂, o, h _ h1, r⟩
theorem own_eq {U U' : State} (h : U = U') (k : own_Ends p e below s G Q kc ks U') : own_Ends p e below s G Q kc ks U := h ▸ k
theorem own_retN (X : Stand p l e R s m args below meth c T locs cells slots) (hx : p.tables.exec = Jvm.exec) (hlk : meth.locks = false) {pc : Nat} {Ls : Array Slot} {z : Int32} {t : FieldType} {rest : List Value} (hret : meth.sig.returnType = some t) (ht : t = .boolean ∨ t = .byte ∨ t = .char ∨ t = .short)
    (hd : decode c.code pc = .ok (.ireturn, 1)) (hc : cells ≤ kc) (hs : slots ≤ ks) (hq : Q (some (.int (nar t z))) T.heap locs) : own_Ends p e below s FrameEnd Q kc ks (T.setTop (mkF m pc Ls (.int z :: rest))) := by
  obtain ⟨fs, hr, hrun, hended, hW, hsame⟩ := X.leave (v := some (.int (nar t z))) (fun h => by rw [hret] at h; cases h) hlk
  exact ⟨_, _, retN X hx hret ht hd hr, hrun, hended, _, _, rfl, hq, ⟨_, rfl⟩, hW, hsame.mono hc hs⟩
theorem own_retI (X : Stand p l e R s m args below meth c T locs cells slots) (hx : p.tables.exec = Jvm.exec) (hlk : meth.locks = false) {pc : Nat} {Ls : Array Slot} {z : Int32} {rest : List Value} (hret : meth.sig.returnType = some .int)
    (hd : decode c.code pc = .ok (.ireturn, 1)) (hc : cells ≤ kc) (hs : slots ≤ ks) (hq : Q (some (.int z)) T.heap locs) : own_Ends p e below s FrameEnd Q kc ks (T.setTop (mkF m pc Ls (.int z :: rest))) := by
  obtain ⟨fs, hr, hrun, hended, hW, hsame⟩ := X.leave (v := some (.int z)) (fun h => by rw [hret] at h; cases h) hlk
  exact ⟨_, _, retOut X hx hret rfl (Or.inl ⟨rfl, Or.inl rfl, _, rfl⟩) hd hr, hrun, hended, _, _, rfl, hq, ⟨_, rfl⟩, hW, hsame.mono hc hs⟩
theorem own_retL (X : Stand p l e R s m args below meth c T locs cells slots) (hx : p.tables.exec = Jvm.exec) (hlk : meth.locks = false) {pc : Nat} {Ls : Array Slot} {z : Int64} {rest : List Value} (hret : meth.sig.returnType = some .long)
    (hd : decode c.code pc = .ok (.lreturn, 1)) (hc : cells ≤ kc) (hs : slots ≤ ks) (hq : Q (some (.long z)) T.heap locs) : own_Ends p e below s FrameEnd Q kc ks (T.setTop (mkF m pc Ls (.long z :: rest))) := by
  obtain ⟨fs, hr, hrun, hended, hW, hsame⟩ := X.leave (v := some (.long z)) (fun h => by rw [hret] at h; cases h) hlk
  exact ⟨_, _, retOut X hx hret rfl (Or.inr (Or.inl ⟨rfl, rfl, _, rfl⟩)) hd hr, hrun, hended, _, _, rfl, hq, ⟨_, rfl⟩, hW, hsame.mono hc hs⟩
theorem own_retA (X : Stand p l e R s m args below meth c T locs cells slots) (hx : p.tables.exec = Jvm.exec) (hlk : meth.locks = false) {pc : Nat} {Ls : Array Slot} {w : Value} {t : FieldType} {rest : List Value} (hret : meth.sig.returnType = some t) (ht : t.isReference = true) (hw : w.isRef = true)
    (hd : decode c.code pc = .ok (.areturn, 1)) (hc : cells ≤ kc) (hs : slots ≤ ks) (hq : Q (some w) T.heap locs) : own_Ends p e below s FrameEnd Q kc ks (T.setTop (mkF m pc Ls (w :: rest))) := by
  obtain ⟨fs, hr, hrun, hended, hW, hsame⟩ := X.leave (v := some w) (fun h => by rw [hret] at h; cases h) hlk
  have hn : narrow t w = w := by cases t <;> first | (cases ht; done) | rfl | (cases w <;> rfl)
  exact ⟨_, _, retOut X hx hret hn (Or.inr (Or.inr (Or.inr (Or.inr ⟨rfl, ht, hw⟩)))) hd hr, hrun, hended, _, _, rfl, hq, ⟨_, rfl⟩, hW, hsame.mono hc hs⟩
theorem own_ret0 (X : Stand p l e R s m args below meth c T locs cells slots) (hx : p.tables.exec = Jvm.exec) (hlk : meth.locks = false) {pc : Nat} {Ls : Array Slot} (hret : meth.sig.returnType = none)
    (hd : decode c.code pc = .ok (.return_, 1)) (hc : cells ≤ kc) (hs : slots ≤ ks) (hq : Q none T.heap locs) : own_Ends p e below s FrameEnd Q kc ks (T.setTop (mkF m pc Ls [])) := by
  obtain ⟨fs, hr, hrun, hended, hW, hsame⟩ := X.leave (v := none) (fun _ => rfl) hlk
  exact ⟨_, _, X.returnOut hx hret hd hr, hrun, hended, _, _, rfl, hq, ⟨_, rfl⟩, hW, hsame.mono hc hs⟩
variable {vm₁ : Vm} {nS : Nat}
theorem own_monoW {t : State} {o : Outcome} {L : List Loc} {k n k' n' : Nat} (h : ReturnedEndW s o t L k n) (hk : k ≤ k') (hn : n ≤ n') : ReturnedEndW s o t L k' n' := ⟨h.1, h.2.1, h.2.2.1, h.2.2.2.mono hk hn⟩
theorem own_retNW (X : Stand p l e R (s.setVm vm₁) m args below meth c T locs cells slots) (hx : p.tables.exec = Jvm.exec) (hlk : meth.locks = false) (hS : s.Since vm₁ nS) (hk : nS ≤ T.heap.size) {pc : Nat} {Ls : Array Slot} {z : Int32} {t : FieldType} {rest : List Value} (hret : meth.sig.returnType = some t) (ht : t = .boolean ∨ t = .byte ∨ t = .char ∨ t = .short)
    (hd : decode c.code pc = .ok (.ireturn, 1)) (hc : cells ≤ kc) (hs : slots ≤ ks) (hq : Q (some (.int (nar t z))) T.heap locs) : own_Ends p e below s ReturnedEndW Q kc ks (T.setTop (mkF m pc Ls (.int z :: rest))) := by
  obtain ⟨fs, hr, hrun, hended, hW⟩ := X.leaveW hS hk (v := some (.int (nar t z))) (fun h => by rw [hret] at h; cases h) hlk
  exact ⟨_, _, retN X hx hret ht hd hr, hrun, hended, _, _, rfl, hq, own_monoW hW hc hs⟩
theorem own_retIW (X : Stand p l e R (s.setVm vm₁) m args below meth c T locs cells slots) (hx : p.tables.exec = Jvm.exec) (hlk : meth.locks = false) (hS : s.Since vm₁ nS) (hk : nS ≤ T.heap.size) {pc : Nat} {Ls : Array Slot} {z : Int32} {rest : List Value} (hret : meth.sig.returnType = some .int)
    (hd : decode c.code pc = .ok (.ireturn, 1)) (hc : cells ≤ kc) (hs : slots ≤ ks) (hq : Q (some (.int z)) T.heap locs) : own_Ends p e below s ReturnedEndW Q kc ks (T.setTop (mkF m pc Ls (.int z :: rest))) := by
  obtain ⟨fs, hr, hrun, hended, hW⟩ := X.leaveW hS hk (v := some (.int z)) (fun h => by rw [hret] at h; cases h) hlk
  exact ⟨_, _, retOut X hx hret rfl (Or.inl ⟨rfl, Or.inl rfl, _, rfl⟩) hd hr, hrun, hended, _, _, rfl, hq, own_monoW hW hc hs⟩
theorem own_retAW (X : Stand p l e R (s.setVm vm₁) m args below meth c T locs cells slots) (hx : p.tables.exec = Jvm.exec) (hlk : meth.locks = false) (hS : s.Since vm₁ nS) (hk : nS ≤ T.heap.size) {pc : Nat} {Ls : Array Slot} {w : Value} {t : FieldType} {rest : List Value} (hret : meth.sig.returnType = some t) (ht : t.isReference = true) (hw : w.isRef = true)
    (hd : decode c.code pc = .ok (.areturn, 1)) (hc : cells ≤ kc) (hs : slots ≤ ks) (hq : Q (some w) T.heap locs) : own_Ends p e below s ReturnedEndW Q kc ks (T.setTop (mkF m pc Ls (w :: rest))) := by
  obtain ⟨fs, hr, hrun, hended, hW⟩ := X.leaveW hS hk (v := some w) (fun h => by rw [hret] at h; cases h) hlk
  have hn : narrow t w = w := by cases t <;> first | (cases ht; done) | rfl | (cases w <;> rfl)
  exact ⟨_, _, retOut X hx hret hn (Or.inr (Or.inr (Or.inr (Or.inr ⟨rfl, ht, hw⟩)))) hd hr, hrun, hended, _, _, rfl, hq, own_monoW hW hc hs⟩
theorem own_ret0W (X : Stand p l e R (s.setVm vm₁) m args below meth c T locs cells slots) (hx : p.tables.exec = Jvm.exec) (hlk : meth.locks = false) (hS : s.Since vm₁ nS) (hk : nS ≤ T.heap.size) {pc : Nat} {Ls : Array Slot} (hret : meth.sig.returnType = none)
    (hd : decode c.code pc = .ok (.return_, 1)) (hc : cells ≤ kc) (hs : slots ≤ ks) (hq : Q none T.heap locs) : own_Ends p e below s ReturnedEndW Q kc ks (T.setTop (mkF m pc Ls [])) := by
  obtain ⟨fs, hr, hrun, hended, hW⟩ := X.leaveW hS hk (v := none) (fun _ => rfl) hlk
  exact ⟨_, _, X.returnOut hx hret hd hr, hrun, hended, _, _, rfl, hq, own_monoW hW hc hs⟩
end Own
theorem own_b1 : nar .boolean (1 : Int32) = 1 := rfl
theorem own_b0 : nar .boolean (0 : Int32) = 0 := rfl
section Own2
variable {p : Program} {l : Launch} {e : Env} {R : Room} {s sS : State} {m : MethodId} {args : Array Value} {below : List Frame} {meth : Method} {c : Code} {T : State} {locs : List Loc} {cells slots : Nat} {Q : Option Value → Heap → List Loc → Prop} {kc ks : Nat} {G : State → Outcome → State → List Loc → Nat → Nat → Prop}
theorem own_iloadN (X : Stand p l e R sS m args below meth c T locs cells slots) (hx : p.tables.exec = Jvm.exec) {code : ByteArray} (hby : c.code = code) {pc : Nat} {Ls : Array Slot} {St : List Value} {k : Fin 4} {v : Int32} (hd : decode code pc = .ok (.iload_n k, 1)) (hl : Ls[k.val]? = some (.val (.int v))) (k : own_Ends p e below s G Q kc ks (T.setTop (mkF m (pc + 1) Ls (.int v :: St)))) : own_Ends p e below s G Q kc ks (T.setTop (mkF m pc Ls (St))) := own_of (fun _ q => XS.iloadN X.here hx rfl (hb hby hd) hl q) k
theorem own_iload (X : Stand p l e R sS m args below meth c T locs cells slots) (hx : p.tables.exec = Jvm.exec) {code : ByteArray} (hby : c.code = code) {pc : Nat} {Ls : Array Slot} {St : List Value} {k : Nat} {v : Int32} (hd : decode code pc = .ok (.iload k, 2)) (hl : Ls[k]? = some (.val (.int v))) (k : own_Ends p e below s G Q kc ks (T.setTop (mkF m (pc + 2) Ls (.int v :: St)))) : own_Ends p e below s G Q kc ks (T.setTop (mkF m pc Ls (St))) := own_of (fun _ q => XS.iload X.here hx rfl (hb hby hd) hl q) k
theorem own_lloadN (X : Stand p l e R sS m args below meth c T locs cells slots) (hx : p.tables.exec = Jvm.exec) {code : ByteArray} (hby : c.code = code) {pc : Nat} {Ls : Array Slot} {St : List Value} {k : Fin 4} {v : Int64} (hd : decode code pc = .ok (.lload_n k, 1)) (hl : Ls[k.val]? = some (.val (.long v))) (k : own_Ends p e below s G Q kc ks (T.setTop (mkF m (pc + 1) Ls (.long v :: St)))) : own_Ends p e below s G Q kc ks (T.setTop (mkF m pc Ls (St))) := own_of (fun _ q => XT.lloadN X.here hx rfl (hb hby hd) hl q) k
theorem own_lload (X : Stand p l e R sS m args below meth c T locs cells slots) (hx : p.tables.exec = Jvm.exec) {code : ByteArray} (hby : c.code = code) {pc : Nat} {Ls : Array Slot} {St : List Value} {k : Nat} {v : Int64} (hd : decode code pc = .ok (.lload k, 2)) (hl : Ls[k]? = some (.val (.long v))) (k : own_Ends p e below s G Q kc ks (T.setTop (mkF m (pc + 2) Ls (.long v :: St)))) : own_Ends p e below s G Q kc ks (T.setTop (mkF m pc Ls (St))) := own_of (fun _ q => XT.lload X.here hx rfl (hb hby hd) hl q) k
theorem own_dloadN (X : Stand p l e R sS m args below meth c T locs cells slots) (hx : p.tables.exec = Jvm.exec) {code : ByteArray} (hby : c.code = code) {pc : Nat} {Ls : Array Slot} {St : List Value} {k : Fin 4} {v : UInt64} (hd : decode code pc = .ok (.dload_n k, 1)) (hl : Ls[k.val]? = some (.val (.double v))) (k : own_Ends p e below s G Q kc ks (T.setTop (mkF m (pc + 1) Ls (.double v :: St)))) : own_Ends p e below s G Q kc ks (T.setTop (mkF m pc Ls (St))) := own_of (fun _ q => XS.dloadN X.here hx rfl (hb hby hd) hl q) k
theorem own_dload (X : Stand p l e R sS m args below meth c T locs cells slots) (hx : p.tables.exec = Jvm.exec) {code : ByteArray} (hby : c.code = code) {pc : Nat} {Ls : Array Slot} {St : List Value} {k : Nat} {v : UInt64} (hd : decode code pc = .ok (.dload k, 2)) (hl : Ls[k]? = some (.val (.double v))) (k : own_Ends p e below s G Q kc ks (T.setTop (mkF m (pc + 2) Ls (.double v :: St)))) : own_Ends p e below s G Q kc ks (T.setTop (mkF m pc Ls (St))) := own_of (fun _ q => XS.dload X.here hx rfl (hb hby hd) hl q) k
theorem own_aloadN (X : Stand p l e R sS m args below meth c T locs cells slots) (hx : p.tables.exec = Jvm.exec) {code : ByteArray} (hby : c.code = code) {pc : Nat} {Ls : Array Slot} {St : List Value} {k : Fin 4} {v : Value} (hd : decode code pc = .ok (.aload_n k, 1)) (hl : Ls[k.val]? = some (.val v)) (hv : v.isRef = true) (k : own_Ends p e below s G Q kc ks (T.setTop (mkF m (pc + 1) Ls (v :: St)))) : own_Ends p e below s G Q kc ks (T.setTop (mkF m pc Ls (St))) := own_of (fun _ q => XS.aloadN X.here hx rfl (hb hby hd) hl hv q) k
theorem own_aload (X : Stand p l e R sS m args below meth c T locs cells slots) (hx : p.tables.exec = Jvm.exec) {code : ByteArray} (hby : c.code = code) {pc : Nat} {Ls : Array Slot} {St : List Value} {k : Nat} {v : Value} (hd : decode code pc = .ok (.aload k, 2)) (hl : Ls[k]? = some (.val v)) (hv : v.isRef = true) (k : own_Ends p e below s G Q kc ks (T.setTop (mkF m (pc + 2) Ls (v :: St)))) : own_Ends p e below s G Q kc ks (T.setTop (mkF m pc Ls (St))) := own_of (fun _ q => XS.aload X.here hx rfl (hb hby hd) hl hv q) k
theorem own_istoreN (X : Stand p l e R sS m args below meth c T locs cells slots) (hx : p.tables.exec = Jvm.exec) {code : ByteArray} (hby : c.code = code) {pc : Nat} {Ls : Array Slot} {St : List Value} {k : Fin 4} {x : Int32} {l' : Array Slot} (hd : decode code pc = .ok (.istore_n k, 1)) (hl : storeLocals Ls k.val (.int x) = some l') (k : own_Ends p e below s G Q kc ks (T.setTop (mkF m (pc + 1) l' (St)))) : own_Ends p e below s G Q kc ks (T.setTop (mkF m pc Ls (.int x :: St))) := own_of (fun _ q => XS.istoreN X.here hx rfl (hb hby hd) rfl hl q) k
theorem own_istore (X : Stand p l e R sS m args below meth c T locs cells slots) (hx : p.tables.exec = Jvm.exec) {code : ByteArray} (hby : c.code = code) {pc : Nat} {Ls : Array Slot} {St : List Value} {k : Nat} {x : Int32} {l' : Array Slot} (hd : decode code pc = .ok (.istore k, 2)) (hl : storeLocals Ls k (.int x) = some l') (k : own_Ends p e below s G Q kc ks (T.setTop (mkF m (pc + 2) l' (St)))) : own_Ends p e below s G Q kc ks (T.setTop (mkF m pc Ls (.int x :: St))) := own_of (fun _ q => XS.istore X.here hx rfl (hb hby hd) rfl hl q) k
theorem own_lstoreN (X : Stand p l e R sS m args below meth c T locs cells slots) (hx : p.tables.exec = Jvm.exec) {code : ByteArray} (hby : c.code = code) {pc : Nat} {Ls : Array Slot} {St : List Value} {k : Fin 4} {x : Int64} {l' : Array Slot} (hd : decode code pc = .ok (.lstore_n k, 1)) (hl : storeLocals Ls k.val (.long x) = some l') (k : own_Ends p e below s G Q kc ks (T.setTop (mkF m (pc + 1) l' (St)))) : own_Ends p e below s G Q kc ks (T.setTop (mkF m pc Ls (.long x :: St))) := own_of (fun _ q => XT.lstoreN X.here hx rfl (hb hby hd) rfl hl q) k
theorem own_lstore (X : Stand p l e R sS m args below meth c T locs cells slots) (hx : p.tables.exec = Jvm.exec) {code : ByteArray} (hby : c.code = code) {pc : Nat} {Ls : Array Slot} {St : List Value} {k : Nat} {x : Int64} {l' : Array Slot} (hd : decode code pc = .ok (.lstore k, 2)) (hl : storeLocals Ls k (.long x) = some l') (k : own_Ends p e below s G Q kc ks (T.setTop (mkF m (pc + 2) l' (St)))) : own_Ends p e below s G Q kc ks (T.setTop (mkF m pc Ls (.long x :: St))) := own_of (fun _ q => XT.lstore X.here hx rfl (hb hby hd) rfl hl q) k
theorem own_astoreN (X : Stand p l e R sS m args below meth c T locs cells slots) (hx : p.tables.exec = Jvm.exec) {code : ByteArray} (hby : c.code = code) {pc : Nat} {Ls : Array Slot} {St : List Value} {k : Fin 4} {x : Value} {l' : Array Slot} (hd : decode code pc = .ok (.astore_n k, 1)) (hv : x.isRef = true) (hl : storeLocals Ls k.val x = some l') (k : own_Ends p e below s G Q kc ks (T.setTop (mkF m (pc + 1) l' (St)))) : own_Ends p e below s G Q kc ks (T.setTop (mkF m pc Ls (x :: St))) := own_of (fun _ q => XS.astoreN X.here hx rfl (hb hby hd) rfl hv hl q) k
theorem own_astore (X : Stand p l e R sS m args below meth c T locs cells slots) (hx : p.tables.exec = Jvm.exec) {code : ByteArray} (hby : c.code = code) {pc : Nat} {Ls : Array Slot} {St : List Value} {k : Nat} {x : Value} {l' : Array Slot} (hd : decode code pc = .ok (.astore k, 2)) (hv : x.isRef = true) (hl : storeLocals Ls k x = some l') (k : own_Ends p e below s G Q kc ks (T.setTop (mkF m (pc + 2) l' (St)))) : own_Ends p e below s G Q kc ks (T.setTop (mkF m pc Ls (x :: St))) := own_of (fun _ q => XS.astore X.here hx rfl (hb hby hd) rfl hv hl q) k
theorem own_aconstNull (X : Stand p l e R sS m args below meth c T locs cells slots) (hx : p.tables.exec = Jvm.exec) {code : ByteArray} (hby : c.code = code) {pc : Nat} {Ls : Array Slot} {St : List Value}  (hd : decode code pc = .ok (.aconst_null, 1)) (k : own_Ends p e below s G Q kc ks (T.setTop (mkF m (pc + 1) Ls (.null :: St)))) : own_Ends p e below s G Q kc ks (T.setTop (mkF m pc Ls (St))) := own_of (fun _ q => XS.aconstNull X.here hx rfl (hb hby hd) q) k
theorem own_iadd (X : Stand p l e R sS m args below meth c T locs cells slots) (hx : p.tables.exec = Jvm.exec) {code : ByteArray} (hby : c.code = code) {pc : Nat} {Ls : Array Slot} {St : List Value} {x y : Int32} (hd : decode code pc = .ok (.iadd, 1)) (k : own_Ends p e below s G Q kc ks (T.setTop (mkF m (pc + 1) Ls (.int (x + y) :: St)))) : own_Ends p e below s G Q kc ks (T.setTop (mkF m pc Ls (.int y :: .int x :: St))) := own_of (fun _ q => XS.iadd X.here hx rfl (hb hby hd) rfl q) k
theorem own_isub (X : Stand p l e R sS m args below meth c T locs cells slots) (hx : p.tables.exec = Jvm.exec) {code : ByteArray} (hby : c.code = code) {pc : Nat} {Ls : Array Slot} {St : List Value} {x y : Int32} (hd : decode code pc = .ok (.isub, 1)) (k : own_Ends p e below s G Q kc ks (T.setTop (mkF m (pc + 1) Ls (.int (x - y) :: St)))) : own_Ends p e below s G Q kc ks (T.setTop (mkF m pc Ls (.int y :: .int x :: St))) := own_of (fun _ q => XS.isub X.here hx rfl (hb hby hd) rfl q) k
theorem own_imul (X : Stand p l e R sS m args below meth c T locs cells slots) (hx : p.tables.exec = Jvm.exec) {code : ByteArray} (hby : c.code = code) {pc : Nat} {Ls : Array Slot} {St : List Value} {x y : Int32} (hd : decode code pc = .ok (.imul, 1)) (k : own_Ends p e below s G Q kc ks (T.setTop (mkF m (pc + 1) Ls (.int (x * y) :: St)))) : own_Ends p e below s G Q kc ks (T.setTop (mkF m pc Ls (.int y :: .int x :: St))) := own_of (fun _ q => XS.imul X.here hx rfl (hb hby hd) rfl q) k
theorem own_iand (X : Stand p l e R sS m args below meth c T locs cells slots) (hx : p.tables.exec = Jvm.exec) {code : ByteArray} (hby : c.code = code) {pc : Nat} {Ls : Array Slot} {St : List Value} {x y : Int32} (hd : decode code pc = .ok (.iand, 1)) (k : own_Ends p e below s G Q kc ks (T.setTop (mkF m (pc + 1) Ls (.int (x &&& y) :: St)))) : own_Ends p e below s G Q kc ks (T.setTop (mkF m pc Ls (.int y :: .int x :: St))) := own_of (fun _ q => XS.iand X.here hx rfl (hb hby hd) rfl q) k
theorem own_ior (X : Stand p l e R sS m args below meth c T locs cells slots) (hx : p.tables.exec = Jvm.exec) {code : ByteArray} (hby : c.code = code) {pc : Nat} {Ls : Array Slot} {St : List Value} {x y : Int32} (hd : decode code pc = .ok (.ior, 1)) (k : own_Ends p e below s G Q kc ks (T.setTop (mkF m (pc + 1) Ls (.int (x ||| y) :: St)))) : own_Ends p e below s G Q kc ks (T.setTop (mkF m pc Ls (.int y :: .int x :: St))) := own_of (fun _ q => XT.ior X.here hx rfl (hb hby hd) rfl q) k
theorem own_ixor (X : Stand p l e R sS m args below meth c T locs cells slots) (hx : p.tables.exec = Jvm.exec) {code : ByteArray} (hby : c.code = code) {pc : Nat} {Ls : Array Slot} {St : List Value} {x y : Int32} (hd : decode code pc = .ok (.ixor, 1)) (k : own_Ends p e below s G Q kc ks (T.setTop (mkF m (pc + 1) Ls (.int (x ^^^ y) :: St)))) : own_Ends p e below s G Q kc ks (T.setTop (mkF m pc Ls (.int y :: .int x :: St))) := own_of (fun _ q => XT.ixor X.here hx rfl (hb hby hd) rfl q) k
theorem own_ladd (X : Stand p l e R sS m args below meth c T locs cells slots) (hx : p.tables.exec = Jvm.exec) {code : ByteArray} (hby : c.code = code) {pc : Nat} {Ls : Array Slot} {St : List Value} {x y : Int64} (hd : decode code pc = .ok (.ladd, 1)) (k : own_Ends p e below s G Q kc ks (T.setTop (mkF m (pc + 1) Ls (.long (x + y) :: St)))) : own_Ends p e below s G Q kc ks (T.setTop (mkF m pc Ls (.long y :: .long x :: St))) := own_of (fun _ q => XT.ladd X.here hx rfl (hb hby hd) rfl q) k
theorem own_lsub (X : Stand p l e R sS m args below meth c T locs cells slots) (hx : p.tables.exec = Jvm.exec) {code : ByteArray} (hby : c.code = code) {pc : Nat} {Ls : Array Slot} {St : List Value} {x y : Int64} (hd : decode code pc = .ok (.lsub, 1)) (k : own_Ends p e below s G Q kc ks (T.setTop (mkF m (pc + 1) Ls (.long (x - y) :: St)))) : own_Ends p e below s G Q kc ks (T.setTop (mkF m pc Ls (.long y :: .long x :: St))) := own_of (fun _ q => XT.lsub X.here hx rfl (hb hby hd) rfl q) k
theorem own_lmul (X : Stand p l e R sS m args below meth c T locs cells slots) (hx : p.tables.exec = Jvm.exec) {code : ByteArray} (hby : c.code = code) {pc : Nat} {Ls : Array Slot} {St : List Value} {x y : Int64} (hd : decode code pc = .ok (.lmul, 1)) (k : own_Ends p e below s G Q kc ks (T.setTop (mkF m (pc + 1) Ls (.long (x * y) :: St)))) : own_Ends p e below s G Q kc ks (T.setTop (mkF m pc Ls (.long y :: .long x :: St))) := own_of (fun _ q => XT.lmul X.here hx rfl (hb hby hd) rfl q) k
theorem own_land (X : Stand p l e R sS m args below meth c T locs cells slots) (hx : p.tables.exec = Jvm.exec) {code : ByteArray} (hby : c.code = code) {pc : Nat} {Ls : Array Slot} {St : List Value} {x y : Int64} (hd : decode code pc = .ok (.land, 1)) (k : own_Ends p e below s G Q kc ks (T.setTop (mkF m (pc + 1) Ls (.long (x &&& y) :: St)))) : own_Ends p e below s G Q kc ks (T.setTop (mkF m pc Ls (.long y :: .long x :: St))) := own_of (fun _ q => XT.land X.here hx rfl (hb hby hd) rfl q) k
theorem own_lor (X : Stand p l e R sS m args below meth c T locs cells slots) (hx : p.tables.exec = Jvm.exec) {code : ByteArray} (hby : c.code = code) {pc : Nat} {Ls : Array Slot} {St : List Value} {x y : Int64} (hd : decode code pc = .ok (.lor, 1)) (k : own_Ends p e below s G Q kc ks (T.setTop (mkF m (pc + 1) Ls (.long (x ||| y) :: St)))) : own_Ends p e below s G Q kc ks (T.setTop (mkF m pc Ls (.long y :: .long x :: St))) := own_of (fun _ q => XT.lor X.here hx rfl (hb hby hd) rfl q) k
theorem own_lxor (X : Stand p l e R sS m args below meth c T locs cells slots) (hx : p.tables.exec = Jvm.exec) {code : ByteArray} (hby : c.code = code) {pc : Nat} {Ls : Array Slot} {St : List Value} {x y : Int64} (hd : decode code pc = .ok (.lxor, 1)) (k : own_Ends p e below s G Q kc ks (T.setTop (mkF m (pc + 1) Ls (.long (x ^^^ y) :: St)))) : own_Ends p e below s G Q kc ks (T.setTop (mkF m pc Ls (.long y :: .long x :: St))) := own_of (fun _ q => XT.lxor X.here hx rfl (hb hby hd) rfl q) k
theorem own_ishl (X : Stand p l e R sS m args below meth c T locs cells slots) (hx : p.tables.exec = Jvm.exec) {code : ByteArray} (hby : c.code = code) {pc : Nat} {Ls : Array Slot} {St : List Value} {x y : Int32} (hd : decode code pc = .ok (.ishl, 1)) (k : own_Ends p e below s G Q kc ks (T.setTop (mkF m (pc + 1) Ls (.int (x <<< (y &&& 31)) :: St)))) : own_Ends p e below s G Q kc ks (T.setTop (mkF m pc Ls (.int y :: .int x :: St))) := own_of (fun _ q => XT.ishl X.here hx rfl (hb hby hd) rfl q) k
theorem own_ishr (X : Stand p l e R sS m args below meth c T locs cells slots) (hx : p.tables.exec = Jvm.exec) {code : ByteArray} (hby : c.code = code) {pc : Nat} {Ls : Array Slot} {St : List Value} {x y : Int32} (hd : decode code pc = .ok (.ishr, 1)) (k : own_Ends p e below s G Q kc ks (T.setTop (mkF m (pc + 1) Ls (.int (x >>> (y &&& 31)) :: St)))) : own_Ends p e below s G Q kc ks (T.setTop (mkF m pc Ls (.int y :: .int x :: St))) := own_of (fun _ q => XT.ishr X.here hx rfl (hb hby hd) rfl q) k
theorem own_iushr (X : Stand p l e R sS m args below meth c T locs cells slots) (hx : p.tables.exec = Jvm.exec) {code : ByteArray} (hby : c.code = code) {pc : Nat} {Ls : Array Slot} {St : List Value} {x y : Int32} (hd : decode code pc = .ok (.iushr, 1)) (k : own_Ends p e below s G Q kc ks (T.setTop (mkF m (pc + 1) Ls (.int (XT.ushr x y) :: St)))) : own_Ends p e below s G Q kc ks (T.setTop (mkF m pc Ls (.int y :: .int x :: St))) := own_of (fun _ q => XT.iushr X.here hx rfl (hb hby hd) rfl q) k
theorem own_lshl (X : Stand p l e R sS m args below meth c T locs cells slots) (hx : p.tables.exec = Jvm.exec) {code : ByteArray} (hby : c.code = code) {pc : Nat} {Ls : Array Slot} {St : List Value} {x : Int64} {y : Int32} (hd : decode code pc = .ok (.lshl, 1)) (k : own_Ends p e below s G Q kc ks (T.setTop (mkF m (pc + 1) Ls (.long (x <<< (y.toInt64 &&& 63)) :: St)))) : own_Ends p e below s G Q kc ks (T.setTop (mkF m pc Ls (.int y :: .long x :: St))) := own_of (fun _ q => XT.lshl X.here hx rfl (hb hby hd) rfl q) k
theorem own_lshr (X : Stand p l e R sS m args below meth c T locs cells slots) (hx : p.tables.exec = Jvm.exec) {code : ByteArray} (hby : c.code = code) {pc : Nat} {Ls : Array Slot} {St : List Value} {x : Int64} {y : Int32} (hd : decode code pc = .ok (.lshr, 1)) (k : own_Ends p e below s G Q kc ks (T.setTop (mkF m (pc + 1) Ls (.long (x >>> (y.toInt64 &&& 63)) :: St)))) : own_Ends p e below s G Q kc ks (T.setTop (mkF m pc Ls (.int y :: .long x :: St))) := own_of (fun _ q => XT.lshr X.here hx rfl (hb hby hd) rfl q) k
theorem own_lushr (X : Stand p l e R sS m args below meth c T locs cells slots) (hx : p.tables.exec = Jvm.exec) {code : ByteArray} (hby : c.code = code) {pc : Nat} {Ls : Array Slot} {St : List Value} {x : Int64} {y : Int32} (hd : decode code pc = .ok (.lushr, 1)) (k : own_Ends p e below s G Q kc ks (T.setTop (mkF m (pc + 1) Ls (.long (XT.ushrL x y) :: St)))) : own_Ends p e below s G Q kc ks (T.setTop (mkF m pc Ls (.int y :: .long x :: St))) := own_of (fun _ q => XT.lushr X.here hx rfl (hb hby hd) rfl q) k
theorem own_ineg (X : Stand p l e R sS m args below meth c T locs cells slots) (hx : p.tables.exec = Jvm.exec) {code : ByteArray} (hby : c.code = code) {pc : Nat} {Ls : Array Slot} {St : List Value} {x : Int32} (hd : decode code pc = .ok (.ineg, 1)) (k : own_Ends p e below s G Q kc ks (T.setTop (mkF m (pc + 1) Ls (.int (-x) :: St)))) : own_Ends p e below s G Q kc ks (T.setTop (mkF m pc Ls (.int x :: St))) := own_of (fun _ q => XS.ineg X.here hx rfl (hb hby hd) rfl q) k
theorem own_lneg (X : Stand p l e R sS m args below meth c T locs cells slots) (hx : p.tables.exec = Jvm.exec) {code : ByteArray} (hby : c.code = code) {pc : Nat} {Ls : Array Slot} {St : List Value} {x : Int64} (hd : decode code pc = .ok (.lneg, 1)) (k : own_Ends p e below s G Q kc ks (T.setTop (mkF m (pc + 1) Ls (.long (-x) :: St)))) : own_Ends p e below s G Q kc ks (T.setTop (mkF m pc Ls (.long x :: St))) := own_of (fun _ q => XT.lneg X.here hx rfl (hb hby hd) rfl q) k
theorem own_i2l (X : Stand p l e R sS m args below meth c T locs cells slots) (hx : p.tables.exec = Jvm.exec) {code : ByteArray} (hby : c.code = code) {pc : Nat} {Ls : Array Slot} {St : List Value} {x : Int32} (hd : decode code pc = .ok (.i2l, 1)) (k : own_Ends p e below s G Q kc ks (T.setTop (mkF m (pc + 1) Ls (.long (x.toInt64) :: St)))) : own_Ends p e below s G Q kc ks (T.setTop (mkF m pc Ls (.int x :: St))) := own_of (fun _ q => XT.i2l X.here hx rfl (hb hby hd) rfl q) k
theorem own_l2i (X : Stand p l e R sS m args below meth c T locs cells slots) (hx : p.tables.exec = Jvm.exec) {code : ByteArray} (hby : c.code = code) {pc : Nat} {Ls : Array Slot} {St : List Value} {x : Int64} (hd : decode code pc = .ok (.l2i, 1)) (k : own_Ends p e below s G Q kc ks (T.setTop (mkF m (pc + 1) Ls (.int (x.toInt32) :: St)))) : own_Ends p e below s G Q kc ks (T.setTop (mkF m pc Ls (.long x :: St))) := own_of (fun _ q => XT.l2i X.here hx rfl (hb hby hd) rfl q) k
theorem own_i2b (X : Stand p l e R sS m args below meth c T locs cells slots) (hx : p.tables.exec = Jvm.exec) {code : ByteArray} (hby : c.code = code) {pc : Nat} {Ls : Array Slot} {St : List Value} {x : Int32} (hd : decode code pc = .ok (.i2b, 1)) (k : own_Ends p e below s G Q kc ks (T.setTop (mkF m (pc + 1) Ls (.int (x.toInt8.toInt32) :: St)))) : own_Ends p e below s G Q kc ks (T.setTop (mkF m pc Ls (.int x :: St))) := own_of (fun _ q => XT.i2b X.here hx rfl (hb hby hd) rfl q) k
theorem own_i2s (X : Stand p l e R sS m args below meth c T locs cells slots) (hx : p.tables.exec = Jvm.exec) {code : ByteArray} (hby : c.code = code) {pc : Nat} {Ls : Array Slot} {St : List Value} {x : Int32} (hd : decode code pc = .ok (.i2s, 1)) (k : own_Ends p e below s G Q kc ks (T.setTop (mkF m (pc + 1) Ls (.int (x.toInt16.toInt32) :: St)))) : own_Ends p e below s G Q kc ks (T.setTop (mkF m pc Ls (.int x :: St))) := own_of (fun _ q => XT.i2s X.here hx rfl (hb hby hd) rfl q) k
theorem own_i2c (X : Stand p l e R sS m args below meth c T locs cells slots) (hx : p.tables.exec = Jvm.exec) {code : ByteArray} (hby : c.code = code) {pc : Nat} {Ls : Array Slot} {St : List Value} {x : Int32} (hd : decode code pc = .ok (.i2c, 1)) (k : own_Ends p e below s G Q kc ks (T.setTop (mkF m (pc + 1) Ls (.int (x.toUInt32.toUInt16.toUInt32.toInt32) :: St)))) : own_Ends p e below s G Q kc ks (T.setTop (mkF m pc Ls (.int x :: St))) := own_of (fun _ q => XT.i2c X.here hx rfl (hb hby hd) rfl q) k
theorem own_lcmp (X : Stand p l e R sS m args below meth c T locs cells slots) (hx : p.tables.exec = Jvm.exec) {code : ByteArray} (hby : c.code = code) {pc : Nat} {Ls : Array Slot} {St : List Value} {x y : Int64} (hd : decode code pc = .ok (.lcmp, 1)) (k : own_Ends p e below s G Q kc ks (T.setTop (mkF m (pc + 1) Ls (.int (XT.cmpL x y) :: St)))) : own_Ends p e below s G Q kc ks (T.setTop (mkF m pc Ls (.long y :: .long x :: St))) := own_of (fun _ q => XT.lcmp X.here hx rfl (hb hby hd) rfl q) k
theorem own_dup (X : Stand p l e R sS m args below meth c T locs cells slots) (hx : p.tables.exec = Jvm.exec) {code : ByteArray} (hby : c.code = code) {pc : Nat} {Ls : Array Slot} {St : List Value} {x : Value} (hd : decode code pc = .ok (.dup, 1)) (hc : x.category = 1) (k : own_Ends p e below s G Q kc ks (T.setTop (mkF m (pc + 1) Ls (x :: x :: St)))) : own_Ends p e below s G Q kc ks (T.setTop (mkF m pc Ls (x :: St))) := own_of (fun _ q => XS.dup X.here hx rfl (hb hby hd) rfl hc q) k
theorem own_dupX1 (X : Stand p l e R sS m args below meth c T locs cells slots) (hx : p.tables.exec = Jvm.exec) {code : ByteArray} (hby : c.code = code) {pc : Nat} {Ls : Array Slot} {St : List Value} {x y : Value} (hd : decode code pc = .ok (.dup_x1, 1)) (hc : x.category = 1) (hc' : y.category = 1) (k : own_Ends p e below s G Q kc ks (T.setTop (mkF m (pc + 1) Ls (x :: y :: x :: St)))) : own_Ends p e below s G Q kc ks (T.setTop (mkF m pc Ls (x :: y :: St))) := own_of (fun _ q => XT.dupX1 X.here hx rfl (hb hby hd) rfl hc hc' q) k
theorem own_dup2 (X : Stand p l e R sS m args below meth c T locs cells slots) (hx : p.tables.exec = Jvm.exec) {code : ByteArray} (hby : c.code = code) {pc : Nat} {Ls : Array Slot} {St : List Value} {x y : Value} (hd : decode code pc = .ok (.dup2, 1)) (hc : x.category = 1) (hc' : y.category = 1) (k : own_Ends p e below s G Q kc ks (T.setTop (mkF m (pc + 1) Ls (x :: y :: x :: y :: St)))) : own_Ends p e below s G Q kc ks (T.setTop (mkF m pc Ls (x :: y :: St))) := own_of (fun _ q => XT.dup2 X.here hx rfl (hb hby hd) rfl hc hc' q) k
theorem own_dup2L (X : Stand p l e R sS m args below meth c T locs cells slots) (hx : p.tables.exec = Jvm.exec) {code : ByteArray} (hby : c.code = code) {pc : Nat} {Ls : Array Slot} {St : List Value} {x : Int64} (hd : decode code pc = .ok (.dup2, 1)) (k : own_Ends p e below s G Q kc ks (T.setTop (mkF m (pc + 1) Ls (.long x :: .long x :: St)))) : own_Ends p e below s G Q kc ks (T.setTop (mkF m pc Ls (.long x :: St))) := own_of (fun _ q => XT.dup2L X.here hx rfl (hb hby hd) rfl q) k
theorem own_pop (X : Stand p l e R sS m args below meth c T locs cells slots) (hx : p.tables.exec = Jvm.exec) {code : ByteArray} (hby : c.code = code) {pc : Nat} {Ls : Array Slot} {St : List Value} {x : Value} (hd : decode code pc = .ok (.pop, 1)) (hc : x.category = 1) (k : own_Ends p e below s G Q kc ks (T.setTop (mkF m (pc + 1) Ls (St)))) : own_Ends p e below s G Q kc ks (T.setTop (mkF m pc Ls (x :: St))) := own_of (fun _ q => XT.pop X.here hx rfl (hb hby hd) rfl hc q) k
theorem own_iinc (X : Stand p l e R sS m args below meth c T locs cells slots) (hx : p.tables.exec = Jvm.exec) {code : ByteArray} (hby : c.code = code) {pc : Nat} {Ls : Array Slot} {St : List Value} {k : Nat} {cst : Int} {x : Int32} {l' : Array Slot} (hd : decode code pc = .ok (.iinc k cst, 3)) (hl : Ls[k]? = some (.val (.int x))) (hl' : storeLocals Ls k (.int (x + Int32.ofInt cst)) = some l') (k : own_Ends p e below s G Q kc ks (T.setTop (mkF m (pc + 3) l' (St)))) : own_Ends p e below s G Q kc ks (T.setTop (mkF m pc Ls (St))) := own_of (fun _ q => XS.iinc X.here hx rfl (hb hby hd) hl hl' q) k
theorem own_iconst (X : Stand p l e R sS m args below meth c T locs cells slots) (hx : p.tables.exec = Jvm.exec) {code : ByteArray} (hby : c.code = code) {pc : Nat} {Ls : Array Slot} {St : List Value} {i : Int} (z : Int32) (hd : decode code pc = .ok (.iconst i, 1)) (hz : Int32.ofInt i = z) (k : own_Ends p e below s G Q kc ks (T.setTop (mkF m (pc + 1) Ls (.int z :: St)))) : own_Ends p e below s G Q kc ks (T.setTop (mkF m pc Ls St)) := by subst hz; exact own_of (fun _ q => XS.iconst X.here hx rfl (hb hby hd) q) k
theorem own_bipush (X : Stand p l e R sS m args below meth c T locs cells slots) (hx : p.tables.exec = Jvm.exec) {code : ByteArray} (hby : c.code = code) {pc : Nat} {Ls : Array Slot} {St : List Value} {i : Int} (z : Int32) (hd : decode code pc = .ok (.bipush i, 2)) (hz : (Int8.ofInt i).toInt32 = z) (k : own_Ends p e below s G Q kc ks (T.setTop (mkF m (pc + 2) Ls (.int z :: St)))) : own_Ends p e below s G Q kc ks (T.setTop (mkF m pc Ls St)) := by subst hz; exact own_of (fun _ q => XS.bipush X.here hx rfl (hb hby hd) q) k
theorem own_sipush (X : Stand p l e R sS m args below meth c T locs cells slots) (hx : p.tables.exec = Jvm.exec) {code : ByteArray} (hby : c.code = code) {pc : Nat} {Ls : Array Slot} {St : List Value} {i : Int} (z : Int32) (hd : decode code pc = .ok (.sipush i, 3)) (hz : (Int16.ofInt i).toInt32 = z) (k : own_Ends p e below s G Q kc ks (T.setTop (mkF m (pc + 3) Ls (.int z :: St)))) : own_Ends p e below s G Q kc ks (T.setTop (mkF m pc Ls St)) := by subst hz; exact own_of (fun _ q => XS.sipush X.here hx rfl (hb hby hd) q) k
theorem own_lconst (X : Stand p l e R sS m args below meth c T locs cells slots) (hx : p.tables.exec = Jvm.exec) {code : ByteArray} (hby : c.code = code) {pc : Nat} {Ls : Array Slot} {St : List Value} {i : Fin 2} (z : Int64) (hd : decode code pc = .ok (.lconst i, 1)) (hz : Int64.ofNat i = z) (k : own_Ends p e below s G Q kc ks (T.setTop (mkF m (pc + 1) Ls (.long z :: St)))) : own_Ends p e below s G Q kc ks (T.setTop (mkF m pc Ls St)) := by subst hz; exact own_of (fun _ q => XT.lconst X.here hx rfl (hb hby hd) q) k
theorem own_goto (X : Stand p l e R sS m args below meth c T locs cells slots) (hx : p.tables.exec = Jvm.exec) {code : ByteArray} (hby : c.code = code) {Ls : Array Slot} {St : List Value} (pc pc' : Nat) {o : Int}  (hd : decode code pc = .ok (.goto o, 3)) (ho : 0 ≤ (pc : Int) + o) (hp : ((pc : Int) + o).toNat = pc') (k : own_Ends p e below s G Q kc ks (T.setTop (mkF m pc' Ls St))) : own_Ends p e below s G Q kc ks (T.setTop (mkF m pc Ls (St))) := own_of (fun _ q => XS.goto X.here hx rfl (pc0 := pc) (pc' := pc') rfl (hb hby hd) ho hp q) k
theorem own_ifYes (X : Stand p l e R sS m args below meth c T locs cells slots) (hx : p.tables.exec = Jvm.exec) {code : ByteArray} (hby : c.code = code) {Ls : Array Slot} {St : List Value} (pc pc' : Nat) {o : Int} {cd : ClassFile.Cond} {x : Int32} (hd : decode code pc = .ok (.ifCond cd o, 3)) (hc : ifCond.holds cd x = true) (ho : 0 ≤ (pc : Int) + o) (hp : ((pc : Int) + o).toNat = pc') (k : own_Ends p e below s G Q kc ks (T.setTop (mkF m pc' Ls St))) : own_Ends p e below s G Q kc ks (T.setTop (mkF m pc Ls (.int x :: St))) := own_of (fun _ q => XS.ifYes X.here hx rfl (pc0 := pc) (pc' := pc') rfl (hb hby hd) rfl hc ho hp q) k
theorem own_icmpYes (X : Stand p l e R sS m args below meth c T locs cells slots) (hx : p.tables.exec = Jvm.exec) {code : ByteArray} (hby : c.code = code) {Ls : Array Slot} {St : List Value} (pc pc' : Nat) {o : Int} {cd : ClassFile.Cond} {x y : Int32} (hd : decode code pc = .ok (.if_icmp cd o, 3)) (hc : if_icmp.holds cd x y = true) (ho : 0 ≤ (pc : Int) + o) (hp : ((pc : Int) + o).toNat = pc') (k : own_Ends p e below s G Q kc ks (T.setTop (mkF m pc' Ls St))) : own_Ends p e below s G Q kc ks (T.setTop (mkF m pc Ls (.int y :: .int x :: St))) := own_of (fun _ q => XS.icmpYes X.here hx rfl (pc0 := pc) (pc' := pc') rfl (hb hby hd) rfl hc ho hp q) k
theorem own_ifnullYes (X : Stand p l e R sS m args below meth c T locs cells slots) (hx : p.tables.exec = Jvm.exec) {code : ByteArray} (hby : c.code = code) {Ls : Array Slot} {St : List Value} (pc pc' : Nat) {o : Int}  (hd : decode code pc = .ok (.ifnull o, 3)) (ho : 0 ≤ (pc : Int) + o) (hp : ((pc : Int) + o).toNat = pc') (k : own_Ends p e below s G Q kc ks (T.setTop (mkF m pc' Ls St))) : own_Ends p e below s G Q kc ks (T.setTop (mkF m pc Ls (.null :: St))) := own_of (fun _ q => XS.ifnullYes X.here hx rfl (pc0 := pc) (pc' := pc') rfl (hb hby hd) rfl ho hp q) k
theorem own_ifnonnullYes (X : Stand p l e R sS m args below meth c T locs cells slots) (hx : p.tables.exec = Jvm.exec) {code : ByteArray} (hby : c.code = code) {Ls : Array Slot} {St : List Value} (pc pc' : Nat) {o : Int} {b : Addr} (hd : decode code pc = .ok (.ifnonnull o, 3)) (ho : 0 ≤ (pc : Int) + o) (hp : ((pc : Int) + o).toNat = pc') (k : own_Ends p e below s G Q kc ks (T.setTop (mkF m pc' Ls St))) : own_Ends p e below s G Q kc ks (T.setTop (mkF m pc Ls (.ref b :: St))) := own_of (fun _ q => XT.ifnonnullYes X.here hx rfl (pc0 := pc) (pc' := pc') rfl (hb hby hd) rfl ho hp q) k
theorem own_ifNo (X : Stand p l e R sS m args below meth c T locs cells slots) (hx : p.tables.exec = Jvm.exec) {code : ByteArray} (hby : c.code = code) {pc : Nat} {Ls : Array Slot} {St : List Value} {cd : ClassFile.Cond} {o : Int} {x : Int32} (hd : decode code pc = .ok (.ifCond cd o, 3)) (hc : ifCond.holds cd x = false) (k : own_Ends p e below s G Q kc ks (T.setTop (mkF m (pc + 3) Ls (St)))) : own_Ends p e below s G Q kc ks (T.setTop (mkF m pc Ls (.int x :: St))) := own_of (fun _ q => XS.ifNo X.here hx rfl (hb hby hd) rfl hc q) k
theorem own_icmpNo (X : Stand p l e R sS m args below meth c T locs cells slots) (hx : p.tables.exec = Jvm.exec) {code : ByteArray} (hby : c.code = code) {pc : Nat} {Ls : Array Slot} {St : List Value} {cd : ClassFile.Cond} {o : Int} {x y : Int32} (hd : decode code pc = .ok (.if_icmp cd o, 3)) (hc : if_icmp.holds cd x y = false) (k : own_Ends p e below s G Q kc ks (T.setTop (mkF m (pc + 3) Ls (St)))) : own_Ends p e below s G Q kc ks (T.setTop (mkF m pc Ls (.int y :: .int x :: St))) := own_of (fun _ q => XS.icmpNo X.here hx rfl (hb hby hd) rfl hc q) k
theorem own_ifnullNo (X : Stand p l e R sS m args below meth c T locs cells slots) (hx : p.tables.exec = Jvm.exec) {code : ByteArray} (hby : c.code = code) {pc : Nat} {Ls : Array Slot} {St : List Value} {o : Int} {b : Addr} (hd : decode code pc = .ok (.ifnull o, 3)) (k : own_Ends p e below s G Q kc ks (T.setTop (mkF m (pc + 3) Ls (St)))) : own_Ends p e below s G Q kc ks (T.setTop (mkF m pc Ls (.ref b :: St))) := own_of (fun _ q => XS.ifnullNo X.here hx rfl (hb hby hd) rfl q) k
theorem own_ifnonnullNo (X : Stand p l e R sS m args below meth c T locs cells slots) (hx : p.tables.exec = Jvm.exec) {code : ByteArray} (hby : c.code = code) {pc : Nat} {Ls : Array Slot} {St : List Value} {o : Int} (hd : decode code pc = .ok (.ifnonnull o, 3)) (k : own_Ends p e below s G Q kc ks (T.setTop (mkF m (pc + 3) Ls (St)))) : own_Ends p e below s G Q kc ks (T.setTop (mkF m pc Ls (.null :: St))) := own_of (fun _ q => XT.ifnonnullNo X.here hx rfl (hb hby hd) rfl q) k
end Own2
theorem own_w {Z : State} {a0 : Array Value} (hw : ∀ d ∈ tables_1, d.before a0 Z = true) (i : Nat) {d : Jvm.Cond} (h : tables_1[i]? = some d) : d.before a0 Z = true := hw _ (List.mem_of_getElem? h)
theorem own_retD {p : Program} {l : Launch} {e : Env} {R : Room} {s : State} {m : MethodId} {args : Array Value} {below : List Frame} {meth : Method} {c : Code} {T : State} {locs : List Loc} {cells slots kc ks : Nat} {Q : Option Value → Heap → List Loc → Prop} (X : Stand p l e R s m args below meth c T locs cells slots) (hx : p.tables.exec = Jvm.exec) (hlk : meth.locks = false) {pc : Nat} {Ls : Array Slot} {z : UInt64} {rest : List Value} (hret : meth.sig.returnType = some .double)
    (hd : decode c.code pc = .ok (.dreturn, 1)) (hc : cells ≤ kc) (hs : slots ≤ ks) (hq : Q (some (.double z)) T.heap locs) : own_Ends p e below s FrameEnd Q kc ks (T.setTop (mkF m pc Ls (.double z :: rest))) := by
  obtain ⟨fs, hr, hrun, hended, hW, hsame⟩ := X.leave (v := some (.double z)) (fun h => by rw [hret] at h; cases h) hlk
  exact ⟨_, _, retOut X hx hret rfl (Or.inr (Or.inr (Or.inl ⟨rfl, rfl, _, rfl⟩))) hd hr, hrun, hended, _, _, rfl, hq, ⟨_, rfl⟩, hW, hsame.mono hc hs⟩
section OwnV
open Jvm.FP.Core
/-- the double x is the number n / 2^k -/
def own_V (x : UInt64) (n : Int) (k : Nat) : Prop := k ≤ 1074 ∧ ∃ (s : Bool) (c : Nat) (q : Int) (N : Nat), val64 x = .fin s c q ∧ n = signed s N ∧ c * 2 ^ (q + 1074).toNat = N * 2 ^ (1074 - k)
theorem own_cancel {A N u v : Nat} {z : Int} (h : A * 2 ^ u = N * 2 ^ v) (hz : (u : Int) - v = z) : A * 2 ^ z.toNat = N * 2 ^ (-z).toNat := by
  by_cases q : v ≤ u
  · rw [show u = z.toNat + v by omega, Nat.pow_add, ← Nat.mul_assoc] at h
    have h2 := Nat.eq_of_mul_eq_mul_right (Nat.two_pow_pos v) h
    rw [show (-z).toNat = 0 by omega, Nat.pow_zero, Nat.mul_one]; exact h2
  · rw [show v = (-z).toNat + u by omega, Nat.pow_add, ← Nat.mul_assoc] at h
    have h2 := Nat.eq_of_mul_eq_mul_right (Nat.two_pow_pos u) h
    rw [show z.toNat = 0 by omega, Nat.pow_zero, Nat.mul_one]; exact h2
theorem own_qmax : b64.qmax = 971 := by decide
theorem own_rr {s : Bool} {A B N k : Nat} {e : Int} (hB : 0 < B) (hk : k ≤ 1074) (hN : N < 2 ^ 53) (h : A * 2 ^ (e + k).toNat = N * B * 2 ^ (-(e + (k : Int))).toNat) :
    ∃ c q, roundRatio b64 s A B e = .fin s c q ∧ c * 2 ^ (q + 1074).toNat = N * 2 ^ (1074 - k) := by
  rw [roundRatio_congr (A' := N) (B' := 1) (e' := -(k : Int)) hB (by decide) (by rw [Nat.mul_one, show e - -(k : Int) = e + k by omega, show -(k : Int) - e = -(e + (k : Int)) by omega]; exact h)]
  obtain ⟨c', q', h1, h2⟩ := round_exact good_b64 s (c := N) (q := -(k : Int)) hN (by rw [qmin_b64]; omega) (by rw [own_qmax]; omega)
  refine ⟨c', q', h1, ?_⟩
  unfold inUnits at h2
  rw [qmin_b64, show -(k : Int) - -1074 = ((1074 - k : Nat) : Int) by omega, Int.toNat_natCast, show q' - -1074 = q' + 1074 by omega] at h2
  exact h2
theorem own_q {x : UInt64} {s : Bool} {c : Nat} {q : Int} (h : val64 x = .fin s c q) : -1074 ≤ q := by
  have := val64_fits x
  rw [h] at this
  have q1 := this.2.1
  rw [qmin_b64] at q1; exact q1
theorem own_sgm (s t : Bool) (a b : Nat) : signed s a * signed t b = signed (s != t) (a * b) := by
  cases s <;> cases t <;> simp [signed, Int.neg_mul, Int.mul_neg]
theorem own_Vmul {x y : UInt64} {n m : Int} {k j : Nat} (hx : own_V x n k) (hy : own_V y m j) (hb : (n * m).natAbs < 2 ^ 53) (hk : k + j ≤ 1074) : own_V (Jvm.FP.dmul x y) (n * m) (k + j) := by
  obtain ⟨_, s, c, q, N, e1, e2, e3⟩ := hx
  obtain ⟨_, t, d, r, M, f1, f2, f3⟩ := hy
  have q1 := own_q e1
  have q2 := own_q f1
  have hnm : n * m = signed (s != t) (N * M) := by rw [e2, f2]; exact own_sgm s t N M
  have hN : N * M < 2 ^ 53 := by rw [hnm, natAbs_signed] at hb; exact hb
  obtain ⟨c', q', h1, h2⟩ := own_rr (s := (s != t)) (A := c * d) (B := 1) (N := N * M) (k := k + j) (e := q + r) (by decide) hk hN (by
    rw [Nat.mul_one]
    refine own_cancel (u := (q + 1074).toNat + (r + 1074).toNat) (v := (1074 - k) + (1074 - j)) ?_ (by omega)
    rw [Nat.pow_add, Nat.pow_add]
    calc c * d * (2 ^ (q + 1074).toNat * 2 ^ (r + 1074).toNat) = (c * 2 ^ (q + 1074).toNat) * (d * 2 ^ (r + 1074).toNat) := by ac_rfl
      _ = (N * 2 ^ (1074 - k)) * (M * 2 ^ (1074 - j)) := by rw [e3, f3]
      _ = N * M * (2 ^ (1074 - k) * 2 ^ (1074 - j)) := by ac_rfl)
  refine ⟨hk, (s != t), c', q', N * M, ?_, hnm, h2⟩
  rw [show val64 (Jvm.FP.dmul x y) = _ from val64_dmul x y, e1, f1]
  exact h1
theorem own_sum {s t : Bool} {c d N M k : Nat} {q r n m : Int} (hk : k ≤ 1074) (q1 : -1074 ≤ q) (q2 : -1074 ≤ r) (e2 : n = signed s N) (e3 : c * 2 ^ (q + 1074).toNat = N * 2 ^ (1074 - k)) (f2 : m = signed t M) (f3 : d * 2 ^ (r + 1074).toNat = M * 2 ^ (1074 - k)) (hb : (n + m).natAbs < 2 ^ 53) :
    ∃ (sg : Bool) (c' : Nat) (q' : Int) (N' : Nat), round b64 (exactSum (.fin s c q) (.fin t d r)) = .fin sg c' q' ∧ n + m = signed sg N' ∧ c' * 2 ^ (q' + 1074).toNat = N' * 2 ^ (1074 - k) := by
  obtain ⟨w, hw⟩ : ∃ w, w = min q r := ⟨_, rfl⟩
  obtain ⟨u, hu⟩ : ∃ u, u = sumUnits s c q t d r w := ⟨_, rfl⟩
  have hval : u * ((2 ^ (w + 1074).toNat : Nat) : Int) = (n + m) * ((2 ^ (1074 - k) : Nat) : Int) := by
    rw [hu]; unfold sumUnits inUnits
    rw [Int.add_mul, ← signed_mul, ← signed_mul, Nat.mul_assoc, Nat.mul_assoc, ← Nat.pow_add, ← Nat.pow_add, show (q - w).toNat + (w + 1074).toNat = (q + 1074).toNat by omega, show (r - w).toNat + (w + 1074).toNat = (r + 1074).toNat by omega, e3, f3, signed_mul, signed_mul, ← e2, ← f2, ← Int.add_mul]
  have p1 : (0 : Int) < ((2 ^ (w + 1074).toNat : Nat) : Int) := Int.natCast_pos.mpr (Nat.two_pow_pos _)
  have p2 : (0 : Int) < ((2 ^ (1074 - k) : Nat) : Int) := Int.natCast_pos.mpr (Nat.two_pow_pos _)
  have habs : u.natAbs * 2 ^ (w + 1074).toNat = (n + m).natAbs * 2 ^ (1074 - k) := by
    have := congrArg Int.natAbs hval
    rw [Int.natAbs_mul, Int.natAbs_mul, Int.natAbs_natCast, Int.natAbs_natCast] at this
    exact this
  obtain ⟨c', q', h1, h2⟩ := own_rr (s := sumSign s t u) (A := u.natAbs) (B := 1) (N := (n + m).natAbs) (k := k) (e := w) (by decide) hk hb (by
    rw [Nat.mul_one]
    exact own_cancel habs (by omega))
  refine ⟨sumSign s t u, c', q', (n + m).natAbs, ?_, ?_, h2⟩
  · show roundRatio b64 (sumSign s t (sumUnits s c q t d r (min q r))) (sumUnits s c q t d r (min q r)).natAbs 1 (min q r) = _
    rw [← hw, ← hu]; exact h1
  · unfold sumSign
    by_cases hz : u = 0
    · have : n + m = 0 := by
        rw [hz, Int.zero_mul] at hval
        rcases Int.mul_eq_zero.mp hval.symm with q | q
        · exact q
        · omega
      rw [this]; exact (signed_zero _).symm
    · rw [if_neg hz]
      by_cases hl : u < 0
      · have : n + m < 0 := by
          refine Int.lt_of_not_ge fun hg => ?_
          have a1 := Int.mul_nonneg hg (Int.le_of_lt p2)
          have a2 := Int.mul_neg_of_neg_of_pos hl p1
          omega
        rw [decide_eq_true hl]; unfold signed; rw [if_pos rfl]; omega
      · have : 0 ≤ n + m := by
          refine Int.not_lt.mp fun hg => ?_
          have a1 := Int.mul_neg_of_neg_of_pos hg p2
          have a2 := Int.mul_nonneg (Int.not_lt.mp hl) (Int.le_of_lt p1)
          omega
        rw [decide_eq_false hl]; unfold signed; rw [if_neg (by decide)]; omega
theorem own_Vadd {x y : UInt64} {n m : Int} {k : Nat} (hx : own_V x n k) (hy : own_V y m k) (hb : (n + m).natAbs < 2 ^ 53) : own_V (Jvm.FP.dadd x y) (n + m) k := by
  obtain ⟨hk, s, c, q, N, e1, e2, e3⟩ := hx
  obtain ⟨_, t, d, r, M, f1, f2, f3⟩ := hy
  obtain ⟨sg, c', q', N', h1, h2, h3⟩ := own_sum hk (own_q e1) (own_q f1) e2 e3 f2 f3 hb
  exact ⟨hk, sg, c', q', N', by rw [show val64 (Jvm.FP.dadd x y) = _ from val64_dadd x y, e1, f1]; exact h1, h2, h3⟩
theorem own_Vsub {x y : UInt64} {n m : Int} {k : Nat} (hx : own_V x n k) (hy : own_V y m k) (hb : (n - m).natAbs < 2 ^ 53) : own_V (Jvm.FP.dsub x y) (n - m) k := by
  obtain ⟨hk, s, c, q, N, e1, e2, e3⟩ := hx
  obtain ⟨_, t, d, r, M, f1, f2, f3⟩ := hy
  have hm : -m = signed (!t) M := by rw [f2]; cases t <;> simp [signed]
  obtain ⟨sg, c', q', N', h1, h2, h3⟩ := own_sum hk (own_q e1) (own_q f1) e2 e3 hm f3 (by rw [← Int.sub_eq_add_neg]; exact hb)
  exact ⟨hk, sg, c', q', N', by rw [show val64 (Jvm.FP.dsub x y) = _ from val64_dsub x y, e1, f1]; exact h1, by rw [Int.sub_eq_add_neg]; exact h2, h3⟩
theorem own_Vdiv {x y : UInt64} {n : Int} {k p : Nat} (hx : own_V x n k) (hy : own_V y ((2 ^ p : Nat) : Int) 0) (hb : n.natAbs < 2 ^ 53) (hk : k + p ≤ 1074) : own_V (Jvm.FP.ddiv x y) n (k + p) := by
  obtain ⟨_, s, c, q, N, e1, e2, e3⟩ := hx
  obtain ⟨_, t, d, r, M, f1, f2, f3⟩ := hy
  have q1 := own_q e1
  have q2 := own_q f1
  have pp := Nat.two_pow_pos p
  have hM : t = false ∧ M = 2 ^ p := by
    generalize 2 ^ p = P at f2 pp
    cases t
    · exact ⟨rfl, by have : (P : Int) = (M : Int) := f2; omega⟩
    · exfalso; have : (P : Int) = -(M : Int) := f2; omega
  obtain ⟨rfl, rfl⟩ := hM
  have hN : N < 2 ^ 53 := by rw [e2, natAbs_signed] at hb; exact hb
  have hd : d ≠ 0 := by
    rintro rfl
    rw [Nat.zero_mul] at f3
    have := Nat.mul_pos pp (Nat.two_pow_pos (1074 - 0))
    omega
  have f4 : d * 2 ^ (r + 1074).toNat = 2 ^ (p + 1074) := f3.trans (Nat.pow_add 2 p (1074 - 0)).symm
  obtain ⟨c', q', h1, h2⟩ := own_rr (s := (s != false)) (A := c) (B := d) (N := N) (k := k + p) (e := q - r) (Nat.pos_of_ne_zero hd) hk hN (by
    refine own_cancel (u := (q + 1074).toNat + (p + 1074)) (v := (1074 - k) + (r + 1074).toNat) ?_ (by omega)
    rw [Nat.pow_add, Nat.pow_add 2 (1074 - k)]
    rw [← Nat.mul_assoc, e3, ← f4]
    exact Nat.mul_mul_mul_comm _ _ _ _)
  refine ⟨hk, (s != false), c', q', N, ?_, by rw [e2]; cases s <;> rfl, h2⟩
  rw [show val64 (Jvm.FP.ddiv x y) = _ from val64_ddiv x y, e1, f1]
  show (if d = 0 then _ else roundRatio b64 (s != false) c d (q - r)) = _
  rw [if_neg hd]; exact h1
theorem own_Vint {x : UInt64} {i : Int} (h : val64 x = round b64 (ofInt i)) (hb : i.natAbs < 2 ^ 53) : own_V x i 0 := by
  obtain ⟨c', q', h1, h2⟩ := own_rr (s := decide (i < 0)) (A := i.natAbs) (B := 1) (N := i.natAbs) (k := 0) (e := 0) (by decide) (by decide) hb (by rw [Nat.mul_one]; rfl)
  refine ⟨Nat.zero_le _, decide (i < 0), c', q', i.natAbs, by rw [h]; exact h1, ?_, h2⟩
  unfold signed
  by_cases hl : i < 0
  · rw [decide_eq_true hl, if_pos rfl]; omega
  · rw [decide_eq_false hl, if_neg (by decide)]; omega
theorem own_Vi2d (x : Int32) : own_V (Jvm.FP.i2d x) x.toInt 0 := own_Vint (val64_i2d x) (Nat.lt_of_le_of_lt (int32_abs x) (by decide))
theorem own_Vl2d {x : Int64} (hb : x.toInt.natAbs < 2 ^ 53) : own_V (Jvm.FP.l2d x) x.toInt 0 := own_Vint (val64_l2d x) hb
theorem own_pe {a b c d : Nat} (h : a + b = c + d) : 2 ^ a * 2 ^ b = 2 ^ c * 2 ^ d := by rw [← Nat.pow_add, ← Nat.pow_add, h]
theorem own_V1 : own_V Jvm.FP.dconst1 1 0 := ⟨Nat.zero_le _, false, 2 ^ 52, -52, 2 ^ 0, val64_dconst1, rfl, own_pe (by decide)⟩
theorem own_V16 : own_V (4625196817309499392 : UInt64) ((2 ^ 4 : Nat) : Int) 0 := ⟨Nat.zero_le _, false, 2 ^ 52, -48, 2 ^ 4, by decide +kernel, rfl, own_pe (by decide)⟩
theorem own_Vup {x : UInt64} {n : Int} {k : Nat} (j : Nat) (h : own_V x n k) (hk : k + j ≤ 1074) : own_V x (n * ((2 ^ j : Nat) : Int)) (k + j) := by
  obtain ⟨_, s, c, q, N, e1, e2, e3⟩ := h
  refine ⟨hk, s, c, q, N * 2 ^ j, e1, by rw [e2, ← signed_mul], ?_⟩
  rw [e3, Nat.mul_assoc, ← Nat.pow_add, show j + (1074 - (k + j)) = 1074 - k by omega]
theorem own_Vnn {x : UInt64} {n : Int} {k : Nat} (h : own_V x n k) : Jvm.Free.Fl.NoNaN64 x := by
  obtain ⟨_, s, c, q, N, e1, _, _⟩ := h
  exact (Jvm.Free.Fl.fin64_core.mpr ⟨s, c, q, e1⟩).noNaN
theorem own_Veq {x y : UInt64} {n : Int} {k : Nat} (hx : own_V x n k) (hy : own_V y n k) (o : CmpOp) : cmpValue (Jvm.FP.dcmp x y) o = 0 := by
  obtain ⟨_, s, c, q, N, e1, e2, e3⟩ := hx
  obtain ⟨_, t, d, r, M, f1, f2, f3⟩ := hy
  have zx : ∀ (s : Bool) (c : Nat) (q : Int) (N : Nat), n = signed s N → c * 2 ^ (q + 1074).toNat = N * 2 ^ (1074 - k) → zval b64 (.fin s c q) = n * ((2 ^ (1074 - k) : Nat) : Int) := by
    intro s c q N e2 e3
    show signed s (inUnits c q b64.qmin) = _
    unfold inUnits
    rw [qmin_b64, show q - -1074 = q + 1074 by omega, e3, signed_mul, e2]
  have hc : Jvm.FP.dcmp x y = some .eq := by
    show order (val64 x) (val64 y) = some .eq
    rw [order_zval good_b64 (val64_fits x) (val64_fits y) (by rw [e1]; nofun) (by rw [f1]; nofun), e1, f1, zx s c q N e2 e3, zx t d r M f2 f3]
    congr 1
    exact Std.ReflCmp.compare_self
  rw [hc]; rfl
end OwnV
theorem own_lo8 {x : Int32} (h : 0 ≤ x.toInt ∧ x.toInt ≤ 7) : x = 0 ∨ x = 1 ∨ x = 2 ∨ x = 3 ∨ x = 4 ∨ x = 5 ∨ x = 6 ∨ x = 7 := by
  have c0 : (0 : Int32).toInt = 0 := by decide
  have c1 : (1 : Int32).toInt = 1 := by decide
  have c2 : (2 : Int32).toInt = 2 := by decide
  have c3 : (3 : Int32).toInt = 3 := by decide
  have c4 : (4 : Int32).toInt = 4 := by decide
  have c5 : (5 : Int32).toInt = 5 := by decide
  have c6 : (6 : Int32).toInt = 6 := by decide
  have c7 : (7 : Int32).toInt = 7 := by decide
  simp only [← Int32.toInt_inj, c0, c1, c2, c3, c4, c5, c6, c7]
  omega
theorem own_and7 {x v : Int32} (h : v = (x &&& (7 : Int32))) : 0 ≤ v.toInt ∧ v.toInt ≤ 7 := by
  have e1 := Jvm.Kit.i32_mask x 7 (k := 3) (by decide) (by decide)
  rw [h, e1]
  omega
theorem own_sh1 {p : Int32} {d : Int64} (h : 0 ≤ p.toInt ∧ p.toInt ≤ 7) (hd : d = ((1 : Int64) <<< (p.toInt64 &&& 63))) : d.toInt = ((2 ^ p.toInt.toNat : Nat) : Int) := by
  subst hd
  rcases own_lo8 h with q | q | q | q | q | q | q | q <;> subst q <;> decide
theorem own_sh16 {p q : Int32} {d : Int64} (h : 0 ≤ p.toInt ∧ p.toInt ≤ 7) (k : 0 ≤ q.toInt ∧ q.toInt ≤ 7) (hd : d = ((16 : Int64) <<< ((p + q).toInt64 &&& 63))) : d.toInt = ((2 ^ (4 + (p.toInt.toNat + q.toInt.toNat)) : Nat) : Int) := by
  subst hd
  rcases own_lo8 h with e | e | e | e | e | e | e | e <;> rcases own_lo8 k with f | f | f | f | f | f | f | f <;> subst e <;> subst f <;> decide
theorem own_a15 {x v : Int32} (h : v = ((1 : Int32) + ((x &&& (2147483647 : Int32)) % (15 : Int32)))) : 1 ≤ v.toInt ∧ v.toInt ≤ 15 := by
  have e1 := Jvm.Kit.i32_mask x 2147483647 (k := 31) (by decide) (by decide)
  have c1 : (1 : Int32).toInt = 1 := by decide
  have c15 : (15 : Int32).toInt = 15 := by decide
  obtain ⟨y, hy⟩ : ∃ y, y = (x &&& (2147483647 : Int32)) := ⟨_, rfl⟩
  rw [← hy] at e1 h
  have e2 : (y % (15 : Int32)).toInt = y.toInt.tmod 15 := by rw [Int32.toInt_mod, c15]
  have e3 : y.toInt.tmod 15 = y.toInt % 15 := Int.tmod_eq_emod_of_nonneg (by omega)
  rw [h, Int32.toInt_add, e2, e3, c1, Int.bmod_eq_of_le (by omega) (by omega)]
  omega
theorem own_sh11 {x v : Int32} (h : v = (x >>> ((11 : Int32) &&& 31))) : -1048576 ≤ v.toInt ∧ v.toInt ≤ 1048575 := by
  have e1 := Jvm.Kit.i32_shr x ((11 : Int32) &&& 31) (k := 11) (by decide)
  have h1 := x.toInt_lt
  have h2 := x.le_toInt
  rw [h, e1]
  omega
theorem own_ab {a b A B : Int} (h1 : -A ≤ a) (h2 : a ≤ A) (k1 : -B ≤ b) (k2 : b ≤ B) : -(A * B) ≤ a * b ∧ a * b ≤ A * B := by
  have hA : 0 ≤ A := by omega
  have hB : 0 ≤ B := by omega
  have e : (a * b).natAbs ≤ A.natAbs * B.natAbs := by
    rw [Int.natAbs_mul]; exact Nat.mul_le_mul (by omega) (by omega)
  have e2 : ((A.natAbs * B.natAbs : Nat) : Int) = A * B := by
    rw [Int.natCast_mul, Int.natAbs_of_nonneg hA, Int.natAbs_of_nonneg hB]
  omega
theorem own_mulL {x y : Int64} {z : Int} (h : x.toInt * y.toInt = z) (b1 : -4611686018427387904 ≤ z) (b2 : z ≤ 4611686018427387903) : (x * y).toInt = z := by
  rw [Int64.toInt_mul, h]; exact Int.bmod_eq_of_le (by omega) (by omega)
theorem own_addL {x y : Int64} {z : Int} (h : x.toInt + y.toInt = z) (b1 : -4611686018427387904 ≤ z) (b2 : z ≤ 4611686018427387903) : (x + y).toInt = z := by
  rw [Int64.toInt_add, h]; exact Int.bmod_eq_of_le (by omega) (by omega)
theorem own_pw {p : Nat} (h : p ≤ 7) : 1 ≤ ((2 ^ p : Nat) : Int) ∧ ((2 ^ p : Nat) : Int) ≤ 128 := by
  have h1 := Nat.two_pow_pos p
  have h2 : 2 ^ p ≤ 2 ^ 7 := Nat.pow_le_pow_right (by decide) h
  omega
/-- the law's whole number, and how great its parts are -/
theorem own_bd {a s m : Int} {p q : Nat} (ha : 1 ≤ a ∧ a ≤ 15) (hs : -1048576 ≤ s ∧ s ≤ 1048575) (hm : -1048576 ≤ m ∧ m ≤ 1048575) (hp : p ≤ 7) (hq : q ≤ 7) :
    (-15728640 ≤ a * s ∧ a * s ≤ 15728640) ∧ (-15728640 ≤ (16 - a) * m ∧ (16 - a) * m ≤ 15728640) ∧ (-2013265920 ≤ a * s * ((2 ^ q : Nat) : Int) ∧ a * s * ((2 ^ q : Nat) : Int) ≤ 2013265920) ∧ (-2013265920 ≤ (16 - a) * m * ((2 ^ p : Nat) : Int) ∧ (16 - a) * m * ((2 ^ p : Nat) : Int) ≤ 2013265920) := by
  have b1 := own_ab (a := a) (b := s) (A := 15) (B := 1048576) (by omega) (by omega) (by omega) (by omega)
  have b2 := own_ab (a := 16 - a) (b := m) (A := 15) (B := 1048576) (by omega) (by omega) (by omega) (by omega)
  have p1 := own_pw hp
  have p2 := own_pw hq
  have b3 := own_ab (a := a * s) (b := ((2 ^ q : Nat) : Int)) (A := 15728640) (B := 128) (by omega) (by omega) (by omega) (by omega)
  have b4 := own_ab (a := (16 - a) * m) (b := ((2 ^ p : Nat) : Int)) (A := 15728640) (B := 128) (by omega) (by omega) (by omega) (by omega)
  exact ⟨b1, b2, b3, b4⟩
theorem own_num {a s m : Int32} {p q : Nat} {ds dm v : Int64} (ha : 1 ≤ a.toInt ∧ a.toInt ≤ 15) (hs : -1048576 ≤ s.toInt ∧ s.toInt ≤ 1048575) (hm : -1048576 ≤ m.toInt ∧ m.toInt ≤ 1048575) (hp : p ≤ 7) (hq : q ≤ 7) (hds : ds.toInt = ((2 ^ p : Nat) : Int)) (hdm : dm.toInt = ((2 ^ q : Nat) : Int))
    (h : v = ((((a.toInt64) * (s.toInt64)) * dm) + (((((16 : Int32) - a).toInt64) * (m.toInt64)) * ds))) : v.toInt = a.toInt * s.toInt * ((2 ^ q : Nat) : Int) + (16 - a.toInt) * m.toInt * ((2 ^ p : Nat) : Int) := by
  obtain ⟨b1, b2, b3, b4⟩ := own_bd ha hs hm hp hq
  have c16 : (16 : Int32).toInt = 16 := by decide
  have e16 : ((16 : Int32) - a).toInt = 16 - a.toInt := by rw [Int32.toInt_sub, c16, Int.bmod_eq_of_le (by omega) (by omega)]
  have m1 : (a.toInt64 * s.toInt64).toInt = a.toInt * s.toInt := own_mulL (by rw [Int32.toInt_toInt64, Int32.toInt_toInt64]) (by omega) (by omega)
  have m2 : (((16 : Int32) - a).toInt64 * m.toInt64).toInt = (16 - a.toInt) * m.toInt := own_mulL (by rw [Int32.toInt_toInt64, Int32.toInt_toInt64, e16]) (by omega) (by omega)
  have m3 : (a.toInt64 * s.toInt64 * dm).toInt = a.toInt * s.toInt * ((2 ^ q : Nat) : Int) := own_mulL (by rw [m1, hdm]) (by omega) (by omega)
  have m4 : (((16 : Int32) - a).toInt64 * m.toInt64 * ds).toInt = (16 - a.toInt) * m.toInt * ((2 ^ p : Nat) : Int) := own_mulL (by rw [m2, hds]) (by omega) (by omega)
  rw [h]
  exact own_addL (by rw [m3, m4]) (by omega) (by omega)
theorem own_Vone : own_V Jvm.FP.dconst1 16 4 := by
  have h := own_Vup 4 own_V1 (by decide)
  rw [show (1 : Int) * ((2 ^ 4 : Nat) : Int) = 16 by decide] at h
  exact h
theorem own_Vpow {x : Int64} {p : Nat} (h : x.toInt = ((2 ^ p : Nat) : Int)) (hp : p ≤ 20) : own_V (Jvm.FP.l2d x) ((2 ^ p : Nat) : Int) 0 := by
  have h2 : 2 ^ p ≤ 2 ^ 20 := Nat.pow_le_pow_right (by decide) hp
  have q := own_Vl2d (x := x) (by rw [h, Int.natAbs_natCast]; exact Nat.lt_of_le_of_lt h2 (by decide))
  rw [h] at q; exact q
theorem own_b53 {z : Int} (h : -4611686018427387 ≤ z ∧ z ≤ 4611686018427387) : z.natAbs < 2 ^ 53 := by
  have : (2 : Nat) ^ 53 = 9007199254740992 := by decide
  omega
abbrev mN_0 : MethodName := ⟨"com/example/opt2/opt2/plan/Objective", "<init>", "(DDD)V"⟩
theorem d1_0 : decode prog_30_method_1_code 0 = .ok (.aload_n 0, 1) := by decide +kernel
theorem d1_1 : decode prog_30_method_1_code 1 = .ok (.invokespecial 1, 3) := by decide +kernel
theorem d1_4 : decode prog_30_method_1_code 4 = .ok (.aload_n 0, 1) := by decide +kernel
theorem d1_5 : decode prog_30_method_1_code 5 = .ok (.dload_n 1, 1) := by decide +kernel
theorem d1_6 : decode prog_30_method_1_code 6 = .ok (.putfield 7, 3) := by decide +kernel
theorem d1_9 : decode prog_30_method_1_code 9 = .ok (.aload_n 0, 1) := by decide +kernel
theorem d1_10 : decode prog_30_method_1_code 10 = .ok (.dload_n 3, 1) := by decide +kernel
theorem d1_11 : decode prog_30_method_1_code 11 = .ok (.putfield 13, 3) := by decide +kernel
theorem d1_14 : decode prog_30_method_1_code 14 = .ok (.aload_n 0, 1) := by decide +kernel
theorem d1_15 : decode prog_30_method_1_code 15 = .ok (.dload 5, 2) := by decide +kernel
theorem d1_17 : decode prog_30_method_1_code 17 = .ok (.putfield 16, 3) := by decide +kernel
theorem d1_20 : decode prog_30_method_1_code 20 = .ok (.return_, 1) := by decide +kernel
theorem pn_0 : plainName "com/example/opt2/opt2/plan/Objective" = true := by first | (simp [plainName, overriddenIn]; done) | decide +kernel
theorem ef_in (m : MethodId) (x0 : Addr) (x1 : UInt64) (x2 : UInt64) (x3 : UInt64) : entryFrame m #[(.ref x0), (.double x1), (.double x2), (.double x3)] 7 = mkF m 0 #[.val (.ref x0), .val (.double x1), .second, .val (.double x2), .second, .val (.double x3), .second] [] := by first | (simp [entryFrame, mkF, argsToLocals, Value.category]; done) | rfl
def Qin (Z : State) (a1 : Addr) (w2 w3 w4 : UInt64) (h0 : Heap) (n0 : Nat) (v : Option Value) (h : Heap) (L : List Loc) : Prop := v = none ∧ Fr n0 L ∧ Keep h0 h [a1] ∧ Fld Z h a1 "com/example/opt2/opt2/plan/Objective" "timeWeight" "D" (.double w2) ∧ Fld Z h a1 "com/example/opt2/opt2/plan/Objective" "desiredSeconds" "D" (.double w3) ∧ Fld Z h a1 "com/example/opt2/opt2/plan/Objective" "desiredMoney" "D" (.double w4)
set_option maxRecDepth 65536 in
set_option maxHeartbeats 40000000 in
theorem rmin (l : Launch) (Z : State) (a0 : Array Value) (hw : ∀ d ∈ tables_1, d.before a0 Z = true) (ws : List Jvm.Cond) (a1 : Addr) (w2 w3 w4 : UInt64) (h0 : Heap) (n0 : Nat) (Z0 : n0 ≤ h0.size) (E1 : Exa Z h0 a1 "com/example/opt2/opt2/plan/Objective") (Fw : Fld Z h0 a1 "com/example/opt2/opt2/plan/Objective" "timeWeight" "D" (.double (0 : UInt64))) (Fs : Fld Z h0 a1 "com/example/opt2/opt2/plan/Objective" "desiredSeconds" "D" (.double (0 : UInt64))) (Fm : Fld Z h0 a1 "com/example/opt2/opt2/plan/Objective" "desiredMoney" "D" (.double (0 : UInt64))) (g_a1 : n0 ≤ a1) :
    MetFree l mN_0 (head1 (Jvm.Cond.code mN_0 prog_30_method_1_code 7 none :: ws) ({ frames := 1, cells := 0, slots := 0, locals := 12 } : Room)) (fun a U => a = #[(.ref a1), (.double w2), (.double w3), (.double w4)] ∧ Z.Warmed39 U.vm ∧ U.heap = h0) (fun _ _ _ _ _ => True) (fun _ U o U' => ∃ v L, o = .returned v ∧ (Qin Z a1 w2 w3 w4 h0 n0) v U'.heap L ∧ FrameEnd U o U' L ({ frames := 1, cells := 0, slots := 0, locals := 12 } : Room).cells ({ frames := 1, cells := 0, slots := 0, locals := 12 } : Room).slots) := by
  refine MetFree.of_bodySF (plainFor_of_name pn_0) hisR ?_
  intro p e s m args below meth c s₁ Bd hml0 hP hK
  obtain ⟨rfl, hZ, hh⟩ := hP
  have hx := Bd.exec
  have hby := Bd.bytes
  have hml : c.maxLocals = 7 := hml0
  have hown : s.vm.findClass "com/example/opt2/opt2/plan/Objective" = some m.cls := findClass_of_methodNamed Bd.named
  have hnm := (name_of_methodNamed Bd.named Bd.method).1
  have hlk := Bd.notSynchronized
  have X0 : Stand p l e ({ frames := 1, cells := 0, slots := 0, locals := 12 } : Room) s m #[(.ref a1), (.double w2), (.double w3), (.double w4)] below meth c s₁ [] 0 0 := Stand.of_body Bd
  have e0 : s₁.heap = h0 := by rw [← hh, Bd.state]; rfl
  have N0 := Fr.nil n0
  have KK := Keep.refl h0 [a1]
  show own_Ends p e below s FrameEnd (Qin Z a1 w2 w3 w4 h0 n0) 0 0 (s₁.setTop (entryFrame m #[(.ref a1), (.double w2), (.double w3), (.double w4)] 7))
  refine own_of (U' := (s₁.setTop (mkF m 0 #[.val (.ref a1), .val (.double w2), .second, .val (.double w3), .second, .val (.double w4), .second] []))) (fun _ k => castTop (ef_in m a1 w2 w3 w4) k) ?_
  refine own_aloadN X0 hx hby d1_0 rfl rfl ?_
  obtain ⟨T1, X1, e1, st1⟩ := initO X0 hx hZ hown (own_w hw 8 rfl) (own_w hw 9 rfl) (own_w hw 10 rfl) e0 (g := (mkF m 1 #[.val (.ref a1), .val (.double w2), .second, .val (.double w3), .second, .val (.double w4), .second] [(.ref a1)])) rfl (by rw [hml]; rfl) rfl (hb hby d1_1) (by decide) (W := 0) (by show 2 * 0 + _ ≤ _; exact Nat.le_of_eq rfl) (by decide)
  refine own_of (U' := (T1.setTop (mkF m 4 #[.val (.ref a1), .val (.double w2), .second, .val (.double w3), .second, .val (.double w4), .second] []))) (st1) ?_
  refine own_aloadN X1 hx hby d1_4 rfl rfl ?_
  refine own_dloadN X1 hx hby d1_5 rfl ?_
  obtain ⟨T2, h2, X2, e2, W2, st2⟩ := putF X1 hx hZ hown (host := "") (Or.inl (own_w hw 11 rfl)) Via.refl e1 Fw E1 (Or.inr ⟨(own_w hw 12 rfl), rfl, hnm⟩) (own_w hw 2 rfl) (ty := .double) (by decide) rfl rfl (g := (mkF m 6 #[.val (.ref a1), .val (.double w2), .second, .val (.double w3), .second, .val (.double w4), .second] [(.double w2), (.ref a1)])) rfl rfl (hb hby d1_6)
  replace Z0 := Nat.le_trans Z0 (Keep.of_wr W2).1
  replace E1 := E1.wr W2
  replace Fw := Fw.same W2
  replace Fs := Fs.other W2 (Or.inr (slot_ne (Or.inr (own_w hw 14 rfl)) (Or.inr (own_w hw 12 rfl)) (by decide) (t := .double) (t' := .double) (by decide) (by decide)))
  replace Fm := Fm.other W2 (Or.inr (slot_ne (Or.inr (own_w hw 16 rfl)) (Or.inr (own_w hw 12 rfl)) (by decide) (t := .double) (t' := .double) (by decide) (by decide)))
  replace KK := KK.wr W2 (Or.inl (List.mem_of_getElem? (i := 0) rfl))
  have N2 := Fr.snoc X2 N0 g_a1
  refine own_of (U' := (T2.setTop (mkF m 9 #[.val (.ref a1), .val (.double w2), .second, .val (.double w3), .second, .val (.double w4), .second] []))) (st2) ?_
  refine own_aloadN X2 hx hby d1_9 rfl rfl ?_
  refine own_dloadN X2 hx hby d1_10 rfl ?_
  obtain ⟨T3, h3, X3, e3, W3, st3⟩ := putF X2 hx hZ hown (host := "") (Or.inl (own_w hw 13 rfl)) Via.refl e2 Fs E1 (Or.inr ⟨(own_w hw 14 rfl), rfl, hnm⟩) (own_w hw 2 rfl) (ty := .double) (by decide) rfl rfl (g := (mkF m 11 #[.val (.ref a1), .val (.double w2), .second, .val (.double w3), .second, .val (.double w4), .second] [(.double w3), (.ref a1)])) rfl rfl (hb hby d1_11)
  replace Z0 := Nat.le_trans Z0 (Keep.of_wr W3).1
  replace E1 := E1.wr W3
  replace Fw := Fw.other W3 (Or.inr (slot_ne (Or.inr (own_w hw 12 rfl)) (Or.inr (own_w hw 14 rfl)) (by decide) (t := .double) (t' := .double) (by decide) (by decide)))
  replace Fs := Fs.same W3
  replace Fm := Fm.other W3 (Or.inr (slot_ne (Or.inr (own_w hw 16 rfl)) (Or.inr (own_w hw 14 rfl)) (by decide) (t := .double) (t' := .double) (by decide) (by decide)))
  replace KK := KK.wr W3 (Or.inl (List.mem_of_getElem? (i := 0) rfl))
  have N3 := Fr.snoc X3 N2 g_a1
  refine own_of (U' := (T3.setTop (mkF m 14 #[.val (.ref a1), .val (.double w2), .second, .val (.double w3), .second, .val (.double w4), .second] []))) (st3) ?_
  refine own_aloadN X3 hx hby d1_14 rfl rfl ?_
  refine own_dload X3 hx hby d1_15 rfl ?_
  obtain ⟨T4, h4, X4, e4, W4, st4⟩ := putF X3 hx hZ hown (host := "") (Or.inl (own_w hw 15 rfl)) Via.refl e3 Fm E1 (Or.inr ⟨(own_w hw 16 rfl), rfl, hnm⟩) (own_w hw 2 rfl) (ty := .double) (by decide) rfl rfl (g := (mkF m 17 #[.val (.ref a1), .val (.double w2), .second, .val (.double w3), .second, .val (.double w4), .second] [(.double w4), (.ref a1)])) rfl rfl (hb hby d1_17)
  replace Z0 := Nat.le_trans Z0 (Keep.of_wr W4).1
  replace E1 := E1.wr W4
  replace Fw := Fw.other W4 (Or.inr (slot_ne (Or.inr (own_w hw 12 rfl)) (Or.inr (own_w hw 16 rfl)) (by decide) (t := .double) (t' := .double) (by decide) (by decide)))
  replace Fs := Fs.other W4 (Or.inr (slot_ne (Or.inr (own_w hw 14 rfl)) (Or.inr (own_w hw 16 rfl)) (by decide) (t := .double) (t' := .double) (by decide) (by decide)))
  replace Fm := Fm.same W4
  replace KK := KK.wr W4 (Or.inl (List.mem_of_getElem? (i := 0) rfl))
  have N4 := Fr.snoc X4 N3 g_a1
  refine own_of (U' := (T4.setTop (mkF m 20 #[.val (.ref a1), .val (.double w2), .second, .val (.double w3), .second, .val (.double w4), .second] []))) (st4) ?_
  exact own_ret0 X4 hx hlk Bd.returns (hb hby d1_20) (by decide) (by decide) (by rw [e4]; exact ⟨rfl, N4, KK, Fw, Fs, Fm⟩)
def own_nm (a s t : Int) (p q : Nat) : Int := a * s * ((2 ^ q : Nat) : Int) + (16 - a) * t * ((2 ^ p : Nat) : Int)
abbrev mN_1 : MethodName := ⟨"com/example/opt2/opt2/plan/Objective", "cost", "(DD)D"⟩
theorem d3_0 : decode prog_30_method_6_code 0 = .ok (.aload_n 0, 1) := by decide +kernel
theorem d3_1 : decode prog_30_method_6_code 1 = .ok (.getfield 7, 3) := by decide +kernel
theorem d3_4 : decode prog_30_method_6_code 4 = .ok (.dload_n 1, 1) := by decide +kernel
theorem d3_5 : decode prog_30_method_6_code 5 = .ok (.dmul, 1) := by decide +kernel
theorem d3_6 : decode prog_30_method_6_code 6 = .ok (.aload_n 0, 1) := by decide +kernel
theorem d3_7 : decode prog_30_method_6_code 7 = .ok (.getfield 13, 3) := by decide +kernel
theorem d3_10 : decode prog_30_method_6_code 10 = .ok (.ddiv, 1) := by decide +kernel
theorem d3_11 : decode prog_30_method_6_code 11 = .ok (.dconst 1, 1) := by decide +kernel
theorem d3_12 : decode prog_30_method_6_code 12 = .ok (.aload_n 0, 1) := by decide +kernel
theorem d3_13 : decode prog_30_method_6_code 13 = .ok (.getfield 7, 3) := by decide +kernel
theorem d3_16 : decode prog_30_method_6_code 16 = .ok (.dsub, 1) := by decide +kernel
theorem d3_17 : decode prog_30_method_6_code 17 = .ok (.dload_n 3, 1) := by decide +kernel
theorem d3_18 : decode prog_30_method_6_code 18 = .ok (.dmul, 1) := by decide +kernel
theorem d3_19 : decode prog_30_method_6_code 19 = .ok (.aload_n 0, 1) := by decide +kernel
theorem d3_20 : decode prog_30_method_6_code 20 = .ok (.getfield 16, 3) := by decide +kernel
theorem d3_23 : decode prog_30_method_6_code 23 = .ok (.ddiv, 1) := by decide +kernel
theorem d3_24 : decode prog_30_method_6_code 24 = .ok (.dadd, 1) := by decide +kernel
theorem d3_25 : decode prog_30_method_6_code 25 = .ok (.dreturn, 1) := by decide +kernel
theorem ef_co (m : MethodId) (x0 : Addr) (x1 : UInt64) (x2 : UInt64) : entryFrame m #[(.ref x0), (.double x1), (.double x2)] 5 = mkF m 0 #[.val (.ref x0), .val (.double x1), .second, .val (.double x2), .second] [] := by first | (simp [entryFrame, mkF, argsToLocals, Value.category]; done) | rfl
def Qco (aa ss tt : Int) (pp qq : Nat) (h0 : Heap) (n0 : Nat) (v : Option Value) (h : Heap) (L : List Loc) : Prop := ∃ r : UInt64, v = some (.double r) ∧ own_V r (own_nm aa ss tt pp qq) (4 + pp + qq) ∧ Fr n0 L ∧ h = h0
set_option maxRecDepth 65536 in
set_option maxHeartbeats 40000000 in
theorem rmco (l : Launch) (Z : State) (a0 : Array Value) (hw : ∀ d ∈ tables_1, d.before a0 Z = true) (ws : List Jvm.Cond) (a1 : Addr) (w2 w3 w4 w5 w6 : UInt64) (aa ss tt : Int) (pp qq : Nat) (h0 : Heap) (n0 : Nat) (Z0 : n0 ≤ h0.size) (Fw : Fld Z h0 a1 "com/example/opt2/opt2/plan/Objective" "timeWeight" "D" (.double w2)) (Fs : Fld Z h0 a1 "com/example/opt2/opt2/plan/Objective" "desiredSeconds" "D" (.double w3)) (Fm : Fld Z h0 a1 "com/example/opt2/opt2/plan/Objective" "desiredMoney" "D" (.double w4)) (Vw : own_V w2 aa 4) (Vs : own_V w3 ((2 ^ pp : Nat) : Int) 0) (Vm : own_V w4 ((2 ^ qq : Nat) : Int) 0) (Vx : own_V w5 ss 0) (Vy : own_V w6 tt 0) (ha : 1 ≤ aa ∧ aa ≤ 15) (hs : -1048576 ≤ ss ∧ ss ≤ 1048575) (ht : -1048576 ≤ tt ∧ tt ≤ 1048575) (hp : pp ≤ 7) (hq : qq ≤ 7) :
    MetFree l mN_1 (head1 (Jvm.Cond.code mN_1 prog_30_method_6_code 5 (some .double) :: ws) ({ frames := 0, cells := 0, slots := 0, locals := 0 } : Room)) (fun a U => a = #[(.ref a1), (.double w5), (.double w6)] ∧ Z.Warmed39 U.vm ∧ U.heap = h0) (fun _ _ _ _ _ => True) (fun _ U o U' => ∃ v L, o = .returned v ∧ (Qco aa ss tt pp qq h0 n0) v U'.heap L ∧ FrameEnd U o U' L ({ frames := 0, cells := 0, slots := 0, locals := 0 } : Room).cells ({ frames := 0, cells := 0, slots := 0, locals := 0 } : Room).slots) := by
  refine MetFree.of_bodySF (plainFor_of_name pn_0) hisR ?_
  intro p e s m args below meth c s₁ Bd hml0 hP hK
  obtain ⟨rfl, hZ, hh⟩ := hP
  have hx := Bd.exec
  have hby := Bd.bytes
  have hml : c.maxLocals = 5 := hml0
  have hown : s.vm.findClass "com/example/opt2/opt2/plan/Objective" = some m.cls := findClass_of_methodNamed Bd.named
  have hnm := (name_of_methodNamed Bd.named Bd.method).1
  have hlk := Bd.notSynchronized
  have X0 : Stand p l e ({ frames := 0, cells := 0, slots := 0, locals := 0 } : Room) s m #[(.ref a1), (.double w5), (.double w6)] below meth c s₁ [] 0 0 := Stand.of_body Bd
  have e0 : s₁.heap = h0 := by rw [← hh, Bd.state]; rfl
  have N0 := Fr.nil n0
  show own_Ends p e below s FrameEnd (Qco aa ss tt pp qq h0 n0) 0 0 (s₁.setTop (entryFrame m #[(.ref a1), (.double w5), (.double w6)] 5))
  refine own_of (U' := (s₁.setTop (mkF m 0 #[.val (.ref a1), .val (.double w5), .second, .val (.double w6), .second] []))) (fun _ k => castTop (ef_co m a1 w5 w6) k) ?_
  obtain ⟨b1, b2, b3, b4⟩ := own_bd ha hs ht hp hq
  refine own_aloadN X0 hx hby d3_0 rfl rfl ?_
  obtain ⟨T5, X5, e5, st5⟩ := getF X0 hx hZ hown (host := "") (Or.inl (own_w hw 11 rfl)) Via.refl e0 Fw (g := (mkF m 1 #[.val (.ref a1), .val (.double w5), .second, .val (.double w6), .second] [(.ref a1)])) rfl rfl (hb hby d3_1)
  refine own_of (U' := (T5.setTop (mkF m 4 #[.val (.ref a1), .val (.double w5), .second, .val (.double w6), .second] [(.double w2)]))) (st5) ?_
  refine own_dloadN X5 hx hby d3_4 rfl ?_
  have V1 : own_V (FP.dmul w2 w5) (aa * ss) 4 := own_Vmul Vw Vx (own_b53 (by omega)) (by omega)
  refine own_of (U' := (T5.setTop (mkF m 6 #[.val (.ref a1), .val (.double w5), .second, .val (.double w6), .second] [(.double (FP.dmul w2 w5))]))) (fun _ k => XS.dmulS X5.here hx rfl (hb hby d3_5) rfl (own_Vnn V1) rfl k) ?_
  refine own_aloadN X5 hx hby d3_6 rfl rfl ?_
  obtain ⟨T6, X6, e6, st6⟩ := getF X5 hx hZ hown (host := "") (Or.inl (own_w hw 13 rfl)) Via.refl e5 Fs (g := (mkF m 7 #[.val (.ref a1), .val (.double w5), .second, .val (.double w6), .second] [(.ref a1), (.double (FP.dmul w2 w5))])) rfl rfl (hb hby d3_7)
  refine own_of (U' := (T6.setTop (mkF m 10 #[.val (.ref a1), .val (.double w5), .second, .val (.double w6), .second] [(.double w3), (.double (FP.dmul w2 w5))]))) (st6) ?_
  have V2 : own_V (FP.ddiv (FP.dmul w2 w5) w3) (aa * ss) (4 + pp) := own_Vdiv V1 Vs (own_b53 (by omega)) (by omega)
  refine own_of (U' := (T6.setTop (mkF m 11 #[.val (.ref a1), .val (.double w5), .second, .val (.double w6), .second] [(.double (FP.ddiv (FP.dmul w2 w5) w3))]))) (fun _ k => XS.ddivS X6.here hx rfl (hb hby d3_10) rfl (own_Vnn V2) rfl k) ?_
  refine own_of (U' := (T6.setTop (mkF m 12 #[.val (.ref a1), .val (.double w5), .second, .val (.double w6), .second] [(.double FP.dconst1), (.double (FP.ddiv (FP.dmul w2 w5) w3))]))) (fun _ k => XS.dconst1 X6.here hx rfl (hb hby d3_11) rfl k) ?_
  refine own_aloadN X6 hx hby d3_12 rfl rfl ?_
  obtain ⟨T7, X7, e7, st7⟩ := getF X6 hx hZ hown (host := "") (Or.inl (own_w hw 11 rfl)) Via.refl e6 Fw (g := (mkF m 13 #[.val (.ref a1), .val (.double w5), .second, .val (.double w6), .second] [(.ref a1), (.double FP.dconst1), (.double (FP.ddiv (FP.dmul w2 w5) w3))])) rfl rfl (hb hby d3_13)
  refine own_of (U' := (T7.setTop (mkF m 16 #[.val (.ref a1), .val (.double w5), .second, .val (.double w6), .second] [(.double w2), (.double FP.dconst1), (.double (FP.ddiv (FP.dmul w2 w5) w3))]))) (st7) ?_
  have V3 : own_V (FP.dsub FP.dconst1 w2) (16 - aa) 4 := own_Vsub own_Vone Vw (own_b53 (by omega))
  refine own_of (U' := (T7.setTop (mkF m 17 #[.val (.ref a1), .val (.double w5), .second, .val (.double w6), .second] [(.double (FP.dsub FP.dconst1 w2)), (.double (FP.ddiv (FP.dmul w2 w5) w3))]))) (fun _ k => XS.dsubS X7.here hx rfl (hb hby d3_16) rfl (own_Vnn V3) rfl k) ?_
  refine own_dloadN X7 hx hby d3_17 rfl ?_
  have V4 : own_V (FP.dmul (FP.dsub FP.dconst1 w2) w6) ((16 - aa) * tt) 4 := own_Vmul V3 Vy (own_b53 (by omega)) (by omega)
  refine own_of (U' := (T7.setTop (mkF m 19 #[.val (.ref a1), .val (.double w5), .second, .val (.double w6), .second] [(.double (FP.dmul (FP.dsub FP.dconst1 w2) w6)), (.double (FP.ddiv (FP.dmul w2 w5) w3))]))) (fun _ k => XS.dmulS X7.here hx rfl (hb hby d3_18) rfl (own_Vnn V4) rfl k) ?_
  refine own_aloadN X7 hx hby d3_19 rfl rfl ?_
  obtain ⟨T8, X8, e8, st8⟩ := getF X7 hx hZ hown (host := "") (Or.inl (own_w hw 15 rfl)) Via.refl e7 Fm (g := (mkF m 20 #[.val (.ref a1), .val (.double w5), .second, .val (.double w6), .second] [(.ref a1), (.double (FP.dmul (FP.dsub FP.dconst1 w2) w6)), (.double (FP.ddiv (FP.dmul w2 w5) w3))])) rfl rfl (hb hby d3_20)
  refine own_of (U' := (T8.setTop (mkF m 23 #[.val (.ref a1), .val (.double w5), .second, .val (.double w6), .second] [(.double w4), (.double (FP.dmul (FP.dsub FP.dconst1 w2) w6)), (.double (FP.ddiv (FP.dmul w2 w5) w3))]))) (st8) ?_
  have V5 : own_V (FP.ddiv (FP.dmul (FP.dsub FP.dconst1 w2) w6) w4) ((16 - aa) * tt) (4 + qq) := own_Vdiv V4 Vm (own_b53 (by omega)) (by omega)
  refine own_of (U' := (T8.setTop (mkF m 24 #[.val (.ref a1), .val (.double w5), .second, .val (.double w6), .second] [(.double (FP.ddiv (FP.dmul (FP.dsub FP.dconst1 w2) w6) w4)), (.double (FP.ddiv (FP.dmul w2 w5) w3))]))) (fun _ k => XS.ddivS X8.here hx rfl (hb hby d3_23) rfl (own_Vnn V5) rfl k) ?_
  have V6 : own_V (FP.dadd (FP.ddiv (FP.dmul w2 w5) w3) (FP.ddiv (FP.dmul (FP.dsub FP.dconst1 w2) w6) w4)) (own_nm aa ss tt pp qq) (4 + pp + qq) := own_Vadd (own_Vup qq V2 (by omega)) (by have h := own_Vup pp V5 (by omega); rw [show 4 + qq + pp = 4 + pp + qq by omega] at h; exact h) (own_b53 (by omega))
  refine own_of (U' := (T8.setTop (mkF m 25 #[.val (.ref a1), .val (.double w5), .second, .val (.double w6), .second] [(.double (FP.dadd (FP.ddiv (FP.dmul w2 w5) w3) (FP.ddiv (FP.dmul (FP.dsub FP.dconst1 w2) w6) w4)))]))) (fun _ k => XS.daddS X8.here hx rfl (hb hby d3_24) rfl (own_Vnn V6) rfl k) ?_
  exact own_retD X8 hx hlk Bd.returns (hb hby d3_25) (by decide) (by decide) (⟨_, rfl, V6, N0, e8⟩)
theorem pd_0 : parseMethodDescriptor "(DDD)V" = some ⟨[.double, .double, .double], none⟩ := by decide +kernel
theorem pd_1 : parseMethodDescriptor "(DD)D" = some ⟨[.double, .double], some .double⟩ := by decide +kernel
theorem pn_1 : plainName "com/example/opt2/opt2/plan/ObjectiveCostPinLaw" = true := by first | (simp [plainName, overriddenIn]; done) | decide +kernel
theorem ef_0 (m : MethodId) (x0 : Int32) (x1 : Int32) (x2 : Int32) (x3 : Int32) (x4 : Int32) : entryFrame m #[(.int x0), (.int x1), (.int x2), (.int x3), (.int x4)] maxLocals = mkF m 0 #[.val (.int x0), .val (.int x1), .val (.int x2), .val (.int x3), .val (.int x4), .unset, .unset, .unset, .unset, .unset, .unset, .unset, .unset, .unset, .unset, .unset, .unset, .unset, .unset, .unset, .unset] [] := by first | (simp [entryFrame, mkF, argsToLocals, Value.category, maxLocals]; done) | rfl
def Q0 (n0 : Nat) (v : Option Value) (h : Heap) (L : List Loc) : Prop := v = some (.int 1) ∧ Fr n0 L
set_option maxRecDepth 65536 in
set_option maxHeartbeats 40000000 in
theorem rm0 (l : Launch) (Z : State) (a0 : Array Value) (hw : ∀ d ∈ tables_1, d.before a0 Z = true) (ws : List Jvm.Cond) (v1 v2 v3 v4 v5 : Int32) (h0 : Heap) (n0 : Nat) (Z0 : n0 ≤ h0.size)  :
    MetFree l x (head1 (Jvm.Cond.code x code maxLocals ret :: ws) room_1) (fun a U => a = #[(.int v1), (.int v2), (.int v3), (.int v4), (.int v5)] ∧ Z.Warmed39 U.vm ∧ U.heap = h0) (fun _ _ _ _ _ => True) (fun _ U o U' => ∃ v L, o = .returned v ∧ (Q0 n0) v U'.heap L ∧ FrameEnd U o U' L 16 128) := by
  refine MetFree.of_bodySF (plainFor_of_name pn_1) hisR ?_
  intro p e s m args below meth c s₁ Bd hml0 hP hK
  obtain ⟨rfl, hZ, hh⟩ := hP
  have hx := Bd.exec
  have hby := Bd.bytes
  have hml : c.maxLocals = 21 := hml0
  have hown : s.vm.findClass "com/example/opt2/opt2/plan/ObjectiveCostPinLaw" = some m.cls := findClass_of_methodNamed Bd.named
  have hnm := (name_of_methodNamed Bd.named Bd.method).1
  have hlk := Bd.notSynchronized
  have X0 : Stand p l e room_1 s m #[(.int v1), (.int v2), (.int v3), (.int v4), (.int v5)] below meth c s₁ [] 0 0 := Stand.of_body Bd
  have e0 : s₁.heap = h0 := by rw [← hh, Bd.state]; rfl
  have N0 := Fr.nil n0
  show own_Ends p e below s FrameEnd (Q0 n0) 16 128 (s₁.setTop (entryFrame m #[(.int v1), (.int v2), (.int v3), (.int v4), (.int v5)] maxLocals))
  refine own_of (U' := (s₁.setTop (mkF m 0 #[.val (.int v1), .val (.int v2), .val (.int v3), .val (.int v4), .val (.int v5), .unset, .unset, .unset, .unset, .unset, .unset, .unset, .unset, .unset, .unset, .unset, .unset, .unset, .unset, .unset, .unset] []))) (fun _ k => castTop (ef_0 m v1 v2 v3 v4 v5) k) ?_
  refine own_iconst X0 hx hby 1 at_0 rfl ?_
  refine own_iloadN X0 hx hby at_1 rfl ?_
  refine own_of (U' := (s₁.setTop (mkF m 4 #[.val (.int v1), .val (.int v2), .val (.int v3), .val (.int v4), .val (.int v5), .unset, .unset, .unset, .unset, .unset, .unset, .unset, .unset, .unset, .unset, .unset, .unset, .unset, .unset, .unset, .unset] [(.int (2147483647 : Int32)), (.int v1), (.int (1 : Int32))]))) (X0.ldcInt hx hown (mvT hZ (own_w hw 0 rfl)) (g := (mkF m 2 #[.val (.int v1), .val (.int v2), .val (.int v3), .val (.int v4), .val (.int v5), .unset, .unset, .unset, .unset, .unset, .unset, .unset, .unset, .unset, .unset, .unset, .unset, .unset, .unset, .unset, .unset] [(.int v1), (.int (1 : Int32))])) rfl (hb hby at_2)) ?_
  refine own_iand X0 hx hby at_4 ?_
  refine own_bipush X0 hx hby 15 at_5 rfl ?_
  refine own_of (U' := (s₁.setTop (mkF m 8 #[.val (.int v1), .val (.int v2), .val (.int v3), .val (.int v4), .val (.int v5), .unset, .unset, .unset, .unset, .unset, .unset, .unset, .unset, .unset, .unset, .unset, .unset, .unset, .unset, .unset, .unset] [(.int ((v1 &&& (2147483647 : Int32)) % (15 : Int32))), (.int (1 : Int32))]))) (fun _ k => iremM (g := (mkF m 7 #[.val (.int v1), .val (.int v2), .val (.int v3), .val (.int v4), .val (.int v5), .unset, .unset, .unset, .unset, .unset, .unset, .unset, .unset, .unset, .unset, .unset, .unset, .unset, .unset, .unset, .unset] [(.int (15 : Int32)), (.int (v1 &&& (2147483647 : Int32))), (.int (1 : Int32))])) X0 hx rfl (hb hby at_7) rfl (by decide) k) ?_
  refine own_iadd X0 hx hby at_8 ?_
  obtain ⟨av, hav⟩ : ∃ z, z = ((1 : Int32) + ((v1 &&& (2147483647 : Int32)) % (15 : Int32))) := ⟨_, rfl⟩
  refine own_eq (U' := (s₁.setTop (mkF m 9 #[.val (.int v1), .val (.int v2), .val (.int v3), .val (.int v4), .val (.int v5), .unset, .unset, .unset, .unset, .unset, .unset, .unset, .unset, .unset, .unset, .unset, .unset, .unset, .unset, .unset, .unset] [(.int av)]))) (by rw [hav]) ?_
  refine own_istore X0 hx hby at_9 (l' := #[.val (.int v1), .val (.int v2), .val (.int v3), .val (.int v4), .val (.int v5), .val (.int av), .unset, .unset, .unset, .unset, .unset, .unset, .unset, .unset, .unset, .unset, .unset, .unset, .unset, .unset, .unset]) rfl ?_
  refine own_iloadN X0 hx hby at_11 rfl ?_
  refine own_bipush X0 hx hby 7 at_12 rfl ?_
  refine own_iand X0 hx hby at_14 ?_
  obtain ⟨pv, hpv⟩ : ∃ z, z = (v2 &&& (7 : Int32)) := ⟨_, rfl⟩
  refine own_eq (U' := (s₁.setTop (mkF m 15 #[.val (.int v1), .val (.int v2), .val (.int v3), .val (.int v4), .val (.int v5), .val (.int av), .unset, .unset, .unset, .unset, .unset, .unset, .unset, .unset, .unset, .unset, .unset, .unset, .unset, .unset, .unset] [(.int pv)]))) (by rw [hpv]) ?_
  refine own_istore X0 hx hby at_15 (l' := #[.val (.int v1), .val (.int v2), .val (.int v3), .val (.int v4), .val (.int v5), .val (.int av), .val (.int pv), .unset, .unset, .unset, .unset, .unset, .unset, .unset, .unset, .unset, .unset, .unset, .unset, .unset, .unset]) rfl ?_
  refine own_iloadN X0 hx hby at_17 rfl ?_
  refine own_bipush X0 hx hby 7 at_18 rfl ?_
  refine own_iand X0 hx hby at_20 ?_
  obtain ⟨qv, hqv⟩ : ∃ z, z = (v3 &&& (7 : Int32)) := ⟨_, rfl⟩
  refine own_eq (U' := (s₁.setTop (mkF m 21 #[.val (.int v1), .val (.int v2), .val (.int v3), .val (.int v4), .val (.int v5), .val (.int av), .val (.int pv), .unset, .unset, .unset, .unset, .unset, .unset, .unset, .unset, .unset, .unset, .unset, .unset, .unset, .unset] [(.int qv)]))) (by rw [hqv]) ?_
  refine own_istore X0 hx hby at_21 (l' := #[.val (.int v1), .val (.int v2), .val (.int v3), .val (.int v4), .val (.int v5), .val (.int av), .val (.int pv), .val (.int qv), .unset, .unset, .unset, .unset, .unset, .unset, .unset, .unset, .unset, .unset, .unset, .unset, .unset]) rfl ?_
  refine own_iloadN X0 hx hby at_23 rfl ?_
  refine own_bipush X0 hx hby 11 at_24 rfl ?_
  refine own_ishr X0 hx hby at_26 ?_
  obtain ⟨sv, hsv⟩ : ∃ z, z = (v4 >>> ((11 : Int32) &&& 31)) := ⟨_, rfl⟩
  refine own_eq (U' := (s₁.setTop (mkF m 27 #[.val (.int v1), .val (.int v2), .val (.int v3), .val (.int v4), .val (.int v5), .val (.int av), .val (.int pv), .val (.int qv), .unset, .unset, .unset, .unset, .unset, .unset, .unset, .unset, .unset, .unset, .unset, .unset, .unset] [(.int sv)]))) (by rw [hsv]) ?_
  refine own_istore X0 hx hby at_27 (l' := #[.val (.int v1), .val (.int v2), .val (.int v3), .val (.int v4), .val (.int v5), .val (.int av), .val (.int pv), .val (.int qv), .val (.int sv), .unset, .unset, .unset, .unset, .unset, .unset, .unset, .unset, .unset, .unset, .unset, .unset]) rfl ?_
  refine own_iload X0 hx hby at_29 rfl ?_
  refine own_bipush X0 hx hby 11 at_31 rfl ?_
  refine own_ishr X0 hx hby at_33 ?_
  obtain ⟨mv, hmv⟩ : ∃ z, z = (v5 >>> ((11 : Int32) &&& 31)) := ⟨_, rfl⟩
  refine own_eq (U' := (s₁.setTop (mkF m 34 #[.val (.int v1), .val (.int v2), .val (.int v3), .val (.int v4), .val (.int v5), .val (.int av), .val (.int pv), .val (.int qv), .val (.int sv), .unset, .unset, .unset, .unset, .unset, .unset, .unset, .unset, .unset, .unset, .unset, .unset] [(.int mv)]))) (by rw [hmv]) ?_
  refine own_istore X0 hx hby at_34 (l' := #[.val (.int v1), .val (.int v2), .val (.int v3), .val (.int v4), .val (.int v5), .val (.int av), .val (.int pv), .val (.int qv), .val (.int sv), .val (.int mv), .unset, .unset, .unset, .unset, .unset, .unset, .unset, .unset, .unset, .unset, .unset]) rfl ?_
  refine own_lconst X0 hx hby 1 at_36 rfl ?_
  refine own_iload X0 hx hby at_37 rfl ?_
  refine own_lshl X0 hx hby at_39 ?_
  obtain ⟨dsv, hdsv⟩ : ∃ z, z = ((1 : Int64) <<< (pv.toInt64 &&& 63)) := ⟨_, rfl⟩
  refine own_eq (U' := (s₁.setTop (mkF m 40 #[.val (.int v1), .val (.int v2), .val (.int v3), .val (.int v4), .val (.int v5), .val (.int av), .val (.int pv), .val (.int qv), .val (.int sv), .val (.int mv), .unset, .unset, .unset, .unset, .unset, .unset, .unset, .unset, .unset, .unset, .unset] [(.long dsv)]))) (by rw [hdsv]) ?_
  refine own_lstore X0 hx hby at_40 (l' := #[.val (.int v1), .val (.int v2), .val (.int v3), .val (.int v4), .val (.int v5), .val (.int av), .val (.int pv), .val (.int qv), .val (.int sv), .val (.int mv), .val (.long dsv), .second, .unset, .unset, .unset, .unset, .unset, .unset, .unset, .unset, .unset]) rfl ?_
  refine own_lconst X0 hx hby 1 at_42 rfl ?_
  refine own_iload X0 hx hby at_43 rfl ?_
  refine own_lshl X0 hx hby at_45 ?_
  obtain ⟨dmv, hdmv⟩ : ∃ z, z = ((1 : Int64) <<< (qv.toInt64 &&& 63)) := ⟨_, rfl⟩
  refine own_eq (U' := (s₁.setTop (mkF m 46 #[.val (.int v1), .val (.int v2), .val (.int v3), .val (.int v4), .val (.int v5), .val (.int av), .val (.int pv), .val (.int qv), .val (.int sv), .val (.int mv), .val (.long dsv), .second, .unset, .unset, .unset, .unset, .unset, .unset, .unset, .unset, .unset] [(.long dmv)]))) (by rw [hdmv]) ?_
  refine own_lstore X0 hx hby at_46 (l' := #[.val (.int v1), .val (.int v2), .val (.int v3), .val (.int v4), .val (.int v5), .val (.int av), .val (.int pv), .val (.int qv), .val (.int sv), .val (.int mv), .val (.long dsv), .second, .val (.long dmv), .second, .unset, .unset, .unset, .unset, .unset, .unset, .unset]) rfl ?_
  have ha := own_a15 hav
  have hp8 := own_and7 hpv
  have hq8 := own_and7 hqv
  have hs := own_sh11 hsv
  have hm := own_sh11 hmv
  have hds := own_sh1 hp8 hdsv
  have hdm := own_sh1 hq8 hdmv
  have hp : pv.toInt.toNat ≤ 7 := by omega
  have hq : qv.toInt.toNat ≤ 7 := by omega
  have Vs := own_Vpow hds (by omega)
  have Vm := own_Vpow hdm (by omega)
  obtain ⟨T9, h9, X9, e9, E9, A9, D9, -, st9⟩ := newO X0 hx hZ hown (own_w hw 1 rfl) (own_w hw 2 rfl) (own_w hw 3 rfl) e0 (g := (mkF m 48 #[.val (.int v1), .val (.int v2), .val (.int v3), .val (.int v4), .val (.int v5), .val (.int av), .val (.int pv), .val (.int qv), .val (.int sv), .val (.int mv), .val (.long dsv), .second, .val (.long dmv), .second, .unset, .unset, .unset, .unset, .unset, .unset, .unset] [])) rfl (hb hby at_48) (by decide) (by decide)
  obtain ⟨b9, gz9⟩ : ∃ z, z = h0.size := ⟨_, rfl⟩
  rw [← gz9] at A9 D9 st9
  have g_b9 : n0 ≤ b9 := Nat.le_trans Z0 (Nat.le_of_eq gz9.symm)
  replace Z0 := Nat.le_trans Z0 E9.1
  have F9_timeWeight : Fld Z h9 b9 "com/example/opt2/opt2/plan/Objective" "timeWeight" "D" (.double (0 : UInt64)) := D9 (Or.inr (own_w hw 12 rfl)) (ty := .double) (by decide)
  have F9_desiredSeconds : Fld Z h9 b9 "com/example/opt2/opt2/plan/Objective" "desiredSeconds" "D" (.double (0 : UInt64)) := D9 (Or.inr (own_w hw 14 rfl)) (ty := .double) (by decide)
  have F9_desiredMoney : Fld Z h9 b9 "com/example/opt2/opt2/plan/Objective" "desiredMoney" "D" (.double (0 : UInt64)) := D9 (Or.inr (own_w hw 16 rfl)) (ty := .double) (by decide)
  refine own_of (U' := (T9.setTop (mkF m 51 #[.val (.int v1), .val (.int v2), .val (.int v3), .val (.int v4), .val (.int v5), .val (.int av), .val (.int pv), .val (.int qv), .val (.int sv), .val (.int mv), .val (.long dsv), .second, .val (.long dmv), .second, .unset, .unset, .unset, .unset, .unset, .unset, .unset] [(.ref b9)]))) (st9) ?_
  refine own_dup X9 hx hby at_51 rfl ?_
  refine own_iload X9 hx hby at_52 rfl ?_
  refine own_of (U' := (T9.setTop (mkF m 55 #[.val (.int v1), .val (.int v2), .val (.int v3), .val (.int v4), .val (.int v5), .val (.int av), .val (.int pv), .val (.int qv), .val (.int sv), .val (.int mv), .val (.long dsv), .second, .val (.long dmv), .second, .unset, .unset, .unset, .unset, .unset, .unset, .unset] [(.double (FP.i2d av)), (.ref b9), (.ref b9)]))) (fun _ k => XS.i2dS X9.here hx rfl (hb hby at_54) rfl rfl k) ?_
  refine own_of (U' := (T9.setTop (mkF m 58 #[.val (.int v1), .val (.int v2), .val (.int v3), .val (.int v4), .val (.int v5), .val (.int av), .val (.int pv), .val (.int qv), .val (.int sv), .val (.int mv), .val (.long dsv), .second, .val (.long dmv), .second, .unset, .unset, .unset, .unset, .unset, .unset, .unset] [(.double (4625196817309499392 : UInt64)), (.double (FP.i2d av)), (.ref b9), (.ref b9)]))) (X9.ldc2DoubleC hx hown (mvT hZ (own_w hw 4 rfl)) (g := (mkF m 55 #[.val (.int v1), .val (.int v2), .val (.int v3), .val (.int v4), .val (.int v5), .val (.int av), .val (.int pv), .val (.int qv), .val (.int sv), .val (.int mv), .val (.long dsv), .second, .val (.long dmv), .second, .unset, .unset, .unset, .unset, .unset, .unset, .unset] [(.double (FP.i2d av)), (.ref b9), (.ref b9)])) rfl (hb hby at_55)) ?_
  have V1 : own_V (FP.ddiv (FP.i2d av) (4625196817309499392 : UInt64)) av.toInt 4 := own_Vdiv (own_Vi2d av) own_V16 (own_b53 (by omega)) (by decide)
  refine own_of (U' := (T9.setTop (mkF m 59 #[.val (.int v1), .val (.int v2), .val (.int v3), .val (.int v4), .val (.int v5), .val (.int av), .val (.int pv), .val (.int qv), .val (.int sv), .val (.int mv), .val (.long dsv), .second, .val (.long dmv), .second, .unset, .unset, .unset, .unset, .unset, .unset, .unset] [(.double (FP.ddiv (FP.i2d av) (4625196817309499392 : UInt64))), (.ref b9), (.ref b9)]))) (fun _ k => XS.ddivS X9.here hx rfl (hb hby at_58) rfl (own_Vnn V1) rfl k) ?_
  obtain ⟨wv, hwv⟩ : ∃ z, z = (FP.ddiv (FP.i2d av) (4625196817309499392 : UInt64)) := ⟨_, rfl⟩
  refine own_eq (U' := (T9.setTop (mkF m 59 #[.val (.int v1), .val (.int v2), .val (.int v3), .val (.int v4), .val (.int v5), .val (.int av), .val (.int pv), .val (.int qv), .val (.int sv), .val (.int mv), .val (.long dsv), .second, .val (.long dmv), .second, .unset, .unset, .unset, .unset, .unset, .unset, .unset] [(.double wv), (.ref b9), (.ref b9)]))) (by rw [hwv]) ?_
  refine own_lload X9 hx hby at_59 rfl ?_
  refine own_of (U' := (T9.setTop (mkF m 62 #[.val (.int v1), .val (.int v2), .val (.int v3), .val (.int v4), .val (.int v5), .val (.int av), .val (.int pv), .val (.int qv), .val (.int sv), .val (.int mv), .val (.long dsv), .second, .val (.long dmv), .second, .unset, .unset, .unset, .unset, .unset, .unset, .unset] [(.double (FP.l2d dsv)), (.double wv), (.ref b9), (.ref b9)]))) (fun _ k => XS.l2dS X9.here hx rfl (hb hby at_61) rfl rfl k) ?_
  refine own_lload X9 hx hby at_62 rfl ?_
  refine own_of (U' := (T9.setTop (mkF m 65 #[.val (.int v1), .val (.int v2), .val (.int v3), .val (.int v4), .val (.int v5), .val (.int av), .val (.int pv), .val (.int qv), .val (.int sv), .val (.int mv), .val (.long dsv), .second, .val (.long dmv), .second, .unset, .unset, .unset, .unset, .unset, .unset, .unset] [(.double (FP.l2d dmv)), (.double (FP.l2d dsv)), (.double wv), (.ref b9), (.ref b9)]))) (fun _ k => XS.l2dS X9.here hx rfl (hb hby at_64) rfl rfl k) ?_
  have Vw : own_V wv av.toInt 4 := by rw [hwv]; exact V1
  obtain ⟨_, _, ⟨T10, L10, k10, n10⟩, -, X10, ⟨Lc10, hQ10, l10, y10, z10⟩, st10⟩ := X9.specialBack hx (y := mN_0) rfl hown (mvT hZ (own_w hw 5 rfl)) (mvT hZ (own_w hw 6 rfl)) (mvT hZ (own_w hw 7 rfl)) (by decide) (backOf (W := 1) (rmin l Z a0 hw [] b9 wv (FP.l2d dsv) (FP.l2d dmv) h9 n0 Z0 A9 F9_timeWeight F9_desiredSeconds F9_desiredMoney g_b9) hZ (own_w hw 7 rfl) (own_w hw 3 rfl) (by decide) (by decide)) (g := (mkF m 65 #[.val (.int v1), .val (.int v2), .val (.int v3), .val (.int v4), .val (.int v5), .val (.int av), .val (.int pv), .val (.int qv), .val (.int sv), .val (.int mv), .val (.long dsv), .second, .val (.long dmv), .second, .unset, .unset, .unset, .unset, .unset, .unset, .unset] [(.double (FP.l2d dmv)), (.double (FP.l2d dsv)), (.double wv), (.ref b9), (.ref b9)])) rfl (by rw [hml]; rfl) (Steps.refl _) (a := b9) (argsL := [(.double wv), (.double (FP.l2d dsv)), (.double (FP.l2d dmv))]) (rest := [(.ref b9)]) (lenOf pd_0 rfl) rfl (by show 2 * 0 + _ ≤ _; exact Nat.le_of_eq rfl) (hb hby at_65) (fun _ _ => ⟨rfl, e9, (by decide : 1 + 0 ≤ _), (by decide : 3 + 0 ≤ _)⟩)
  dsimp only [Pt.U, Pt.locs, Pt.cells, Pt.slots] at X10 l10 y10 z10 st10 hQ10
  rw [l10, y10, z10] at X10
  obtain ⟨rfl, Nq10, Kp10, Fw10, Fs10, Fm10⟩ := hQ10
  have N10 := Fr.app N0 Nq10
  replace Z0 := Nat.le_trans Z0 Kp10.1
  replace A9 := A9.keep Kp10
  refine own_of (U' := (T10.setTop (mkF m 68 #[.val (.int v1), .val (.int v2), .val (.int v3), .val (.int v4), .val (.int v5), .val (.int av), .val (.int pv), .val (.int qv), .val (.int sv), .val (.int mv), .val (.long dsv), .second, .val (.long dmv), .second, .unset, .unset, .unset, .unset, .unset, .unset, .unset] [(.ref b9)]))) (fun _ k => st10.trans k) ?_
  refine own_astore X10 hx hby at_68 rfl (l' := #[.val (.int v1), .val (.int v2), .val (.int v3), .val (.int v4), .val (.int v5), .val (.int av), .val (.int pv), .val (.int qv), .val (.int sv), .val (.int mv), .val (.long dsv), .second, .val (.long dmv), .second, .val (.ref b9), .unset, .unset, .unset, .unset, .unset, .unset]) rfl ?_
  refine own_aload X10 hx hby at_70 rfl rfl ?_
  refine own_iload X10 hx hby at_72 rfl ?_
  refine own_of (U' := (T10.setTop (mkF m 75 #[.val (.int v1), .val (.int v2), .val (.int v3), .val (.int v4), .val (.int v5), .val (.int av), .val (.int pv), .val (.int qv), .val (.int sv), .val (.int mv), .val (.long dsv), .second, .val (.long dmv), .second, .val (.ref b9), .unset, .unset, .unset, .unset, .unset, .unset] [(.double (FP.i2d sv)), (.ref b9)]))) (fun _ k => XS.i2dS X10.here hx rfl (hb hby at_74) rfl rfl k) ?_
  refine own_iload X10 hx hby at_75 rfl ?_
  refine own_of (U' := (T10.setTop (mkF m 78 #[.val (.int v1), .val (.int v2), .val (.int v3), .val (.int v4), .val (.int v5), .val (.int av), .val (.int pv), .val (.int qv), .val (.int sv), .val (.int mv), .val (.long dsv), .second, .val (.long dmv), .second, .val (.ref b9), .unset, .unset, .unset, .unset, .unset, .unset] [(.double (FP.i2d mv)), (.double (FP.i2d sv)), (.ref b9)]))) (fun _ k => XS.i2dS X10.here hx rfl (hb hby at_77) rfl rfl k) ?_
  obtain ⟨cq11, kq11, q11a, q11b, q11c⟩ := isOf hZ rfl A9
  obtain ⟨_, _, ⟨T11, L11, k11, n11⟩, -, X11, ⟨Lc11, hQ11, l11, y11, z11⟩, st11⟩ := X10.virtualBack hx (y := mN_1) (z := mN_1) hown (mvT hZ (own_w hw 17 rfl)) (mvT hZ (own_w hw 18 rfl)) (notFace_of_selects (args := #[]) (mvT hZ (own_w hw 20 rfl))) (mvT hZ (own_w hw 20 rfl)) (mvT hZ (own_w hw 19 rfl)) (by decide) (backOf (W := 0) (rmco l Z a0 hw [] b9 wv (FP.l2d dsv) (FP.l2d dmv) (FP.i2d sv) (FP.i2d mv) av.toInt sv.toInt mv.toInt pv.toInt.toNat qv.toInt.toNat T10.heap n0 Z0 Fw10 Fs10 Fm10 Vw Vs Vm (own_Vi2d sv) (own_Vi2d mv) ha hs hm hp hq) hZ (own_w hw 21 rfl) (own_w hw 3 rfl) (by decide) (by decide)) q11a q11c (g := (mkF m 78 #[.val (.int v1), .val (.int v2), .val (.int v3), .val (.int v4), .val (.int v5), .val (.int av), .val (.int pv), .val (.int qv), .val (.int sv), .val (.int mv), .val (.long dsv), .second, .val (.long dmv), .second, .val (.ref b9), .unset, .unset, .unset, .unset, .unset, .unset] [(.double (FP.i2d mv)), (.double (FP.i2d sv)), (.ref b9)])) rfl (by rw [hml]; rfl) (Steps.refl _) (argsL := [(.double (FP.i2d sv)), (.double (FP.i2d mv))]) (rest := []) (lenOf pd_1 rfl) rfl (by show 2 * 0 + _ ≤ _; exact Nat.le_of_eq rfl) (hb hby at_78) (fun _ _ => ⟨rfl, rfl, (by decide : 1 + 0 ≤ _), (by decide : 3 + 0 ≤ _)⟩)
  dsimp only [Pt.U, Pt.locs, Pt.cells, Pt.slots] at X11 l11 y11 z11 st11 hQ11
  rw [l11, y11, z11] at X11
  obtain ⟨got, rfl, Vg, Nq11, e11⟩ := hQ11
  have N11 := Fr.app N10 Nq11
  refine own_of (U' := (T11.setTop (mkF m 81 #[.val (.int v1), .val (.int v2), .val (.int v3), .val (.int v4), .val (.int v5), .val (.int av), .val (.int pv), .val (.int qv), .val (.int sv), .val (.int mv), .val (.long dsv), .second, .val (.long dmv), .second, .val (.ref b9), .unset, .unset, .unset, .unset, .unset, .unset] [(.double got)]))) (fun _ k => st11.trans k) ?_
  refine own_of (U' := (T11.setTop (mkF m 83 #[.val (.int v1), .val (.int v2), .val (.int v3), .val (.int v4), .val (.int v5), .val (.int av), .val (.int pv), .val (.int qv), .val (.int sv), .val (.int mv), .val (.long dsv), .second, .val (.long dmv), .second, .val (.ref b9), .val (.double got), .second, .unset, .unset, .unset, .unset] []))) (fun _ k => XS.dstore X11.here hx rfl (hb hby at_81) rfl (l' := #[.val (.int v1), .val (.int v2), .val (.int v3), .val (.int v4), .val (.int v5), .val (.int av), .val (.int pv), .val (.int qv), .val (.int sv), .val (.int mv), .val (.long dsv), .second, .val (.long dmv), .second, .val (.ref b9), .val (.double got), .second, .unset, .unset, .unset, .unset]) rfl k) ?_
  refine own_iload X11 hx hby at_83 rfl ?_
  refine own_i2l X11 hx hby at_85 ?_
  refine own_iload X11 hx hby at_86 rfl ?_
  refine own_i2l X11 hx hby at_88 ?_
  refine own_lmul X11 hx hby at_89 ?_
  refine own_lload X11 hx hby at_90 rfl ?_
  refine own_lmul X11 hx hby at_92 ?_
  refine own_bipush X11 hx hby 16 at_93 rfl ?_
  refine own_iload X11 hx hby at_95 rfl ?_
  refine own_isub X11 hx hby at_97 ?_
  refine own_i2l X11 hx hby at_98 ?_
  refine own_iload X11 hx hby at_99 rfl ?_
  refine own_i2l X11 hx hby at_101 ?_
  refine own_lmul X11 hx hby at_102 ?_
  refine own_lload X11 hx hby at_103 rfl ?_
  refine own_lmul X11 hx hby at_105 ?_
  refine own_ladd X11 hx hby at_106 ?_
  obtain ⟨nv, hnv⟩ : ∃ z, z = ((((av.toInt64) * (sv.toInt64)) * dmv) + (((((16 : Int32) - av).toInt64) * (mv.toInt64)) * dsv)) := ⟨_, rfl⟩
  refine own_eq (U' := (T11.setTop (mkF m 107 #[.val (.int v1), .val (.int v2), .val (.int v3), .val (.int v4), .val (.int v5), .val (.int av), .val (.int pv), .val (.int qv), .val (.int sv), .val (.int mv), .val (.long dsv), .second, .val (.long dmv), .second, .val (.ref b9), .val (.double got), .second, .unset, .unset, .unset, .unset] [(.long nv)]))) (by rw [hnv]) ?_
  refine own_lstore X11 hx hby at_107 (l' := #[.val (.int v1), .val (.int v2), .val (.int v3), .val (.int v4), .val (.int v5), .val (.int av), .val (.int pv), .val (.int qv), .val (.int sv), .val (.int mv), .val (.long dsv), .second, .val (.long dmv), .second, .val (.ref b9), .val (.double got), .second, .val (.long nv), .second, .unset, .unset]) rfl ?_
  have hn := own_num ha hs hm hp hq hds hdm hnv
  obtain ⟨b1, b2, b3, b4⟩ := own_bd ha hs hm hp hq
  have Vn := own_Vl2d (x := nv) (by rw [hn]; exact own_b53 (by omega))
  refine own_lload X11 hx hby at_109 rfl ?_
  refine own_of (U' := (T11.setTop (mkF m 112 #[.val (.int v1), .val (.int v2), .val (.int v3), .val (.int v4), .val (.int v5), .val (.int av), .val (.int pv), .val (.int qv), .val (.int sv), .val (.int mv), .val (.long dsv), .second, .val (.long dmv), .second, .val (.ref b9), .val (.double got), .second, .val (.long nv), .second, .unset, .unset] [(.double (FP.l2d nv))]))) (fun _ k => XS.l2dS X11.here hx rfl (hb hby at_111) rfl rfl k) ?_
  refine own_of (U' := (T11.setTop (mkF m 115 #[.val (.int v1), .val (.int v2), .val (.int v3), .val (.int v4), .val (.int v5), .val (.int av), .val (.int pv), .val (.int qv), .val (.int sv), .val (.int mv), .val (.long dsv), .second, .val (.long dmv), .second, .val (.ref b9), .val (.double got), .second, .val (.long nv), .second, .unset, .unset] [(.long (16 : Int64)), (.double (FP.l2d nv))]))) (X11.ldc2Long hx hown (mvT hZ (own_w hw 22 rfl)) (g := (mkF m 112 #[.val (.int v1), .val (.int v2), .val (.int v3), .val (.int v4), .val (.int v5), .val (.int av), .val (.int pv), .val (.int qv), .val (.int sv), .val (.int mv), .val (.long dsv), .second, .val (.long dmv), .second, .val (.ref b9), .val (.double got), .second, .val (.long nv), .second, .unset, .unset] [(.double (FP.l2d nv))])) rfl (hb hby at_112)) ?_
  refine own_iload X11 hx hby at_115 rfl ?_
  refine own_iload X11 hx hby at_117 rfl ?_
  refine own_iadd X11 hx hby at_119 ?_
  refine own_lshl X11 hx hby at_120 ?_
  obtain ⟨dv, hdv⟩ : ∃ z, z = ((16 : Int64) <<< ((pv + qv).toInt64 &&& 63)) := ⟨_, rfl⟩
  refine own_eq (U' := (T11.setTop (mkF m 121 #[.val (.int v1), .val (.int v2), .val (.int v3), .val (.int v4), .val (.int v5), .val (.int av), .val (.int pv), .val (.int qv), .val (.int sv), .val (.int mv), .val (.long dsv), .second, .val (.long dmv), .second, .val (.ref b9), .val (.double got), .second, .val (.long nv), .second, .unset, .unset] [(.long dv), (.double (FP.l2d nv))]))) (by rw [hdv]) ?_
  refine own_of (U' := (T11.setTop (mkF m 122 #[.val (.int v1), .val (.int v2), .val (.int v3), .val (.int v4), .val (.int v5), .val (.int av), .val (.int pv), .val (.int qv), .val (.int sv), .val (.int mv), .val (.long dsv), .second, .val (.long dmv), .second, .val (.ref b9), .val (.double got), .second, .val (.long nv), .second, .unset, .unset] [(.double (FP.l2d dv)), (.double (FP.l2d nv))]))) (fun _ k => XS.l2dS X11.here hx rfl (hb hby at_121) rfl rfl k) ?_
  have hd := own_sh16 hp8 hq8 hdv
  have Vd := own_Vpow hd (by omega)
  have V2 : own_V (FP.ddiv (FP.l2d nv) (FP.l2d dv)) nv.toInt (0 + (4 + (pv.toInt.toNat + qv.toInt.toNat))) := own_Vdiv Vn Vd (by rw [hn]; exact own_b53 (by omega)) (by omega)
  refine own_of (U' := (T11.setTop (mkF m 123 #[.val (.int v1), .val (.int v2), .val (.int v3), .val (.int v4), .val (.int v5), .val (.int av), .val (.int pv), .val (.int qv), .val (.int sv), .val (.int mv), .val (.long dsv), .second, .val (.long dmv), .second, .val (.ref b9), .val (.double got), .second, .val (.long nv), .second, .unset, .unset] [(.double (FP.ddiv (FP.l2d nv) (FP.l2d dv)))]))) (fun _ k => XS.ddivS X11.here hx rfl (hb hby at_122) rfl (own_Vnn V2) rfl k) ?_
  obtain ⟨want, hwant⟩ : ∃ z, z = (FP.ddiv (FP.l2d nv) (FP.l2d dv)) := ⟨_, rfl⟩
  refine own_eq (U' := (T11.setTop (mkF m 123 #[.val (.int v1), .val (.int v2), .val (.int v3), .val (.int v4), .val (.int v5), .val (.int av), .val (.int pv), .val (.int qv), .val (.int sv), .val (.int mv), .val (.long dsv), .second, .val (.long dmv), .second, .val (.ref b9), .val (.double got), .second, .val (.long nv), .second, .unset, .unset] [(.double want)]))) (by rw [hwant]) ?_
  refine own_of (U' := (T11.setTop (mkF m 125 #[.val (.int v1), .val (.int v2), .val (.int v3), .val (.int v4), .val (.int v5), .val (.int av), .val (.int pv), .val (.int qv), .val (.int sv), .val (.int mv), .val (.long dsv), .second, .val (.long dmv), .second, .val (.ref b9), .val (.double got), .second, .val (.long nv), .second, .val (.double want), .second] []))) (fun _ k => XS.dstore X11.here hx rfl (hb hby at_123) rfl (l' := #[.val (.int v1), .val (.int v2), .val (.int v3), .val (.int v4), .val (.int v5), .val (.int av), .val (.int pv), .val (.int qv), .val (.int sv), .val (.int mv), .val (.long dsv), .second, .val (.long dmv), .second, .val (.ref b9), .val (.double got), .second, .val (.long nv), .second, .val (.double want), .second]) rfl k) ?_
  refine own_dload X11 hx hby at_125 rfl ?_
  refine own_dload X11 hx hby at_127 rfl ?_
  refine own_of (U' := (T11.setTop (mkF m 130 #[.val (.int v1), .val (.int v2), .val (.int v3), .val (.int v4), .val (.int v5), .val (.int av), .val (.int pv), .val (.int qv), .val (.int sv), .val (.int mv), .val (.long dsv), .second, .val (.long dmv), .second, .val (.ref b9), .val (.double got), .second, .val (.long nv), .second, .val (.double want), .second] [(.int (cmpValue (FP.dcmp got want) .l))]))) (fun _ k => XS.dcmpS X11.here hx rfl (hb hby at_129) rfl rfl k) ?_
  have hc130_12 : (cmpValue (FP.dcmp got want) .l) = (0 : Int32) := own_Veq Vg (by rw [hwant]; have h := V2; rw [hn, show 0 + (4 + (pv.toInt.toNat + qv.toInt.toNat)) = 4 + pv.toInt.toNat + qv.toInt.toNat by omega] at h; exact h) _
  refine own_ifNo X11 hx hby at_130 ((if0 _ _).trans (teq hc130_12).2) ?_
  refine own_iconst X11 hx hby 1 at_133 rfl ?_
  refine own_goto X11 hx hby 134 138 at_134 (by decide) (by decide) ?_
  exact own_retN X11 hx hlk (t := .boolean) Bd.returns (by simp) (hb hby at_138) (by decide) (by decide) (⟨rfl, N11⟩)
set_option maxRecDepth 65536 in
set_option maxHeartbeats 40000000 in
theorem comes_1 {Post : Tables → Env → Array Value → State → Outcome → State → Prop} (hpost : ∀ tb e args s v u, (limb_1_1.after args s (.returned v) u = true ∧ limb_1_2.after args s (.returned v) u = true ∧ True) → FrameEnd s (.returned v) u (Jvm.fieldLocs frame_1_writes args s ++ Jvm.arrayLocs frame_1_arrays args s ++ Jvm.staticLocs frame_1_statics s) 16 128 → Post tb e args s (.returned v) u) :
    ArmFor flags0 classFile x code maxLocals ret World_1 tables_1 room_1 Calls_1 rest_1 Pre_1 Post := by
  intro l hfl _ _ p e ha hc hk s m args below hf hA hF happ hP
  obtain ⟨hcalls, hrest, hpre⟩ := hP
  obtain ⟨-, -, -, hnamed, -, -, -, hat⟩ := (Spec.applies_iff hf).mp happ
  obtain ⟨hg, hn⟩ := and_e (Cond.before_iff.mp (show (Jvm.Cond.and given_1 narrow_1).before args s = true from hpre))
  obtain ⟨hcount, hv0⟩ := and_e hg
  obtain ⟨hi0, hv1⟩ := and_e hv0
  obtain ⟨hi1, hv2⟩ := and_e hv1
  obtain ⟨hi2, hv3⟩ := and_e hv2
  obtain ⟨hi3, hv4⟩ := and_e hv3
  obtain ⟨w0, w1, w2, w3, w4, rfl⟩ : ∃ w0 w1 w2 w3 w4 : Value, args = #[w0, w1, w2, w3, w4] := by
    have hs : args.size = 5 := by simpa [Cond.value, given_1] using hcount
    obtain ⟨L⟩ := args
    match L, hs with
    | [w0, w1, w2, w3, w4], _ => exact ⟨w0, w1, w2, w3, w4, rfl⟩
  have hw := fun d (hd : d ∈ tables_1) => atoms_spec (ws := Jvm.Cond.code x code maxLocals ret :: tables_1) hat d (List.mem_cons_of_mem _ hd)
  have hfit : Fit s := fun {y c} hc i hi => by
    obtain ⟨ha, rfl⟩ := Array.getElem?_eq_some_iff.mp hc
    have q := List.all_eq_true.mp ((Array.all_eq_true_iff_forall_mem.mp hF) _ (Array.getElem_mem ha)) i (List.mem_range.mpr hi)
    simpa [Array.getElem?_eq_getElem hi] using q
  obtain ⟨i0, ei0⟩ := is_v hi0
  obtain rfl : w0 = (.int i0) := Option.some.inj ei0
  obtain ⟨i1, ei1⟩ := is_v hi1
  obtain rfl : w1 = (.int i1) := Option.some.inj ei1
  obtain ⟨i2, ei2⟩ := is_v hi2
  obtain rfl : w2 = (.int i2) := Option.some.inj ei2
  obtain ⟨i3, ei3⟩ := is_v hi3
  obtain rfl : w3 = (.int i3) := Option.some.inj ei3
  obtain ⟨i4, ei4⟩ := is_v hv4
  obtain rfl : w4 = (.int i4) := Option.some.inj ei4
  obtain ⟨n, o, h1, h2, h3, _, L, rfl, ⟨rfl, N⟩, hq⟩ := rm0 l s _ hw tables_1 i0 i1 i2 i3 i4  s.heap s.heap.size (Nat.le_refl _)  p e ha hc hk s m _ below hf ((Spec.applies_iff_loose hf).mp happ).1 ⟨rfl, State.Warmed39.refl s, rfl⟩ trivial
  exact ⟨n, _, h1, h2, h3, hpost _ _ _ _ _ _ ⟨Cond.after_iff.mpr rfl, Cond.after_iff.mpr (eq_i res_at (Term.int_eval (1)) rfl), trivial⟩ ⟨hq.1, hq.2.1, (hq.2.2.sift fun y hy => Or.inr (N y hy)).mono (by decide) (by decide)⟩⟩
theorem main_1_1 : Claimed_1_1 := comes_1 fun _ _ _ _ _ _ h hF => ⟨h.1, hF⟩
theorem main_1_2 : Claimed_1_2 := comes_1 fun _ _ _ _ _ _ h hF => ⟨h.2.1, hF⟩
end Jvm.Pilot.@@N@@
namespace Jvm.Pilot.@@N@@
open Jvm Jvm.ClassFile Sem Op Lib Jvm.Free Jvm.Stand Jvm.Pilot.@@N@@.Jvm.D
/-! MADE BY PROGRAM (witnessworld.py) out of the Statement's table words and the real class files: 9 classes; the members and pool entries that the words name. The judged class is class 1, her method 1. -/
namespace start1
open Jvm.ClassFile
def u (s : String) : CpInfo := .utf8 (stringToUtf16 s)
/-- a pool by its gaps: so many unusable entries, then the entry; so many at the end -/
def gap : Nat → List CpInfo → List CpInfo
  | 0, r => r
  | n + 1, r => .unusable :: gap n r
def poolList (es : List (Nat × CpInfo)) (last : Nat) : List CpInfo := es.foldr (fun e r => gap e.1 (e.2 :: r)) (gap last [])
def pool (es : List (Nat × CpInfo)) (last : Nat) : Array CpInfo := ⟨poolList es last⟩
def fileOf (pool : Array CpInfo) (this : Nat) (attrs : Array Attribute := #[]) (ms : Array MethodInfo := #[]) (fl : Nat := 33) (sup : Nat := 0) (ifs : Array Nat := #[]) (fds : Array FieldInfo := #[]) : ClassFile where
  minorVersion := 0
  majorVersion := 65
  constantPool := pool
  accessFlags := fl
  thisClass := this
  superClass := sup
  interfaces := ifs
  fields := fds
  methods := ms
  attributes := attrs
def plain (name : String) (sup : Option ClassId) : Class where
  name := name
  kind := .ordinary
  loader := none
  accessFlags := 33
  super := sup
  interfaces := #[]
  cf := none
  fields := #[]
  methods := #[]
  instanceTypes := #[]
  staticTypes := #[]
  resolved := #[]
  callSites := []
  init := .initialized
  statics := none
  mirror := none

def pool0 : Array CpInfo := pool [(5, u "<init>"), (0, u "()V"), (1, .class_ 10), (1, u "java/lang/Object")] 113

def k0c0 : Code := { maxStack := 0, maxLocals := 1, code := object_method_1_code, exceptionTable := #[], attributes := #[] }
def k0m0 : Method := { name := "<init>", desc := "()V", sig := { parameters := [], returnType := none }, accessFlags := 1, code := some k0c0 }
/-- java/lang/Object -/
def k0 : Class := { plain "java/lang/Object" none with
  accessFlags := 33
  interfaces := #[]
  cf := some (fileOf pool0 8 #[] #[{ accessFlags := 1, nameIndex := 5, descriptorIndex := 6, attributes := #[] }] 33 0 #[] #[])
  fields := #[]
  methods := #[k0m0]
  instanceTypes := #[]
  staticTypes := #[]
  resolved := Array.replicate 124 none
  statics := none }

def pool1 : Array CpInfo := pool [(2, .class_ 4), (1, u "java/lang/Object"), (0, u "<init>"), (0, u "()V"), (0, .integer 2147483647), (0, .class_ 9), (0, u "com/example/opt2/opt2/plan/Objective"), (0, .double 4625196817309499392), (1, .methodref 8 13), (0, .nameAndType 5 14), (0, u "(DDD)V"), (0, .methodref 8 16), (0, .nameAndType 17 18), (0, u "cost"), (0, u "(DD)D"), (0, .long 16), (1, .class_ 22), (0, u "com/example/opt2/opt2/plan/ObjectiveCostPinLaw"), (2, u "law"), (0, u "(IIIII)Z")] 3

def k1m0 : Method := { name := "<init>", desc := "()V", sig := { parameters := [], returnType := none }, accessFlags := 1, code := none }
def k1c1 : Code := { maxStack := 8, maxLocals := 21, code := code, exceptionTable := #[], attributes := #[] }
def k1m1 : Method := { name := "law", desc := "(IIIII)Z", sig := { parameters := [.int, .int, .int, .int, .int], returnType := some .boolean }, accessFlags := 9, code := some k1c1 }
/-- com/example/opt2/opt2/plan/ObjectiveCostPinLaw -/
def k1 : Class := { plain "com/example/opt2/opt2/plan/ObjectiveCostPinLaw" (some 0) with
  accessFlags := 49
  interfaces := #[]
  cf := some (fileOf pool1 21 #[] #[{ accessFlags := 1, nameIndex := 5, descriptorIndex := 6, attributes := #[] }, { accessFlags := 9, nameIndex := 25, descriptorIndex := 26, attributes := #[] }] 49 2 #[] #[])
  fields := #[]
  methods := #[k1m0, k1m1]
  instanceTypes := #[]
  staticTypes := #[]
  resolved := Array.replicate 30 none
  statics := none }

def pool2 : Array CpInfo := pool [(1, .methodref 2 3), (0, .class_ 4), (0, .nameAndType 5 6), (0, u "java/lang/Object"), (0, u "<init>"), (0, u "()V"), (0, .fieldref 8 9), (0, .class_ 10), (0, .nameAndType 11 12), (0, u "com/example/opt2/opt2/plan/Objective"), (0, u "timeWeight"), (0, u "D"), (0, .fieldref 8 14), (0, .nameAndType 15 12), (0, u "desiredSeconds"), (0, .fieldref 8 17), (0, .nameAndType 18 12), (0, u "desiredMoney"), (2, u "(DDD)V"), (5, u "cost"), (0, u "(DD)D")] 2

def k2c0 : Code := { maxStack := 3, maxLocals := 7, code := prog_30_method_1_code, exceptionTable := #[], attributes := #[] }
def k2m0 : Method := { name := "<init>", desc := "(DDD)V", sig := { parameters := [.double, .double, .double], returnType := none }, accessFlags := 1, code := some k2c0 }
def k2c1 : Code := { maxStack := 6, maxLocals := 5, code := prog_30_method_6_code, exceptionTable := #[], attributes := #[] }
def k2m1 : Method := { name := "cost", desc := "(DD)D", sig := { parameters := [.double, .double], returnType := some .double }, accessFlags := 0, code := some k2c1 }
/-- com/example/opt2/opt2/plan/Objective -/
def k2 : Class := { plain "com/example/opt2/opt2/plan/Objective" (some 0) with
  accessFlags := 33
  interfaces := #[]
  cf := some (fileOf pool2 8 #[] #[{ accessFlags := 1, nameIndex := 5, descriptorIndex := 21, attributes := #[] }, { accessFlags := 0, nameIndex := 27, descriptorIndex := 28, attributes := #[] }] 33 2 #[] #[{ accessFlags := 18, nameIndex := 11, descriptorIndex := 12, attributes := #[] }, { accessFlags := 18, nameIndex := 15, descriptorIndex := 12, attributes := #[] }, { accessFlags := 18, nameIndex := 18, descriptorIndex := 12, attributes := #[] }])
  fields := #[{ name := "timeWeight", type := .double, accessFlags := 18, slot := 0, constantValue := 0 }, { name := "desiredSeconds", type := .double, accessFlags := 18, slot := 1, constantValue := 0 }, { name := "desiredMoney", type := .double, accessFlags := 18, slot := 2, constantValue := 0 }]
  methods := #[k2m0, k2m1]
  instanceTypes := #[.double, .double, .double]
  staticTypes := #[]
  resolved := Array.replicate 31 none
  statics := none }

def pool3 : Array CpInfo := pool [(1, u "java/lang/Cloneable"), (0, .class_ 1), (0, u "java/lang/Object"), (0, .class_ 3)] 3

/-- java/lang/Cloneable -/
def k3 : Class := { plain "java/lang/Cloneable" (some 0) with
  accessFlags := 1537
  interfaces := #[]
  cf := some (fileOf pool3 2 #[] #[] 1537 4 #[] #[])
  fields := #[]
  methods := #[]
  instanceTypes := #[]
  staticTypes := #[]
  resolved := Array.replicate 8 none
  statics := none }

def pool4 : Array CpInfo := pool [(1, u "java/io/Serializable"), (0, .class_ 1), (0, u "java/lang/Object"), (0, .class_ 3)] 3

/-- java/io/Serializable -/
def k4 : Class := { plain "java/io/Serializable" (some 0) with
  accessFlags := 1537
  interfaces := #[]
  cf := some (fileOf pool4 2 #[] #[] 1537 4 #[] #[])
  fields := #[]
  methods := #[]
  instanceTypes := #[]
  staticTypes := #[]
  resolved := Array.replicate 8 none
  statics := none }

/-- the primitive byte -/
def k5 : Class := { plain "byte" none with kind := .primitive 'B', accessFlags := 0x411 }
/-- [B -/
def k6 : Class := { plain "[B" (some 0) with kind := .array 5 .byte, interfaces := #[3, 4], accessFlags := 1041 }

/-- the primitive int -/
def k7 : Class := { plain "int" none with kind := .primitive 'I', accessFlags := 0x411 }
/-- [I -/
def k8 : Class := { plain "[I" (some 0) with kind := .array 7 .int, interfaces := #[3, 4], accessFlags := 1041 }

def heap : Heap := #[]
def classes : Array Class := #[k0, k1, k2, k3, k4, k5, k6, k7, k8]
def interned : List (Array UInt16 × Addr) := []
def slotsUsed : Nat := 0
def theMethod : MethodId := ⟨1, 1⟩
def args0 : Array Value := #[.int 5, .int 3, .int 2, .int 9000, .int 70000]
def aboutOver (below : List Frame) : State where
  vm := { classes := classes, interned := interned.toArray }
  heap := heap
  slotsUsed := slotsUsed
  threads := #[{ frames := .invoking theMethod args0 :: below }]
def below0 : List Frame := [.native { method := ⟨0, 0⟩, args := #[] }]
def about1 : State := aboutOver below0
def p0 : Program := .bare "" "" ""
def e0 : Env := launch0.env 0 0 0
theorem w_frames : about1.frames = Frame.invoking theMethod args0 :: below0 := rfl
set_option maxRecDepth 65536 in
theorem w_args : argsFit about1.vm theMethod args0 = true := by decide +kernel
set_option maxRecDepth 65536 in
theorem w_heap : heapFits about1 = true := by decide +kernel
set_option maxRecDepth 65536 in
theorem w_runnable : about1.curStatus? = some .runnable := by decide +kernel
set_option maxRecDepth 65536 in
theorem w_alone : about1.alone = true := by decide +kernel
set_option maxRecDepth 65536 in
theorem w_named : about1.methodNamed? x = some theMethod := by decide +kernel
set_option maxRecDepth 65536 in
theorem w_hears : about1.hears theMethod below0 = true := by decide +kernel
set_option maxRecDepth 65536 in
theorem w_ripe : about1.ripe theMethod args0 below0 = true := by decide +kernel
theorem w_running : about1.status = .running := rfl
set_option maxRecDepth 65536 in
theorem w_room : about1.hasRoom e0.platform room_1 = true :=
  launch0.hasRoom_least _ room_1 (by decide +kernel) (by decide +kernel) (by decide +kernel) (by decide +kernel) (by decide +kernel) (by decide +kernel)
theorem allAtoms_all (ts : List Jvm.Cond) (a : Array Jvm.Value) (st : Jvm.State) : (allAtoms ts).before a st = ts.all (fun c => c.before a st) := by
  induction ts with
  | nil => rfl
  | cons c t ih =>
    show (Jvm.Cond.and c (allAtoms t)).before a st = _
    rw [Jvm.Cond.before_and, ih, List.all_cons]
def words1 : List Jvm.Cond := Jvm.Cond.code x code maxLocals ret :: tables_1
/-- a 'code' word, met by the world's own term for the bytes: nothing is compared byte by byte -/
theorem code_word {y : MethodName} {bytes : ByteArray} {mx : Nat} {rt : Option FieldType} {a : Array Value} {s : State} {m : MethodId} {meth : Method} {c : Code} (h1 : s.methodNamed? y = some m) (h2 : s.vm.method? m = some meth) (h3 : meth.code = some c) (h4 : c.code = bytes)
    (h5 : (c.maxLocals == mx && c.exceptionTable.isEmpty && decide (c.maxStack ≤ mostOperands) && decide (meth.sig.returnType = rt) && !meth.locks && decide (parseMethodDescriptor y.desc = some meth.sig)) = true) : (Jvm.Cond.code y bytes mx rt).before a s = true := by
  simp only [Bool.and_eq_true, beq_iff_eq, Bool.not_eq_true', decide_eq_true_eq] at h5
  obtain ⟨⟨⟨⟨⟨g1, g2⟩, g3⟩, g4⟩, g5⟩, g6⟩ := h5
  simp [Cond.before, Cond.holds, Cond.value, h1, h2, h3, h4, g1, g2, g3, g4, g5, g6]
def isCode : Jvm.Cond → Bool
  | .code _ _ _ _ => true
  | _ => false
theorem all_split {L : List Jvm.Cond} {P : Jvm.Cond → Bool} (h1 : L.all (fun c => isCode c || P c) = true) (h2 : ∀ c ∈ L.filter isCode, P c = true) : L.all P = true := by
  refine List.all_eq_true.mpr fun c hc => ?_
  have h := List.all_eq_true.mp h1 c hc
  rcases Bool.eq_false_or_eq_true (isCode c) with hi | hi
  · exact h2 c (List.mem_filter.mpr ⟨hc, hi⟩)
  · simpa [hi] using h
set_option maxRecDepth 65536 in
theorem w_c0 : (Jvm.Cond.code x code maxLocals ret).before args0 about1 = true := code_word (m := ⟨1, 1⟩) (meth := k1m1) (c := k1c1) (by decide +kernel) rfl rfl rfl (by decide +kernel)
set_option maxRecDepth 65536 in
theorem w_c1 : (Jvm.Cond.code ({ cls := "com/example/opt2/opt2/plan/Objective", name := "<init>", desc := "(DDD)V" } : Jvm.MethodName) prog_30_method_1_code (7 : Nat) (Option.none : Option Jvm.ClassFile.FieldType)).before args0 about1 = true := code_word (m := ⟨2, 0⟩) (meth := k2m0) (c := k2c0) (by decide +kernel) rfl rfl rfl (by decide +kernel)
set_option maxRecDepth 65536 in
theorem w_c2 : (Jvm.Cond.code ({ cls := "java/lang/Object", name := "<init>", desc := "()V" } : Jvm.MethodName) object_method_1_code (1 : Nat) (Option.none : Option Jvm.ClassFile.FieldType)).before args0 about1 = true := code_word (m := ⟨0, 0⟩) (meth := k0m0) (c := k0c0) (by decide +kernel) rfl rfl rfl (by decide +kernel)
set_option maxRecDepth 65536 in
theorem w_c3 : (Jvm.Cond.code ({ cls := "com/example/opt2/opt2/plan/Objective", name := "cost", desc := "(DD)D" } : Jvm.MethodName) prog_30_method_6_code (5 : Nat) (Option.some Jvm.ClassFile.FieldType.double)).before args0 about1 = true := code_word (m := ⟨2, 1⟩) (meth := k2m1) (c := k2c1) (by decide +kernel) rfl rfl rfl (by decide +kernel)
def codes1 : List Jvm.Cond := [Jvm.Cond.code x code maxLocals ret, Jvm.Cond.code ({ cls := "com/example/opt2/opt2/plan/Objective", name := "<init>", desc := "(DDD)V" } : Jvm.MethodName) prog_30_method_1_code (7 : Nat) (Option.none : Option Jvm.ClassFile.FieldType), Jvm.Cond.code ({ cls := "java/lang/Object", name := "<init>", desc := "()V" } : Jvm.MethodName) object_method_1_code (1 : Nat) (Option.none : Option Jvm.ClassFile.FieldType), Jvm.Cond.code ({ cls := "com/example/opt2/opt2/plan/Objective", name := "cost", desc := "(DD)D" } : Jvm.MethodName) prog_30_method_6_code (5 : Nat) (Option.some Jvm.ClassFile.FieldType.double)]
set_option maxRecDepth 65536 in
theorem codes_eq : words1.filter isCode = codes1 := rfl
theorem w_codes : ∀ c ∈ words1.filter isCode, c.before args0 about1 = true := by
  rw [codes_eq]
  intro c hc
  simp only [codes1, List.mem_cons, List.not_mem_nil, or_false] at hc
  rcases hc with rfl | rfl | rfl | rfl
  · exact w_c0
  · exact w_c1
  · exact w_c2
  · exact w_c3
set_option maxRecDepth 65536 in
theorem w_t1 : words1.all (fun c => isCode c || c.before args0 about1) = true := by decide +kernel
theorem w_tables : (allAtoms (Jvm.Cond.code x code maxLocals ret :: tables_1)).before args0 about1 = true := by
  rw [allAtoms_all]
  show words1.all (fun c => c.before args0 about1) = true
  refine all_split ?_ w_codes
  rw [w_t1]
set_option maxRecDepth 65536 in
theorem w_case : (Jvm.Cond.and given_1 narrow_1).before args0 about1 = true := by decide +kernel
theorem w_applies : (headSpec (Jvm.Cond.code x code maxLocals ret :: tables_1) room_1).applies x e0.platform about1 = true :=
  (Spec.applies_iff w_frames).mpr ⟨w_running, w_runnable, w_alone, w_named, w_hears, w_ripe, w_room, w_tables⟩
theorem atStart : AtStart classFile x code maxLocals ret World_1 tables_1 room_1 Calls_1 rest_1 Pre_1 launch0 p0 e0 about1 theMethod args0 below0 :=
  ⟨lists_1, trivial, launch0.admits_env _ _ _, launch0.least_env, fairChoices_fair.cas, fairChoices_fair.clock, w_frames, w_args, w_heap, w_applies, trivial, trivial, w_case⟩
end start1
theorem witness_1 : WitnessClaimed_1 := ⟨start1.p0, start1.e0, start1.about1, start1.theMethod, start1.args0, start1.below0, start1.atStart⟩
end Jvm.Pilot.@@N@@
