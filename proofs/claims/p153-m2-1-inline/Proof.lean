import JvmDerived
import JvmDerived.Pilot.@@N@@Statement
import JvmDerived.Pilot.@@N@@Code
set_option linter.unusedVariables false
set_option linter.unusedSimpArgs false
@@BLOCK:TracedD.lean.txt@@
namespace Jvm.Pilot.@@N@@
open Jvm Jvm.ClassFile Sem Op Lib Jvm.Free Jvm.Stand Jvm.LawKit Jvm.RoadKit Bundle Jvm.Pilot.@@N@@.Jvm.D
section Own
variable {p : Program} {l : Launch} {e : Env} {R : Room} {s : State} {m : MethodId} {args : Array Value} {below : List Frame} {meth : Method} {c : Code} {Z : State} {a0 : Array Value} {EL : List (String × Nat)} {n0 : Nat} {y : MethodName} {bytes : ByteArray} {maxL : Nat} {ret : Option FieldType} {b : State} {T : State} {h : Heap} {locs : List Loc} {cells slots : Nat} {P : Outcome → State → Prop} {pc pc' : Nat} {Ls : Array Slot} {st : List Value}
def Goes (tb : Tables) (e : Env) (below : List Frame) (P : Outcome → State → Prop) (A : State) : Prop := ∃ s₂ o, Steps tb e below A s₂ ∧ s₂.status = .running ∧ Ended s₂ below o ∧ P o s₂
theorem go {tb : Tables} {A B : State} (q : ∀ t, Steps tb e below B t → Steps tb e below A t) (k : Goes tb e below P B) : Goes tb e below P A := by
  obtain ⟨t, o, h, r⟩ := k
  exact ⟨t, o, q t h, r⟩
def Sfe (Z : State) (EL : List (String × Nat)) (vm : Vm) (h : Heap) (x : Addr) : Prop := Safe Z EL vm h x
theorem sfe_new {vm : Vm} {x : Addr} (q : h.size ≤ x) : Sfe Z EL vm h x := Safe.new q
def Bs (Z : State) (a0 : Array Value) (EL : List (String × Nat)) (s b : State) (h : Heap) : Prop := (∃ vm0 k0, b = s.setVm vm0 ∧ s.Since vm0 k0 ∧ k0 ≤ h.size) ∧ CHr Z EL s.vm s.heap b.vm h ∧ EW Z a0 EL
theorem own_kn {vm vm' : Vm} {fs : List Frame} (h : vm.MethodsKnown ∧ vm.FramesKnown fs) (A : vm.Alike vm') : vm'.MethodsKnown ∧ vm'.FramesKnown fs := ⟨Vm.MethodsKnown.alikeC A h.1, Vm.FramesKnown.alikeC A h.2⟩
def Wk (p : Program) (l : Launch) (e : Env) (R : Room) (s : State) (m : MethodId) (args : Array Value) (below : List Frame) (meth : Method) (c : Code) (Z : State) (a0 : Array Value) (EL : List (String × Nat)) (n0 : Nat) (y : MethodName) (bytes : ByteArray) (maxL : Nat) (ret : Option FieldType) (b : State) (T : State) (h : Heap) (locs : List Loc) (cells slots : Nat) : Prop := Stand p l e R b m args below meth c T locs cells slots ∧ T.heap = h ∧ Fr n0 locs ∧ p.tables.exec = Jvm.exec ∧ Z.Warmed39 b.vm ∧ b.vm.findClass y.cls = some m.cls ∧ c.code = bytes ∧ c.maxLocals = maxL ∧ meth.sig.returnType = ret ∧ meth.locks = false ∧ meth.name = y.name ∧ Old Z n0 h ∧ Bs Z a0 EL s b h ∧ (b.vm.MethodsKnown ∧ b.vm.FramesKnown below)
theorem Wk.X (K : Wk p l e R s m args below meth c Z a0 EL n0 y bytes maxL ret b T h locs cells slots) : Stand p l e R b m args below meth c T locs cells slots := K.1
theorem Wk.eT (K : Wk p l e R s m args below meth c Z a0 EL n0 y bytes maxL ret b T h locs cells slots) : T.heap = h := K.2.1
theorem Wk.fr (K : Wk p l e R s m args below meth c Z a0 EL n0 y bytes maxL ret b T h locs cells slots) : Fr n0 locs := K.2.2.1
theorem Wk.hx (K : Wk p l e R s m args below meth c Z a0 EL n0 y bytes maxL ret b T h locs cells slots) : p.tables.exec = Jvm.exec := K.2.2.2.1
theorem Wk.hZ (K : Wk p l e R s m args below meth c Z a0 EL n0 y bytes maxL ret b T h locs cells slots) : Z.Warmed39 b.vm := K.2.2.2.2.1
theorem Wk.hown (K : Wk p l e R s m args below meth c Z a0 EL n0 y bytes maxL ret b T h locs cells slots) : b.vm.findClass y.cls = some m.cls := K.2.2.2.2.2.1
theorem Wk.hby (K : Wk p l e R s m args below meth c Z a0 EL n0 y bytes maxL ret b T h locs cells slots) : c.code = bytes := K.2.2.2.2.2.2.1
theorem Wk.hml (K : Wk p l e R s m args below meth c Z a0 EL n0 y bytes maxL ret b T h locs cells slots) : c.maxLocals = maxL := K.2.2.2.2.2.2.2.1
theorem Wk.hret (K : Wk p l e R s m args below meth c Z a0 EL n0 y bytes maxL ret b T h locs cells slots) : meth.sig.returnType = ret := K.2.2.2.2.2.2.2.2.1
theorem Wk.hlk (K : Wk p l e R s m args below meth c Z a0 EL n0 y bytes maxL ret b T h locs cells slots) : meth.locks = false := K.2.2.2.2.2.2.2.2.2.1
theorem Wk.hnm (K : Wk p l e R s m args below meth c Z a0 EL n0 y bytes maxL ret b T h locs cells slots) : meth.name = y.name := K.2.2.2.2.2.2.2.2.2.2.1
theorem Wk.old (K : Wk p l e R s m args below meth c Z a0 EL n0 y bytes maxL ret b T h locs cells slots) : Old Z n0 h := K.2.2.2.2.2.2.2.2.2.2.2.1
theorem Wk.bs (K : Wk p l e R s m args below meth c Z a0 EL n0 y bytes maxL ret b T h locs cells slots) : Bs Z a0 EL s b h := K.2.2.2.2.2.2.2.2.2.2.2.2.1
theorem Wk.kn (K : Wk p l e R s m args below meth c Z a0 EL n0 y bytes maxL ret b T h locs cells slots) : b.vm.MethodsKnown ∧ b.vm.FramesKnown below := K.2.2.2.2.2.2.2.2.2.2.2.2.2
theorem Wk.at (K : Wk p l e R s m args below meth c Z a0 EL n0 y bytes maxL ret b T h locs cells slots) : At T m c below := K.X.here
theorem Wk.move (K : Wk p l e R s m args below meth c Z a0 EL n0 y bytes maxL ret b T h locs cells slots) {T' : State} {h' : Heap} {locs' : List Loc} {cells' slots' : Nat} (X : Stand p l e R b m args below meth c T' locs' cells' slots') (eT : T'.heap = h') (hF : Fr n0 locs') (hO : Old Z n0 h') (hB : Bs Z a0 EL s b h') : Wk p l e R s m args below meth c Z a0 EL n0 y bytes maxL ret b T' h' locs' cells' slots' := ⟨X, eT, hF, K.hx, K.hZ, K.hown, K.hby, K.hml, K.hret, K.hlk, K.hnm, hO, hB, K.kn⟩
theorem k_iload (K : Wk p l e R s m args below meth c Z a0 EL n0 y bytes maxL ret b T h locs cells slots) {i : Int32} {k : Nat} (hd : decode bytes pc = .ok (.iload k, 2)) (hp : pc + 2 = pc') (hl : Ls[k]? = some (.val (.int i))) (k : Goes p.tables e below P (T.setTop (mkF m pc' Ls (.int i :: st)))) : Goes p.tables e below P (T.setTop (mkF m pc Ls st)) := by
  subst hp
  exact go (fun t q => XS.iload K.at K.hx rfl (hb K.hby hd) hl q) k
theorem k_iloadN (K : Wk p l e R s m args below meth c Z a0 EL n0 y bytes maxL ret b T h locs cells slots) {i : Int32} {k : Fin 4} (hd : decode bytes pc = .ok (.iload_n k, 1)) (hp : pc + 1 = pc') (hl : Ls[k.val]? = some (.val (.int i))) (k : Goes p.tables e below P (T.setTop (mkF m pc' Ls (.int i :: st)))) : Goes p.tables e below P (T.setTop (mkF m pc Ls st)) := by
  subst hp
  exact go (fun t q => XS.iloadN K.at K.hx rfl (hb K.hby hd) hl q) k
theorem k_lload (K : Wk p l e R s m args below meth c Z a0 EL n0 y bytes maxL ret b T h locs cells slots) {i : Int64} {k : Nat} (hd : decode bytes pc = .ok (.lload k, 2)) (hp : pc + 2 = pc') (hl : Ls[k]? = some (.val (.long i))) (k : Goes p.tables e below P (T.setTop (mkF m pc' Ls (.long i :: st)))) : Goes p.tables e below P (T.setTop (mkF m pc Ls st)) := by
  subst hp
  exact go (fun t q => XT.lload K.at K.hx rfl (hb K.hby hd) hl q) k
theorem k_lloadN (K : Wk p l e R s m args below meth c Z a0 EL n0 y bytes maxL ret b T h locs cells slots) {i : Int64} {k : Fin 4} (hd : decode bytes pc = .ok (.lload_n k, 1)) (hp : pc + 1 = pc') (hl : Ls[k.val]? = some (.val (.long i))) (k : Goes p.tables e below P (T.setTop (mkF m pc' Ls (.long i :: st)))) : Goes p.tables e below P (T.setTop (mkF m pc Ls st)) := by
  subst hp
  exact go (fun t q => XT.lloadN K.at K.hx rfl (hb K.hby hd) hl q) k
theorem k_aload (K : Wk p l e R s m args below meth c Z a0 EL n0 y bytes maxL ret b T h locs cells slots) {v : Value} {k : Nat} (hd : decode bytes pc = .ok (.aload k, 2)) (hp : pc + 2 = pc') (hl : Ls[k]? = some (.val v)) (hv : v.isRef = true) (k : Goes p.tables e below P (T.setTop (mkF m pc' Ls (v :: st)))) : Goes p.tables e below P (T.setTop (mkF m pc Ls st)) := by
  subst hp
  exact go (fun t q => XS.aload K.at K.hx rfl (hb K.hby hd) hl hv q) k
theorem k_aloadN (K : Wk p l e R s m args below meth c Z a0 EL n0 y bytes maxL ret b T h locs cells slots) {v : Value} {k : Fin 4} (hd : decode bytes pc = .ok (.aload_n k, 1)) (hp : pc + 1 = pc') (hl : Ls[k.val]? = some (.val v)) (hv : v.isRef = true) (k : Goes p.tables e below P (T.setTop (mkF m pc' Ls (v :: st)))) : Goes p.tables e below P (T.setTop (mkF m pc Ls st)) := by
  subst hp
  exact go (fun t q => XS.aloadN K.at K.hx rfl (hb K.hby hd) hl hv q) k
theorem k_istore (K : Wk p l e R s m args below meth c Z a0 EL n0 y bytes maxL ret b T h locs cells slots) {i : Int32} {k : Nat} {L' : Array Slot} (hd : decode bytes pc = .ok (.istore k, 2)) (hp : pc + 2 = pc') (hl : storeLocals Ls k (.int i) = some L') (k : Goes p.tables e below P (T.setTop (mkF m pc' L' st))) : Goes p.tables e below P (T.setTop (mkF m pc Ls (.int i :: st))) := by
  subst hp
  exact go (fun t q => XS.istore K.at K.hx rfl (hb K.hby hd) rfl hl q) k
theorem k_istoreN (K : Wk p l e R s m args below meth c Z a0 EL n0 y bytes maxL ret b T h locs cells slots) {i : Int32} {k : Fin 4} {L' : Array Slot} (hd : decode bytes pc = .ok (.istore_n k, 1)) (hp : pc + 1 = pc') (hl : storeLocals Ls k.val (.int i) = some L') (k : Goes p.tables e below P (T.setTop (mkF m pc' L' st))) : Goes p.tables e below P (T.setTop (mkF m pc Ls (.int i :: st))) := by
  subst hp
  exact go (fun t q => XS.istoreN K.at K.hx rfl (hb K.hby hd) rfl hl q) k
theorem k_lstore (K : Wk p l e R s m args below meth c Z a0 EL n0 y bytes maxL ret b T h locs cells slots) {i : Int64} {k : Nat} {L' : Array Slot} (hd : decode bytes pc = .ok (.lstore k, 2)) (hp : pc + 2 = pc') (hl : storeLocals Ls k (.long i) = some L') (k : Goes p.tables e below P (T.setTop (mkF m pc' L' st))) : Goes p.tables e below P (T.setTop (mkF m pc Ls (.long i :: st))) := by
  subst hp
  exact go (fun t q => XT.lstore K.at K.hx rfl (hb K.hby hd) rfl hl q) k
theorem k_lstoreN (K : Wk p l e R s m args below meth c Z a0 EL n0 y bytes maxL ret b T h locs cells slots) {i : Int64} {k : Fin 4} {L' : Array Slot} (hd : decode bytes pc = .ok (.lstore_n k, 1)) (hp : pc + 1 = pc') (hl : storeLocals Ls k.val (.long i) = some L') (k : Goes p.tables e below P (T.setTop (mkF m pc' L' st))) : Goes p.tables e below P (T.setTop (mkF m pc Ls (.long i :: st))) := by
  subst hp
  exact go (fun t q => XT.lstoreN K.at K.hx rfl (hb K.hby hd) rfl hl q) k
theorem k_astore (K : Wk p l e R s m args below meth c Z a0 EL n0 y bytes maxL ret b T h locs cells slots) {v : Value} {k : Nat} {L' : Array Slot} (hd : decode bytes pc = .ok (.astore k, 2)) (hp : pc + 2 = pc') (hv : v.isRef = true) (hl : storeLocals Ls k v = some L') (k : Goes p.tables e below P (T.setTop (mkF m pc' L' st))) : Goes p.tables e below P (T.setTop (mkF m pc Ls (v :: st))) := by
  subst hp
  exact go (fun t q => XS.astore K.at K.hx rfl (hb K.hby hd) rfl hv hl q) k
theorem k_astoreN (K : Wk p l e R s m args below meth c Z a0 EL n0 y bytes maxL ret b T h locs cells slots) {v : Value} {k : Fin 4} {L' : Array Slot} (hd : decode bytes pc = .ok (.astore_n k, 1)) (hp : pc + 1 = pc') (hv : v.isRef = true) (hl : storeLocals Ls k.val v = some L') (k : Goes p.tables e below P (T.setTop (mkF m pc' L' st))) : Goes p.tables e below P (T.setTop (mkF m pc Ls (v :: st))) := by
  subst hp
  exact go (fun t q => XS.astoreN K.at K.hx rfl (hb K.hby hd) rfl hv hl q) k
theorem k_iconst (K : Wk p l e R s m args below meth c Z a0 EL n0 y bytes maxL ret b T h locs cells slots) {i : Int} (v : Int32) (hd : decode bytes pc = .ok (.iconst i, 1)) (hp : pc + 1 = pc') (hv : Int32.ofInt i = v) (k : Goes p.tables e below P (T.setTop (mkF m pc' Ls (.int v :: st)))) : Goes p.tables e below P (T.setTop (mkF m pc Ls st)) := by
  subst hp
  exact go (fun t q => XT.iconstV K.at K.hx rfl v (hb K.hby hd) hv q) k
theorem k_bipush (K : Wk p l e R s m args below meth c Z a0 EL n0 y bytes maxL ret b T h locs cells slots) {i : Int} (v : Int32) (hd : decode bytes pc = .ok (.bipush i, 2)) (hp : pc + 2 = pc') (hv : (Int8.ofInt i).toInt32 = v) (k : Goes p.tables e below P (T.setTop (mkF m pc' Ls (.int v :: st)))) : Goes p.tables e below P (T.setTop (mkF m pc Ls st)) := by
  subst hp
  exact go (fun t q => XT.bipushV K.at K.hx rfl v (hb K.hby hd) hv q) k
theorem k_sipush (K : Wk p l e R s m args below meth c Z a0 EL n0 y bytes maxL ret b T h locs cells slots) {i : Int} (v : Int32) (hd : decode bytes pc = .ok (.sipush i, 3)) (hp : pc + 3 = pc') (hv : (Int16.ofInt i).toInt32 = v) (k : Goes p.tables e below P (T.setTop (mkF m pc' Ls (.int v :: st)))) : Goes p.tables e below P (T.setTop (mkF m pc Ls st)) := by
  subst hp
  exact go (fun t q => XT.sipushV K.at K.hx rfl v (hb K.hby hd) hv q) k
theorem k_lconst (K : Wk p l e R s m args below meth c Z a0 EL n0 y bytes maxL ret b T h locs cells slots) {i : Fin 2} (v : Int64) (hd : decode bytes pc = .ok (.lconst i, 1)) (hp : pc + 1 = pc') (hv : Int64.ofNat i = v) (k : Goes p.tables e below P (T.setTop (mkF m pc' Ls (.long v :: st)))) : Goes p.tables e below P (T.setTop (mkF m pc Ls st)) := by
  subst hp
  exact go (fun t q => XT.lconstV K.at K.hx rfl v (hb K.hby hd) hv q) k
theorem k_aconst_null (K : Wk p l e R s m args below meth c Z a0 EL n0 y bytes maxL ret b T h locs cells slots)  (hd : decode bytes pc = .ok (.aconst_null, 1)) (hp : pc + 1 = pc') (k : Goes p.tables e below P (T.setTop (mkF m pc' Ls (.null :: st)))) : Goes p.tables e below P (T.setTop (mkF m pc Ls st)) := by
  subst hp
  exact go (fun t q => XS.aconstNull K.at K.hx rfl (hb K.hby hd) q) k
theorem k_ldcI (K : Wk p l e R s m args below meth c Z a0 EL n0 y bytes maxL ret b T h locs cells slots) {i : Nat} {v : Int32} (wd : (Cond.constant y.cls i v).before a0 Z = true) (hd : decode bytes pc = .ok (.ldc i, 2)) (hp : pc + 2 = pc') (k : Goes p.tables e below P (T.setTop (mkF m pc' Ls (.int v :: st)))) : Goes p.tables e below P (T.setTop (mkF m pc Ls st)) := by
  subst hp
  exact go (fun t q => Stand.ldcI K.X K.hx K.hown (mvT K.hZ wd) rfl (hb K.hby hd) q) k
theorem k_ldcWI (K : Wk p l e R s m args below meth c Z a0 EL n0 y bytes maxL ret b T h locs cells slots) {i : Nat} {v : Int32} (wd : (Cond.constant y.cls i v).before a0 Z = true) (hd : decode bytes pc = .ok (.ldc_w i, 3)) (hp : pc + 3 = pc') (k : Goes p.tables e below P (T.setTop (mkF m pc' Ls (.int v :: st)))) : Goes p.tables e below P (T.setTop (mkF m pc Ls st)) := by
  subst hp
  exact go (fun t q => Stand.ldcWI K.X K.hx K.hown (mvT K.hZ wd) rfl (hb K.hby hd) q) k
theorem k_ldcJ (K : Wk p l e R s m args below meth c Z a0 EL n0 y bytes maxL ret b T h locs cells slots) {i : Nat} {v : Int64} (wd : (Cond.constantLong y.cls i v).before a0 Z = true) (hd : decode bytes pc = .ok (.ldc2_w i, 3)) (hp : pc + 3 = pc') (k : Goes p.tables e below P (T.setTop (mkF m pc' Ls (.long v :: st)))) : Goes p.tables e below P (T.setTop (mkF m pc Ls st)) := by
  subst hp
  exact go (fun t q => Stand.ldc2J K.X K.hx K.hown (mvT K.hZ wd) rfl (hb K.hby hd) q) k
theorem k_iadd (K : Wk p l e R s m args below meth c Z a0 EL n0 y bytes maxL ret b T h locs cells slots) {i j : Int32} (hd : decode bytes pc = .ok (.iadd, 1)) (hp : pc + 1 = pc') (k : Goes p.tables e below P (T.setTop (mkF m pc' Ls (.int (i + j) :: st)))) : Goes p.tables e below P (T.setTop (mkF m pc Ls (.int j :: .int i :: st))) := by
  subst hp
  exact go (fun t q => XS.iadd K.at K.hx rfl (hb K.hby hd) rfl q) k
theorem k_isub (K : Wk p l e R s m args below meth c Z a0 EL n0 y bytes maxL ret b T h locs cells slots) {i j : Int32} (hd : decode bytes pc = .ok (.isub, 1)) (hp : pc + 1 = pc') (k : Goes p.tables e below P (T.setTop (mkF m pc' Ls (.int (i - j) :: st)))) : Goes p.tables e below P (T.setTop (mkF m pc Ls (.int j :: .int i :: st))) := by
  subst hp
  exact go (fun t q => XS.isub K.at K.hx rfl (hb K.hby hd) rfl q) k
theorem k_imul (K : Wk p l e R s m args below meth c Z a0 EL n0 y bytes maxL ret b T h locs cells slots) {i j : Int32} (hd : decode bytes pc = .ok (.imul, 1)) (hp : pc + 1 = pc') (k : Goes p.tables e below P (T.setTop (mkF m pc' Ls (.int (i * j) :: st)))) : Goes p.tables e below P (T.setTop (mkF m pc Ls (.int j :: .int i :: st))) := by
  subst hp
  exact go (fun t q => XS.imul K.at K.hx rfl (hb K.hby hd) rfl q) k
theorem k_iand (K : Wk p l e R s m args below meth c Z a0 EL n0 y bytes maxL ret b T h locs cells slots) {i j : Int32} (hd : decode bytes pc = .ok (.iand, 1)) (hp : pc + 1 = pc') (k : Goes p.tables e below P (T.setTop (mkF m pc' Ls (.int (i &&& j) :: st)))) : Goes p.tables e below P (T.setTop (mkF m pc Ls (.int j :: .int i :: st))) := by
  subst hp
  exact go (fun t q => XS.iand K.at K.hx rfl (hb K.hby hd) rfl q) k
theorem k_ior (K : Wk p l e R s m args below meth c Z a0 EL n0 y bytes maxL ret b T h locs cells slots) {i j : Int32} (hd : decode bytes pc = .ok (.ior, 1)) (hp : pc + 1 = pc') (k : Goes p.tables e below P (T.setTop (mkF m pc' Ls (.int (i ||| j) :: st)))) : Goes p.tables e below P (T.setTop (mkF m pc Ls (.int j :: .int i :: st))) := by
  subst hp
  exact go (fun t q => XT.ior K.at K.hx rfl (hb K.hby hd) rfl q) k
theorem k_ixor (K : Wk p l e R s m args below meth c Z a0 EL n0 y bytes maxL ret b T h locs cells slots) {i j : Int32} (hd : decode bytes pc = .ok (.ixor, 1)) (hp : pc + 1 = pc') (k : Goes p.tables e below P (T.setTop (mkF m pc' Ls (.int (i ^^^ j) :: st)))) : Goes p.tables e below P (T.setTop (mkF m pc Ls (.int j :: .int i :: st))) := by
  subst hp
  exact go (fun t q => XT.ixor K.at K.hx rfl (hb K.hby hd) rfl q) k
theorem k_ishl (K : Wk p l e R s m args below meth c Z a0 EL n0 y bytes maxL ret b T h locs cells slots) {i j : Int32} (hd : decode bytes pc = .ok (.ishl, 1)) (hp : pc + 1 = pc') (k : Goes p.tables e below P (T.setTop (mkF m pc' Ls (.int (i <<< (j &&& 31)) :: st)))) : Goes p.tables e below P (T.setTop (mkF m pc Ls (.int j :: .int i :: st))) := by
  subst hp
  exact go (fun t q => XT.ishl K.at K.hx rfl (hb K.hby hd) rfl q) k
theorem k_ishr (K : Wk p l e R s m args below meth c Z a0 EL n0 y bytes maxL ret b T h locs cells slots) {i j : Int32} (hd : decode bytes pc = .ok (.ishr, 1)) (hp : pc + 1 = pc') (k : Goes p.tables e below P (T.setTop (mkF m pc' Ls (.int (i >>> (j &&& 31)) :: st)))) : Goes p.tables e below P (T.setTop (mkF m pc Ls (.int j :: .int i :: st))) := by
  subst hp
  exact go (fun t q => XT.ishr K.at K.hx rfl (hb K.hby hd) rfl q) k
theorem k_iushr (K : Wk p l e R s m args below meth c Z a0 EL n0 y bytes maxL ret b T h locs cells slots) {i j : Int32} (hd : decode bytes pc = .ok (.iushr, 1)) (hp : pc + 1 = pc') (k : Goes p.tables e below P (T.setTop (mkF m pc' Ls (.int (XT.ushr i j) :: st)))) : Goes p.tables e below P (T.setTop (mkF m pc Ls (.int j :: .int i :: st))) := by
  subst hp
  exact go (fun t q => XT.iushr K.at K.hx rfl (hb K.hby hd) rfl q) k
theorem k_ladd (K : Wk p l e R s m args below meth c Z a0 EL n0 y bytes maxL ret b T h locs cells slots) {i j : Int64} (hd : decode bytes pc = .ok (.ladd, 1)) (hp : pc + 1 = pc') (k : Goes p.tables e below P (T.setTop (mkF m pc' Ls (.long (i + j) :: st)))) : Goes p.tables e below P (T.setTop (mkF m pc Ls (.long j :: .long i :: st))) := by
  subst hp
  exact go (fun t q => XT.ladd K.at K.hx rfl (hb K.hby hd) rfl q) k
theorem k_lsub (K : Wk p l e R s m args below meth c Z a0 EL n0 y bytes maxL ret b T h locs cells slots) {i j : Int64} (hd : decode bytes pc = .ok (.lsub, 1)) (hp : pc + 1 = pc') (k : Goes p.tables e below P (T.setTop (mkF m pc' Ls (.long (i - j) :: st)))) : Goes p.tables e below P (T.setTop (mkF m pc Ls (.long j :: .long i :: st))) := by
  subst hp
  exact go (fun t q => XT.lsub K.at K.hx rfl (hb K.hby hd) rfl q) k
theorem k_lmul (K : Wk p l e R s m args below meth c Z a0 EL n0 y bytes maxL ret b T h locs cells slots) {i j : Int64} (hd : decode bytes pc = .ok (.lmul, 1)) (hp : pc + 1 = pc') (k : Goes p.tables e below P (T.setTop (mkF m pc' Ls (.long (i * j) :: st)))) : Goes p.tables e below P (T.setTop (mkF m pc Ls (.long j :: .long i :: st))) := by
  subst hp
  exact go (fun t q => XT.lmul K.at K.hx rfl (hb K.hby hd) rfl q) k
theorem k_land (K : Wk p l e R s m args below meth c Z a0 EL n0 y bytes maxL ret b T h locs cells slots) {i j : Int64} (hd : decode bytes pc = .ok (.land, 1)) (hp : pc + 1 = pc') (k : Goes p.tables e below P (T.setTop (mkF m pc' Ls (.long (i &&& j) :: st)))) : Goes p.tables e below P (T.setTop (mkF m pc Ls (.long j :: .long i :: st))) := by
  subst hp
  exact go (fun t q => XT.land K.at K.hx rfl (hb K.hby hd) rfl q) k
theorem k_lor (K : Wk p l e R s m args below meth c Z a0 EL n0 y bytes maxL ret b T h locs cells slots) {i j : Int64} (hd : decode bytes pc = .ok (.lor, 1)) (hp : pc + 1 = pc') (k : Goes p.tables e below P (T.setTop (mkF m pc' Ls (.long (i ||| j) :: st)))) : Goes p.tables e below P (T.setTop (mkF m pc Ls (.long j :: .long i :: st))) := by
  subst hp
  exact go (fun t q => XT.lor K.at K.hx rfl (hb K.hby hd) rfl q) k
theorem k_lxor (K : Wk p l e R s m args below meth c Z a0 EL n0 y bytes maxL ret b T h locs cells slots) {i j : Int64} (hd : decode bytes pc = .ok (.lxor, 1)) (hp : pc + 1 = pc') (k : Goes p.tables e below P (T.setTop (mkF m pc' Ls (.long (i ^^^ j) :: st)))) : Goes p.tables e below P (T.setTop (mkF m pc Ls (.long j :: .long i :: st))) := by
  subst hp
  exact go (fun t q => XT.lxor K.at K.hx rfl (hb K.hby hd) rfl q) k
theorem k_lshl (K : Wk p l e R s m args below meth c Z a0 EL n0 y bytes maxL ret b T h locs cells slots) {i : Int64} {j : Int32} (hd : decode bytes pc = .ok (.lshl, 1)) (hp : pc + 1 = pc') (k : Goes p.tables e below P (T.setTop (mkF m pc' Ls (.long (i <<< (j.toInt64 &&& 63)) :: st)))) : Goes p.tables e below P (T.setTop (mkF m pc Ls (.int j :: .long i :: st))) := by
  subst hp
  exact go (fun t q => XT.lshl K.at K.hx rfl (hb K.hby hd) rfl q) k
theorem k_lshr (K : Wk p l e R s m args below meth c Z a0 EL n0 y bytes maxL ret b T h locs cells slots) {i : Int64} {j : Int32} (hd : decode bytes pc = .ok (.lshr, 1)) (hp : pc + 1 = pc') (k : Goes p.tables e below P (T.setTop (mkF m pc' Ls (.long (i >>> (j.toInt64 &&& 63)) :: st)))) : Goes p.tables e below P (T.setTop (mkF m pc Ls (.int j :: .long i :: st))) := by
  subst hp
  exact go (fun t q => XT.lshr K.at K.hx rfl (hb K.hby hd) rfl q) k
theorem k_lushr (K : Wk p l e R s m args below meth c Z a0 EL n0 y bytes maxL ret b T h locs cells slots) {i : Int64} {j : Int32} (hd : decode bytes pc = .ok (.lushr, 1)) (hp : pc + 1 = pc') (k : Goes p.tables e below P (T.setTop (mkF m pc' Ls (.long (XT.ushrL i j) :: st)))) : Goes p.tables e below P (T.setTop (mkF m pc Ls (.int j :: .long i :: st))) := by
  subst hp
  exact go (fun t q => XT.lushr K.at K.hx rfl (hb K.hby hd) rfl q) k
theorem k_idiv (K : Wk p l e R s m args below meth c Z a0 EL n0 y bytes maxL ret b T h locs cells slots) {i j : Int32} (hd : decode bytes pc = .ok (.idiv, 1)) (hp : pc + 1 = pc') (hj : j ≠ 0) (k : Goes p.tables e below P (T.setTop (mkF m pc' Ls (.int (i / j) :: st)))) : Goes p.tables e below P (T.setTop (mkF m pc Ls (.int j :: .int i :: st))) := by
  subst hp
  exact go (fun t q => XS.idiv K.at K.hx rfl (hb K.hby hd) rfl hj q) k
theorem k_irem (K : Wk p l e R s m args below meth c Z a0 EL n0 y bytes maxL ret b T h locs cells slots) {i j : Int32} (hd : decode bytes pc = .ok (.irem, 1)) (hp : pc + 1 = pc') (hj : j ≠ 0) (k : Goes p.tables e below P (T.setTop (mkF m pc' Ls (.int (i % j) :: st)))) : Goes p.tables e below P (T.setTop (mkF m pc Ls (.int j :: .int i :: st))) := by
  subst hp
  exact go (fun t q => Jvm.RoadKit.iremM K.X K.hx rfl (hb K.hby hd) rfl hj q) k
theorem k_ldiv (K : Wk p l e R s m args below meth c Z a0 EL n0 y bytes maxL ret b T h locs cells slots) {i j : Int64} (hd : decode bytes pc = .ok (.ldiv, 1)) (hp : pc + 1 = pc') (hj : j ≠ 0) (k : Goes p.tables e below P (T.setTop (mkF m pc' Ls (.long (i / j) :: st)))) : Goes p.tables e below P (T.setTop (mkF m pc Ls (.long j :: .long i :: st))) := by
  subst hp
  exact go (fun t q => XT.ldiv K.at K.hx rfl (hb K.hby hd) rfl hj q) k
theorem k_lrem (K : Wk p l e R s m args below meth c Z a0 EL n0 y bytes maxL ret b T h locs cells slots) {i j : Int64} (hd : decode bytes pc = .ok (.lrem, 1)) (hp : pc + 1 = pc') (hj : j ≠ 0) (k : Goes p.tables e below P (T.setTop (mkF m pc' Ls (.long (i - (i / j) * j) :: st)))) : Goes p.tables e below P (T.setTop (mkF m pc Ls (.long j :: .long i :: st))) := by
  subst hp
  exact go (fun t q => XT.lrem K.at K.hx rfl (hb K.hby hd) rfl hj q) k
theorem k_lcmp (K : Wk p l e R s m args below meth c Z a0 EL n0 y bytes maxL ret b T h locs cells slots) {i j : Int64} (hd : decode bytes pc = .ok (.lcmp, 1)) (hp : pc + 1 = pc') (k : Goes p.tables e below P (T.setTop (mkF m pc' Ls (.int (XT.cmpL i j) :: st)))) : Goes p.tables e below P (T.setTop (mkF m pc Ls (.long j :: .long i :: st))) := by
  subst hp
  exact go (fun t q => XT.lcmp K.at K.hx rfl (hb K.hby hd) rfl q) k
theorem k_ineg (K : Wk p l e R s m args below meth c Z a0 EL n0 y bytes maxL ret b T h locs cells slots) {i : Int32} (hd : decode bytes pc = .ok (.ineg, 1)) (hp : pc + 1 = pc') (k : Goes p.tables e below P (T.setTop (mkF m pc' Ls (.int (-i) :: st)))) : Goes p.tables e below P (T.setTop (mkF m pc Ls (.int i :: st))) := by
  subst hp
  exact go (fun t q => XS.ineg K.at K.hx rfl (hb K.hby hd) rfl q) k
theorem k_lneg (K : Wk p l e R s m args below meth c Z a0 EL n0 y bytes maxL ret b T h locs cells slots) {i : Int64} (hd : decode bytes pc = .ok (.lneg, 1)) (hp : pc + 1 = pc') (k : Goes p.tables e below P (T.setTop (mkF m pc' Ls (.long (-i) :: st)))) : Goes p.tables e below P (T.setTop (mkF m pc Ls (.long i :: st))) := by
  subst hp
  exact go (fun t q => XT.lneg K.at K.hx rfl (hb K.hby hd) rfl q) k
theorem k_i2l (K : Wk p l e R s m args below meth c Z a0 EL n0 y bytes maxL ret b T h locs cells slots) {i : Int32} (hd : decode bytes pc = .ok (.i2l, 1)) (hp : pc + 1 = pc') (k : Goes p.tables e below P (T.setTop (mkF m pc' Ls (.long i.toInt64 :: st)))) : Goes p.tables e below P (T.setTop (mkF m pc Ls (.int i :: st))) := by
  subst hp
  exact go (fun t q => XT.i2l K.at K.hx rfl (hb K.hby hd) rfl q) k
theorem k_l2i (K : Wk p l e R s m args below meth c Z a0 EL n0 y bytes maxL ret b T h locs cells slots) {i : Int64} (hd : decode bytes pc = .ok (.l2i, 1)) (hp : pc + 1 = pc') (k : Goes p.tables e below P (T.setTop (mkF m pc' Ls (.int i.toInt32 :: st)))) : Goes p.tables e below P (T.setTop (mkF m pc Ls (.long i :: st))) := by
  subst hp
  exact go (fun t q => XT.l2i K.at K.hx rfl (hb K.hby hd) rfl q) k
theorem k_i2b (K : Wk p l e R s m args below meth c Z a0 EL n0 y bytes maxL ret b T h locs cells slots) {i : Int32} (hd : decode bytes pc = .ok (.i2b, 1)) (hp : pc + 1 = pc') (k : Goes p.tables e below P (T.setTop (mkF m pc' Ls (.int i.toInt8.toInt32 :: st)))) : Goes p.tables e below P (T.setTop (mkF m pc Ls (.int i :: st))) := by
  subst hp
  exact go (fun t q => XT.i2b K.at K.hx rfl (hb K.hby hd) rfl q) k
theorem k_i2c (K : Wk p l e R s m args below meth c Z a0 EL n0 y bytes maxL ret b T h locs cells slots) {i : Int32} (hd : decode bytes pc = .ok (.i2c, 1)) (hp : pc + 1 = pc') (k : Goes p.tables e below P (T.setTop (mkF m pc' Ls (.int i.toUInt32.toUInt16.toUInt32.toInt32 :: st)))) : Goes p.tables e below P (T.setTop (mkF m pc Ls (.int i :: st))) := by
  subst hp
  exact go (fun t q => XT.i2c K.at K.hx rfl (hb K.hby hd) rfl q) k
theorem k_i2s (K : Wk p l e R s m args below meth c Z a0 EL n0 y bytes maxL ret b T h locs cells slots) {i : Int32} (hd : decode bytes pc = .ok (.i2s, 1)) (hp : pc + 1 = pc') (k : Goes p.tables e below P (T.setTop (mkF m pc' Ls (.int i.toInt16.toInt32 :: st)))) : Goes p.tables e below P (T.setTop (mkF m pc Ls (.int i :: st))) := by
  subst hp
  exact go (fun t q => XT.i2s K.at K.hx rfl (hb K.hby hd) rfl q) k
theorem k_iinc (K : Wk p l e R s m args below meth c Z a0 EL n0 y bytes maxL ret b T h locs cells slots) {i : Int32} {k : Nat} {ct : Int} {L' : Array Slot} (v : Int32) (hd : decode bytes pc = .ok (.iinc k ct, 3)) (hp : pc + 3 = pc') (hv : Int32.ofInt ct = v) (hl : Ls[k]? = some (.val (.int i))) (hl' : storeLocals Ls k (.int (i + v)) = some L') (k : Goes p.tables e below P (T.setTop (mkF m pc' L' st))) : Goes p.tables e below P (T.setTop (mkF m pc Ls st)) := by
  subst hp
  exact go (fun t q => XT.iincV K.at K.hx rfl v (hb K.hby hd) hv hl hl' q) k
theorem k_dup (K : Wk p l e R s m args below meth c Z a0 EL n0 y bytes maxL ret b T h locs cells slots) {v : Value} (hd : decode bytes pc = .ok (.dup, 1)) (hp : pc + 1 = pc') (hc : v.category = 1) (k : Goes p.tables e below P (T.setTop (mkF m pc' Ls (v :: v :: st)))) : Goes p.tables e below P (T.setTop (mkF m pc Ls (v :: st))) := by
  subst hp
  exact go (fun t q => XS.dup K.at K.hx rfl (hb K.hby hd) rfl hc q) k
theorem k_pop (K : Wk p l e R s m args below meth c Z a0 EL n0 y bytes maxL ret b T h locs cells slots) {v : Value} (hd : decode bytes pc = .ok (.pop, 1)) (hp : pc + 1 = pc') (hc : v.category = 1) (k : Goes p.tables e below P (T.setTop (mkF m pc' Ls st))) : Goes p.tables e below P (T.setTop (mkF m pc Ls (v :: st))) := by
  subst hp
  exact go (fun t q => XT.pop K.at K.hx rfl (hb K.hby hd) rfl hc q) k
theorem k_dup_x1 (K : Wk p l e R s m args below meth c Z a0 EL n0 y bytes maxL ret b T h locs cells slots) {v u : Value} (hd : decode bytes pc = .ok (.dup_x1, 1)) (hp : pc + 1 = pc') (hc : v.category = 1) (hc' : u.category = 1) (k : Goes p.tables e below P (T.setTop (mkF m pc' Ls (v :: u :: v :: st)))) : Goes p.tables e below P (T.setTop (mkF m pc Ls (v :: u :: st))) := by
  subst hp
  exact go (fun t q => XT.dupX1 K.at K.hx rfl (hb K.hby hd) rfl hc hc' q) k
theorem k_dup2J (K : Wk p l e R s m args below meth c Z a0 EL n0 y bytes maxL ret b T h locs cells slots) {i : Int64} (hd : decode bytes pc = .ok (.dup2, 1)) (hp : pc + 1 = pc') (k : Goes p.tables e below P (T.setTop (mkF m pc' Ls (.long i :: .long i :: st)))) : Goes p.tables e below P (T.setTop (mkF m pc Ls (.long i :: st))) := by
  subst hp
  refine go (fun t q => ?_) k
  have hd' := (hb K.hby hd)
  have hA := K.at
  have hx := K.hx
  jvm_step hA [hA.top, hx, hd', Value.category]
  exact q
theorem k_dup2II (K : Wk p l e R s m args below meth c Z a0 EL n0 y bytes maxL ret b T h locs cells slots) {i j : Int32} (hd : decode bytes pc = .ok (.dup2, 1)) (hp : pc + 1 = pc') (k : Goes p.tables e below P (T.setTop (mkF m pc' Ls (.int j :: .int i :: .int j :: .int i :: st)))) : Goes p.tables e below P (T.setTop (mkF m pc Ls (.int j :: .int i :: st))) := by
  subst hp
  refine go (fun t q => ?_) k
  have hd' := (hb K.hby hd)
  have hA := K.at
  have hx := K.hx
  jvm_step hA [hA.top, hx, hd', Value.category]
  exact q
theorem k_dup2AI (K : Wk p l e R s m args below meth c Z a0 EL n0 y bytes maxL ret b T h locs cells slots) {a : Addr} {j : Int32} (hd : decode bytes pc = .ok (.dup2, 1)) (hp : pc + 1 = pc') (k : Goes p.tables e below P (T.setTop (mkF m pc' Ls (.int j :: .ref a :: .int j :: .ref a :: st)))) : Goes p.tables e below P (T.setTop (mkF m pc Ls (.int j :: .ref a :: st))) := by
  subst hp
  refine go (fun t q => ?_) k
  have hd' := (hb K.hby hd)
  have hA := K.at
  have hx := K.hx
  jvm_step hA [hA.top, hx, hd', Value.category]
  exact q
theorem k_pop2J (K : Wk p l e R s m args below meth c Z a0 EL n0 y bytes maxL ret b T h locs cells slots) {i : Int64} (hd : decode bytes pc = .ok (.pop2, 1)) (hp : pc + 1 = pc') (k : Goes p.tables e below P (T.setTop (mkF m pc' Ls st))) : Goes p.tables e below P (T.setTop (mkF m pc Ls (.long i :: st))) := by
  subst hp
  refine go (fun t q => ?_) k
  have hd' := (hb K.hby hd)
  have hA := K.at
  have hx := K.hx
  jvm_step hA [hA.top, hx, hd', Value.category]
  exact q
theorem k_dup_x2AI (K : Wk p l e R s m args below meth c Z a0 EL n0 y bytes maxL ret b T h locs cells slots) {a : Addr} {i j : Int32} (hd : decode bytes pc = .ok (.dup_x2, 1)) (hp : pc + 1 = pc') (k : Goes p.tables e below P (T.setTop (mkF m pc' Ls (.int i :: .int j :: .ref a :: .int i :: st)))) : Goes p.tables e below P (T.setTop (mkF m pc Ls (.int i :: .int j :: .ref a :: st))) := by
  subst hp
  refine go (fun t q => ?_) k
  have hd' := (hb K.hby hd)
  have hA := K.at
  have hx := K.hx
  jvm_step hA [hA.top, hx, hd', Value.category]
  exact q
theorem k_dup2_x1JA (K : Wk p l e R s m args below meth c Z a0 EL n0 y bytes maxL ret b T h locs cells slots) {i : Int64} {a : Addr} (hd : decode bytes pc = .ok (.dup2_x1, 1)) (hp : pc + 1 = pc') (k : Goes p.tables e below P (T.setTop (mkF m pc' Ls (.long i :: .ref a :: .long i :: st)))) : Goes p.tables e below P (T.setTop (mkF m pc Ls (.long i :: .ref a :: st))) := by
  subst hp
  refine go (fun t q => ?_) k
  have hd' := (hb K.hby hd)
  have hA := K.at
  have hx := K.hx
  jvm_step hA [hA.top, hx, hd', Value.category]
  exact q
theorem k_dup2_x2JAI (K : Wk p l e R s m args below meth c Z a0 EL n0 y bytes maxL ret b T h locs cells slots) {i : Int64} {a : Addr} {j : Int32} (hd : decode bytes pc = .ok (.dup2_x2, 1)) (hp : pc + 1 = pc') (k : Goes p.tables e below P (T.setTop (mkF m pc' Ls (.long i :: .int j :: .ref a :: .long i :: st)))) : Goes p.tables e below P (T.setTop (mkF m pc Ls (.long i :: .int j :: .ref a :: st))) := by
  subst hp
  refine go (fun t q => ?_) k
  have hd' := (hb K.hby hd)
  have hA := K.at
  have hx := K.hx
  jvm_step hA [hA.top, hx, hd', Value.category]
  exact q
theorem k_goto (K : Wk p l e R s m args below meth c Z a0 EL n0 y bytes maxL ret b T h locs cells slots) {o : Int} (hd : decode bytes pc = .ok (.goto o, 3)) (ho : 0 ≤ (pc : Int) + o) (hp : ((pc : Int) + o).toNat = pc') (k : Goes p.tables e below P (T.setTop (mkF m pc' Ls st))) : Goes p.tables e below P (T.setTop (mkF m pc Ls st)) := go (fun t q => XS.goto K.at K.hx rfl rfl (hb K.hby hd) ho hp q) k
theorem k_icmp_eq (K : Wk p l e R s m args below meth c Z a0 EL n0 y bytes maxL ret b T h locs cells slots) {i j : Int32} {o : Int} {pc2 : Nat} (hd : decode bytes pc = .ok (.if_icmp .eq o, 3)) (ho : 0 ≤ (pc : Int) + o) (hp : ((pc : Int) + o).toNat = pc') (hp2 : pc + 3 = pc2) (kT : i = j → Goes p.tables e below P (T.setTop (mkF m pc' Ls st))) (kF : ¬ i = j → Goes p.tables e below P (T.setTop (mkF m pc2 Ls st))) : Goes p.tables e below P (T.setTop (mkF m pc Ls (.int j :: .int i :: st))) := by
  subst hp2
  by_cases q : i = j
  · exact go (fun t r => XS.icmpYes K.at K.hx rfl rfl (hb K.hby hd) rfl (XT.ii_eq_t q) ho hp r) (kT q)
  · exact go (fun t r => XS.icmpNo K.at K.hx rfl (hb K.hby hd) rfl (XT.ii_eq_f q) r) (kF q)
theorem k_if_eq (K : Wk p l e R s m args below meth c Z a0 EL n0 y bytes maxL ret b T h locs cells slots) {i : Int32} {o : Int} {pc2 : Nat} (hd : decode bytes pc = .ok (.ifCond .eq o, 3)) (ho : 0 ≤ (pc : Int) + o) (hp : ((pc : Int) + o).toNat = pc') (hp2 : pc + 3 = pc2) (kT : i = 0 → Goes p.tables e below P (T.setTop (mkF m pc' Ls st))) (kF : ¬ i = 0 → Goes p.tables e below P (T.setTop (mkF m pc2 Ls st))) : Goes p.tables e below P (T.setTop (mkF m pc Ls (.int i :: st))) := by
  subst hp2
  by_cases q : i = 0
  · exact go (fun t r => XS.ifYes K.at K.hx rfl rfl (hb K.hby hd) rfl (XT.i0_eq_t q) ho hp r) (kT q)
  · exact go (fun t r => XS.ifNo K.at K.hx rfl (hb K.hby hd) rfl (XT.i0_eq_f q) r) (kF q)
theorem k_lif_eq (K : Wk p l e R s m args below meth c Z a0 EL n0 y bytes maxL ret b T h locs cells slots) {i j : Int64} {o : Int} {pc2 : Nat} (hd : decode bytes pc = .ok (.ifCond .eq o, 3)) (ho : 0 ≤ (pc : Int) + o) (hp : ((pc : Int) + o).toNat = pc') (hp2 : pc + 3 = pc2) (kT : i = j → Goes p.tables e below P (T.setTop (mkF m pc' Ls st))) (kF : ¬ i = j → Goes p.tables e below P (T.setTop (mkF m pc2 Ls st))) : Goes p.tables e below P (T.setTop (mkF m pc Ls (.int (XT.cmpL i j) :: st))) := by
  subst hp2
  by_cases q : i = j
  · exact go (fun t r => XS.ifYes K.at K.hx rfl rfl (hb K.hby hd) rfl (XT.ll_eq_t q) ho hp r) (kT q)
  · exact go (fun t r => XS.ifNo K.at K.hx rfl (hb K.hby hd) rfl (XT.ll_eq_f q) r) (kF q)
theorem k_icmp_ne (K : Wk p l e R s m args below meth c Z a0 EL n0 y bytes maxL ret b T h locs cells slots) {i j : Int32} {o : Int} {pc2 : Nat} (hd : decode bytes pc = .ok (.if_icmp .ne o, 3)) (ho : 0 ≤ (pc : Int) + o) (hp : ((pc : Int) + o).toNat = pc') (hp2 : pc + 3 = pc2) (kT : ¬ i = j → Goes p.tables e below P (T.setTop (mkF m pc' Ls st))) (kF : i = j → Goes p.tables e below P (T.setTop (mkF m pc2 Ls st))) : Goes p.tables e below P (T.setTop (mkF m pc Ls (.int j :: .int i :: st))) := by
  subst hp2
  by_cases q : ¬ i = j
  · exact go (fun t r => XS.icmpYes K.at K.hx rfl rfl (hb K.hby hd) rfl (XT.ii_ne_t q) ho hp r) (kT q)
  · exact go (fun t r => XS.icmpNo K.at K.hx rfl (hb K.hby hd) rfl (XT.ii_ne_f (Classical.not_not.mp q)) r) (kF (Classical.not_not.mp q))
theorem k_if_ne (K : Wk p l e R s m args below meth c Z a0 EL n0 y bytes maxL ret b T h locs cells slots) {i : Int32} {o : Int} {pc2 : Nat} (hd : decode bytes pc = .ok (.ifCond .ne o, 3)) (ho : 0 ≤ (pc : Int) + o) (hp : ((pc : Int) + o).toNat = pc') (hp2 : pc + 3 = pc2) (kT : ¬ i = 0 → Goes p.tables e below P (T.setTop (mkF m pc' Ls st))) (kF : i = 0 → Goes p.tables e below P (T.setTop (mkF m pc2 Ls st))) : Goes p.tables e below P (T.setTop (mkF m pc Ls (.int i :: st))) := by
  subst hp2
  by_cases q : ¬ i = 0
  · exact go (fun t r => XS.ifYes K.at K.hx rfl rfl (hb K.hby hd) rfl (XT.i0_ne_t q) ho hp r) (kT q)
  · exact go (fun t r => XS.ifNo K.at K.hx rfl (hb K.hby hd) rfl (XT.i0_ne_f (Classical.not_not.mp q)) r) (kF (Classical.not_not.mp q))
theorem k_lif_ne (K : Wk p l e R s m args below meth c Z a0 EL n0 y bytes maxL ret b T h locs cells slots) {i j : Int64} {o : Int} {pc2 : Nat} (hd : decode bytes pc = .ok (.ifCond .ne o, 3)) (ho : 0 ≤ (pc : Int) + o) (hp : ((pc : Int) + o).toNat = pc') (hp2 : pc + 3 = pc2) (kT : ¬ i = j → Goes p.tables e below P (T.setTop (mkF m pc' Ls st))) (kF : i = j → Goes p.tables e below P (T.setTop (mkF m pc2 Ls st))) : Goes p.tables e below P (T.setTop (mkF m pc Ls (.int (XT.cmpL i j) :: st))) := by
  subst hp2
  by_cases q : ¬ i = j
  · exact go (fun t r => XS.ifYes K.at K.hx rfl rfl (hb K.hby hd) rfl (XT.ll_ne_t q) ho hp r) (kT q)
  · exact go (fun t r => XS.ifNo K.at K.hx rfl (hb K.hby hd) rfl (XT.ll_ne_f (Classical.not_not.mp q)) r) (kF (Classical.not_not.mp q))
theorem k_icmp_lt (K : Wk p l e R s m args below meth c Z a0 EL n0 y bytes maxL ret b T h locs cells slots) {i j : Int32} {o : Int} {pc2 : Nat} (hd : decode bytes pc = .ok (.if_icmp .lt o, 3)) (ho : 0 ≤ (pc : Int) + o) (hp : ((pc : Int) + o).toNat = pc') (hp2 : pc + 3 = pc2) (kT : i < j → Goes p.tables e below P (T.setTop (mkF m pc' Ls st))) (kF : ¬ i < j → Goes p.tables e below P (T.setTop (mkF m pc2 Ls st))) : Goes p.tables e below P (T.setTop (mkF m pc Ls (.int j :: .int i :: st))) := by
  subst hp2
  by_cases q : i < j
  · exact go (fun t r => XS.icmpYes K.at K.hx rfl rfl (hb K.hby hd) rfl (XT.ii_lt_t q) ho hp r) (kT q)
  · exact go (fun t r => XS.icmpNo K.at K.hx rfl (hb K.hby hd) rfl (XT.ii_lt_f q) r) (kF q)
theorem k_if_lt (K : Wk p l e R s m args below meth c Z a0 EL n0 y bytes maxL ret b T h locs cells slots) {i : Int32} {o : Int} {pc2 : Nat} (hd : decode bytes pc = .ok (.ifCond .lt o, 3)) (ho : 0 ≤ (pc : Int) + o) (hp : ((pc : Int) + o).toNat = pc') (hp2 : pc + 3 = pc2) (kT : i < 0 → Goes p.tables e below P (T.setTop (mkF m pc' Ls st))) (kF : ¬ i < 0 → Goes p.tables e below P (T.setTop (mkF m pc2 Ls st))) : Goes p.tables e below P (T.setTop (mkF m pc Ls (.int i :: st))) := by
  subst hp2
  by_cases q : i < 0
  · exact go (fun t r => XS.ifYes K.at K.hx rfl rfl (hb K.hby hd) rfl (XT.i0_lt_t q) ho hp r) (kT q)
  · exact go (fun t r => XS.ifNo K.at K.hx rfl (hb K.hby hd) rfl (XT.i0_lt_f q) r) (kF q)
theorem k_lif_lt (K : Wk p l e R s m args below meth c Z a0 EL n0 y bytes maxL ret b T h locs cells slots) {i j : Int64} {o : Int} {pc2 : Nat} (hd : decode bytes pc = .ok (.ifCond .lt o, 3)) (ho : 0 ≤ (pc : Int) + o) (hp : ((pc : Int) + o).toNat = pc') (hp2 : pc + 3 = pc2) (kT : i < j → Goes p.tables e below P (T.setTop (mkF m pc' Ls st))) (kF : ¬ i < j → Goes p.tables e below P (T.setTop (mkF m pc2 Ls st))) : Goes p.tables e below P (T.setTop (mkF m pc Ls (.int (XT.cmpL i j) :: st))) := by
  subst hp2
  by_cases q : i < j
  · exact go (fun t r => XS.ifYes K.at K.hx rfl rfl (hb K.hby hd) rfl (XT.ll_lt_t q) ho hp r) (kT q)
  · exact go (fun t r => XS.ifNo K.at K.hx rfl (hb K.hby hd) rfl (XT.ll_lt_f q) r) (kF q)
theorem k_icmp_ge (K : Wk p l e R s m args below meth c Z a0 EL n0 y bytes maxL ret b T h locs cells slots) {i j : Int32} {o : Int} {pc2 : Nat} (hd : decode bytes pc = .ok (.if_icmp .ge o, 3)) (ho : 0 ≤ (pc : Int) + o) (hp : ((pc : Int) + o).toNat = pc') (hp2 : pc + 3 = pc2) (kT : ¬ i < j → Goes p.tables e below P (T.setTop (mkF m pc' Ls st))) (kF : i < j → Goes p.tables e below P (T.setTop (mkF m pc2 Ls st))) : Goes p.tables e below P (T.setTop (mkF m pc Ls (.int j :: .int i :: st))) := by
  subst hp2
  by_cases q : ¬ i < j
  · exact go (fun t r => XS.icmpYes K.at K.hx rfl rfl (hb K.hby hd) rfl (XT.ii_ge_t q) ho hp r) (kT q)
  · exact go (fun t r => XS.icmpNo K.at K.hx rfl (hb K.hby hd) rfl (XT.ii_ge_f (Classical.not_not.mp q)) r) (kF (Classical.not_not.mp q))
theorem k_if_ge (K : Wk p l e R s m args below meth c Z a0 EL n0 y bytes maxL ret b T h locs cells slots) {i : Int32} {o : Int} {pc2 : Nat} (hd : decode bytes pc = .ok (.ifCond .ge o, 3)) (ho : 0 ≤ (pc : Int) + o) (hp : ((pc : Int) + o).toNat = pc') (hp2 : pc + 3 = pc2) (kT : ¬ i < 0 → Goes p.tables e below P (T.setTop (mkF m pc' Ls st))) (kF : i < 0 → Goes p.tables e below P (T.setTop (mkF m pc2 Ls st))) : Goes p.tables e below P (T.setTop (mkF m pc Ls (.int i :: st))) := by
  subst hp2
  by_cases q : ¬ i < 0
  · exact go (fun t r => XS.ifYes K.at K.hx rfl rfl (hb K.hby hd) rfl (XT.i0_ge_t q) ho hp r) (kT q)
  · exact go (fun t r => XS.ifNo K.at K.hx rfl (hb K.hby hd) rfl (XT.i0_ge_f (Classical.not_not.mp q)) r) (kF (Classical.not_not.mp q))
theorem k_lif_ge (K : Wk p l e R s m args below meth c Z a0 EL n0 y bytes maxL ret b T h locs cells slots) {i j : Int64} {o : Int} {pc2 : Nat} (hd : decode bytes pc = .ok (.ifCond .ge o, 3)) (ho : 0 ≤ (pc : Int) + o) (hp : ((pc : Int) + o).toNat = pc') (hp2 : pc + 3 = pc2) (kT : ¬ i < j → Goes p.tables e below P (T.setTop (mkF m pc' Ls st))) (kF : i < j → Goes p.tables e below P (T.setTop (mkF m pc2 Ls st))) : Goes p.tables e below P (T.setTop (mkF m pc Ls (.int (XT.cmpL i j) :: st))) := by
  subst hp2
  by_cases q : ¬ i < j
  · exact go (fun t r => XS.ifYes K.at K.hx rfl rfl (hb K.hby hd) rfl (XT.ll_ge_t q) ho hp r) (kT q)
  · exact go (fun t r => XS.ifNo K.at K.hx rfl (hb K.hby hd) rfl (XT.ll_ge_f (Classical.not_not.mp q)) r) (kF (Classical.not_not.mp q))
theorem k_icmp_gt (K : Wk p l e R s m args below meth c Z a0 EL n0 y bytes maxL ret b T h locs cells slots) {i j : Int32} {o : Int} {pc2 : Nat} (hd : decode bytes pc = .ok (.if_icmp .gt o, 3)) (ho : 0 ≤ (pc : Int) + o) (hp : ((pc : Int) + o).toNat = pc') (hp2 : pc + 3 = pc2) (kT : j < i → Goes p.tables e below P (T.setTop (mkF m pc' Ls st))) (kF : ¬ j < i → Goes p.tables e below P (T.setTop (mkF m pc2 Ls st))) : Goes p.tables e below P (T.setTop (mkF m pc Ls (.int j :: .int i :: st))) := by
  subst hp2
  by_cases q : j < i
  · exact go (fun t r => XS.icmpYes K.at K.hx rfl rfl (hb K.hby hd) rfl (XT.ii_gt_t q) ho hp r) (kT q)
  · exact go (fun t r => XS.icmpNo K.at K.hx rfl (hb K.hby hd) rfl (XT.ii_gt_f q) r) (kF q)
theorem k_if_gt (K : Wk p l e R s m args below meth c Z a0 EL n0 y bytes maxL ret b T h locs cells slots) {i : Int32} {o : Int} {pc2 : Nat} (hd : decode bytes pc = .ok (.ifCond .gt o, 3)) (ho : 0 ≤ (pc : Int) + o) (hp : ((pc : Int) + o).toNat = pc') (hp2 : pc + 3 = pc2) (kT : 0 < i → Goes p.tables e below P (T.setTop (mkF m pc' Ls st))) (kF : ¬ 0 < i → Goes p.tables e below P (T.setTop (mkF m pc2 Ls st))) : Goes p.tables e below P (T.setTop (mkF m pc Ls (.int i :: st))) := by
  subst hp2
  by_cases q : 0 < i
  · exact go (fun t r => XS.ifYes K.at K.hx rfl rfl (hb K.hby hd) rfl (XT.i0_gt_t q) ho hp r) (kT q)
  · exact go (fun t r => XS.ifNo K.at K.hx rfl (hb K.hby hd) rfl (XT.i0_gt_f q) r) (kF q)
theorem k_lif_gt (K : Wk p l e R s m args below meth c Z a0 EL n0 y bytes maxL ret b T h locs cells slots) {i j : Int64} {o : Int} {pc2 : Nat} (hd : decode bytes pc = .ok (.ifCond .gt o, 3)) (ho : 0 ≤ (pc : Int) + o) (hp : ((pc : Int) + o).toNat = pc') (hp2 : pc + 3 = pc2) (kT : j < i → Goes p.tables e below P (T.setTop (mkF m pc' Ls st))) (kF : ¬ j < i → Goes p.tables e below P (T.setTop (mkF m pc2 Ls st))) : Goes p.tables e below P (T.setTop (mkF m pc Ls (.int (XT.cmpL i j) :: st))) := by
  subst hp2
  by_cases q : j < i
  · exact go (fun t r => XS.ifYes K.at K.hx rfl rfl (hb K.hby hd) rfl (XT.ll_gt_t q) ho hp r) (kT q)
  · exact go (fun t r => XS.ifNo K.at K.hx rfl (hb K.hby hd) rfl (XT.ll_gt_f q) r) (kF q)
theorem k_icmp_le (K : Wk p l e R s m args below meth c Z a0 EL n0 y bytes maxL ret b T h locs cells slots) {i j : Int32} {o : Int} {pc2 : Nat} (hd : decode bytes pc = .ok (.if_icmp .le o, 3)) (ho : 0 ≤ (pc : Int) + o) (hp : ((pc : Int) + o).toNat = pc') (hp2 : pc + 3 = pc2) (kT : ¬ j < i → Goes p.tables e below P (T.setTop (mkF m pc' Ls st))) (kF : j < i → Goes p.tables e below P (T.setTop (mkF m pc2 Ls st))) : Goes p.tables e below P (T.setTop (mkF m pc Ls (.int j :: .int i :: st))) := by
  subst hp2
  by_cases q : ¬ j < i
  · exact go (fun t r => XS.icmpYes K.at K.hx rfl rfl (hb K.hby hd) rfl (XT.ii_le_t q) ho hp r) (kT q)
  · exact go (fun t r => XS.icmpNo K.at K.hx rfl (hb K.hby hd) rfl (XT.ii_le_f (Classical.not_not.mp q)) r) (kF (Classical.not_not.mp q))
theorem k_if_le (K : Wk p l e R s m args below meth c Z a0 EL n0 y bytes maxL ret b T h locs cells slots) {i : Int32} {o : Int} {pc2 : Nat} (hd : decode bytes pc = .ok (.ifCond .le o, 3)) (ho : 0 ≤ (pc : Int) + o) (hp : ((pc : Int) + o).toNat = pc') (hp2 : pc + 3 = pc2) (kT : ¬ 0 < i → Goes p.tables e below P (T.setTop (mkF m pc' Ls st))) (kF : 0 < i → Goes p.tables e below P (T.setTop (mkF m pc2 Ls st))) : Goes p.tables e below P (T.setTop (mkF m pc Ls (.int i :: st))) := by
  subst hp2
  by_cases q : ¬ 0 < i
  · exact go (fun t r => XS.ifYes K.at K.hx rfl rfl (hb K.hby hd) rfl (XT.i0_le_t q) ho hp r) (kT q)
  · exact go (fun t r => XS.ifNo K.at K.hx rfl (hb K.hby hd) rfl (XT.i0_le_f (Classical.not_not.mp q)) r) (kF (Classical.not_not.mp q))
theorem k_lif_le (K : Wk p l e R s m args below meth c Z a0 EL n0 y bytes maxL ret b T h locs cells slots) {i j : Int64} {o : Int} {pc2 : Nat} (hd : decode bytes pc = .ok (.ifCond .le o, 3)) (ho : 0 ≤ (pc : Int) + o) (hp : ((pc : Int) + o).toNat = pc') (hp2 : pc + 3 = pc2) (kT : ¬ j < i → Goes p.tables e below P (T.setTop (mkF m pc' Ls st))) (kF : j < i → Goes p.tables e below P (T.setTop (mkF m pc2 Ls st))) : Goes p.tables e below P (T.setTop (mkF m pc Ls (.int (XT.cmpL i j) :: st))) := by
  subst hp2
  by_cases q : ¬ j < i
  · exact go (fun t r => XS.ifYes K.at K.hx rfl rfl (hb K.hby hd) rfl (XT.ll_le_t q) ho hp r) (kT q)
  · exact go (fun t r => XS.ifNo K.at K.hx rfl (hb K.hby hd) rfl (XT.ll_le_f (Classical.not_not.mp q)) r) (kF (Classical.not_not.mp q))
theorem k_acmp_eq (K : Wk p l e R s m args below meth c Z a0 EL n0 y bytes maxL ret b T h locs cells slots) {u v : Value} (hu : u.isRef = true) (hv : v.isRef = true) {o : Int} {pc2 : Nat} (hd : decode bytes pc = .ok (.if_acmp .eq o, 3)) (ho : 0 ≤ (pc : Int) + o) (hp : ((pc : Int) + o).toNat = pc') (hp2 : pc + 3 = pc2) (kE : u = v → Goes p.tables e below P (T.setTop (mkF m pc' Ls st))) (kN : ¬ u = v → Goes p.tables e below P (T.setTop (mkF m pc2 Ls st))) : Goes p.tables e below P (T.setTop (mkF m pc Ls (v :: u :: st))) := by
  subst hp2 hp
  by_cases q : u = v
  · exact go (fun t r => Jvm.RoadKit.acmp (g := mkF m pc Ls (v :: u :: st)) K.X K.hx rfl hu hv (pc0 := pc) (same := true) rfl (hb K.hby hd) rfl (decide_eq_true q) ho rfl r) (kE q)
  · exact go (fun t r => Jvm.RoadKit.acmp (g := mkF m pc Ls (v :: u :: st)) K.X K.hx rfl hu hv (pc0 := pc) (same := false) rfl (hb K.hby hd) rfl (decide_eq_false q) ho rfl r) (kN q)
theorem k_acmp_ne (K : Wk p l e R s m args below meth c Z a0 EL n0 y bytes maxL ret b T h locs cells slots) {u v : Value} (hu : u.isRef = true) (hv : v.isRef = true) {o : Int} {pc2 : Nat} (hd : decode bytes pc = .ok (.if_acmp .ne o, 3)) (ho : 0 ≤ (pc : Int) + o) (hp : ((pc : Int) + o).toNat = pc') (hp2 : pc + 3 = pc2) (kE : u = v → Goes p.tables e below P (T.setTop (mkF m pc2 Ls st))) (kN : ¬ u = v → Goes p.tables e below P (T.setTop (mkF m pc' Ls st))) : Goes p.tables e below P (T.setTop (mkF m pc Ls (v :: u :: st))) := by
  subst hp2 hp
  by_cases q : u = v
  · exact go (fun t r => Jvm.RoadKit.acmp (g := mkF m pc Ls (v :: u :: st)) K.X K.hx rfl hu hv (pc0 := pc) (same := true) rfl (hb K.hby hd) rfl (decide_eq_true q) ho rfl r) (kE q)
  · exact go (fun t r => Jvm.RoadKit.acmp (g := mkF m pc Ls (v :: u :: st)) K.X K.hx rfl hu hv (pc0 := pc) (same := false) rfl (hb K.hby hd) rfl (decide_eq_false q) ho rfl r) (kN q)
theorem k_ifnull (K : Wk p l e R s m args below meth c Z a0 EL n0 y bytes maxL ret b T h locs cells slots) {v : Value} (hv : v.isRef = true) {o : Int} {pc2 : Nat} (hd : decode bytes pc = .ok (.ifnull o, 3)) (ho : 0 ≤ (pc : Int) + o) (hp : ((pc : Int) + o).toNat = pc') (hp2 : pc + 3 = pc2) (kT : v = .null → Goes p.tables e below P (T.setTop (mkF m pc' Ls st))) (kF : ¬ v = .null → Goes p.tables e below P (T.setTop (mkF m pc2 Ls st))) : Goes p.tables e below P (T.setTop (mkF m pc Ls (v :: st))) := by
  subst hp2
  by_cases qn : v = .null
  · exact go (fun t r => XT.nullYes K.at K.hx rfl rfl (hb K.hby hd) rfl qn ho hp r) (kT qn)
  · exact go (fun t r => XT.nullNo K.at K.hx rfl (hb K.hby hd) rfl hv qn r) (kF qn)
theorem k_ifnonnull (K : Wk p l e R s m args below meth c Z a0 EL n0 y bytes maxL ret b T h locs cells slots) {v : Value} (hv : v.isRef = true) {o : Int} {pc2 : Nat} (hd : decode bytes pc = .ok (.ifnonnull o, 3)) (ho : 0 ≤ (pc : Int) + o) (hp : ((pc : Int) + o).toNat = pc') (hp2 : pc + 3 = pc2) (kT : ¬ v = .null → Goes p.tables e below P (T.setTop (mkF m pc' Ls st))) (kF : v = .null → Goes p.tables e below P (T.setTop (mkF m pc2 Ls st))) : Goes p.tables e below P (T.setTop (mkF m pc Ls (v :: st))) := by
  subst hp2
  by_cases qn : v = .null
  · exact go (fun t r => XT.nonnullNo K.at K.hx rfl (hb K.hby hd) rfl qn r) (kF qn)
  · exact go (fun t r => XT.nonnullYes K.at K.hx rfl rfl (hb K.hby hd) rfl hv qn ho hp r) (kT qn)
theorem k_getF (K : Wk p l e R s m args below meth c Z a0 EL n0 y bytes maxL ret b T h locs cells slots) {R0 O n d : String} {i : Nat} {a : Addr} {v : Value} (wd : (Cond.fieldLink y.cls i R0 n d).before a0 Z = true) (via : Via Z R0 O n d) (F : Fld Z h a O n d v) (hd : decode bytes pc = .ok (.getfield i, 3)) (hp : pc + 3 = pc') (k : ∀ T', Wk p l e R s m args below meth c Z a0 EL n0 y bytes maxL ret b T' h locs cells slots → Goes p.tables e below P (T'.setTop (mkF m pc' Ls (v :: st)))) : Goes p.tables e below P (T.setTop (mkF m pc Ls (.ref a :: st))) := by
  subst hp
  obtain ⟨T', X', e', q⟩ := Jvm.RoadKit.getF K.X K.hx K.hZ (host := "") K.hown (Or.inl wd) via K.eT F (g := mkF m pc Ls (.ref a :: st)) rfl rfl (hb K.hby hd)
  exact go q (k T' (K.move X' e' K.fr K.old K.bs))
theorem k_getFN (K : Wk p l e R s m args below meth c Z a0 EL n0 y bytes maxL ret b T h locs cells slots) {R0 O n d host : String} {i : Nat} {a : Addr} {v : Value} (wd : (Cond.fieldLinkNest y.cls i R0 n d host).before a0 Z = true) (via : Via Z R0 O n d) (F : Fld Z h a O n d v) (hd : decode bytes pc = .ok (.getfield i, 3)) (hp : pc + 3 = pc') (k : ∀ T', Wk p l e R s m args below meth c Z a0 EL n0 y bytes maxL ret b T' h locs cells slots → Goes p.tables e below P (T'.setTop (mkF m pc' Ls (v :: st)))) : Goes p.tables e below P (T.setTop (mkF m pc Ls (.ref a :: st))) := by
  subst hp
  obtain ⟨T', X', e', q⟩ := Jvm.RoadKit.getF K.X K.hx K.hZ K.hown (Or.inr wd) via K.eT F (g := mkF m pc Ls (.ref a :: st)) rfl rfl (hb K.hby hd)
  exact go q (k T' (K.move X' e' K.fr K.old K.bs))
theorem k_getS (K : Wk p l e R s m args below meth c Z a0 EL n0 y bytes maxL ret b T h locs cells slots) {R0 O n d : String} {i : Nat} {v : Value} (wd : (Cond.fieldLink y.cls i R0 n d).before a0 Z = true) (via : Via Z R0 O n d) (F : Sta Z Z.heap O n d v) (hd : decode bytes pc = .ok (.getstatic i, 3)) (hp : pc + 3 = pc') (k : ∀ T', Wk p l e R s m args below meth c Z a0 EL n0 y bytes maxL ret b T' h locs cells slots → Goes p.tables e below P (T'.setTop (mkF m pc' Ls (v :: st)))) : Goes p.tables e below P (T.setTop (mkF m pc Ls st)) := by
  subst hp
  obtain ⟨T', X', e', q⟩ := getS2 K.X K.hx K.hZ K.hown (host := "") (Or.inl wd) via K.eT (F.ext K.old.2) (g := mkF m pc Ls st) rfl (hb K.hby hd)
  exact go q (k T' (K.move X' e' K.fr K.old K.bs))
theorem k_getSN (K : Wk p l e R s m args below meth c Z a0 EL n0 y bytes maxL ret b T h locs cells slots) {R0 O n d host : String} {i : Nat} {v : Value} (wd : (Cond.fieldLinkNest y.cls i R0 n d host).before a0 Z = true) (via : Via Z R0 O n d) (F : Sta Z Z.heap O n d v) (hd : decode bytes pc = .ok (.getstatic i, 3)) (hp : pc + 3 = pc') (k : ∀ T', Wk p l e R s m args below meth c Z a0 EL n0 y bytes maxL ret b T' h locs cells slots → Goes p.tables e below P (T'.setTop (mkF m pc' Ls (v :: st)))) : Goes p.tables e below P (T.setTop (mkF m pc Ls st)) := by
  subst hp
  obtain ⟨T', X', e', q⟩ := getS2 K.X K.hx K.hZ K.hown (Or.inr wd) via K.eT (F.ext K.old.2) (g := mkF m pc Ls st) rfl (hb K.hby hd)
  exact go q (k T' (K.move X' e' K.fr K.old K.bs))
theorem k_castY (K : Wk p l e R s m args below meth c Z a0 EL n0 y bytes maxL ret b T h locs cells slots) {C : String} {i : Nat} {a : Addr} (wd : (Cond.classLink y.cls i C).before a0 Z = true) (F : Ins Z h a C true) (hd : decode bytes pc = .ok (.checkcast i, 3)) (hp : pc + 3 = pc') (k : ∀ T', Wk p l e R s m args below meth c Z a0 EL n0 y bytes maxL ret b T' h locs cells slots → Goes p.tables e below P (T'.setTop (mkF m pc' Ls (.ref a :: st)))) : Goes p.tables e below P (T.setTop (mkF m pc Ls (.ref a :: st))) := by
  subst hp
  obtain ⟨T', X', e', q⟩ := castY K.X K.hx K.hZ K.hown wd K.eT F (g := mkF m pc Ls (.ref a :: st)) rfl rfl (hb K.hby hd)
  exact go q (k T' (K.move X' e' K.fr K.old K.bs))
theorem k_instY (K : Wk p l e R s m args below meth c Z a0 EL n0 y bytes maxL ret b T h locs cells slots) {C : String} {i : Nat} {a : Addr} (wd : (Cond.classLink y.cls i C).before a0 Z = true) (F : Ins Z h a C true) (hd : decode bytes pc = .ok (.instanceof i, 3)) (hp : pc + 3 = pc') (k : ∀ T', Wk p l e R s m args below meth c Z a0 EL n0 y bytes maxL ret b T' h locs cells slots → Goes p.tables e below P (T'.setTop (mkF m pc' Ls (.int 1 :: st)))) : Goes p.tables e below P (T.setTop (mkF m pc Ls (.ref a :: st))) := by
  subst hp
  obtain ⟨T', X', e', q⟩ := instY K.X K.hx K.hZ K.hown wd K.eT F (g := mkF m pc Ls (.ref a :: st)) rfl rfl (hb K.hby hd)
  exact go q (k T' (K.move X' e' K.fr K.old K.bs))
theorem instN_at (X : Stand p l e R s m args below meth c T locs cells slots) (hx : p.tables.exec = Jvm.exec) (hZ : Z.Warmed39 s.vm) {own C D : String} {index : Nat} (hown : s.vm.findClass own = some m.cls) (w : (Cond.classLink own index C).before a0 Z = true) (eT : T.heap = h) {a : Addr} (F : Ins Z h a C false) (E : Exa Z h a D)
    {g : JFrame} (hg : g.method = m) {rest : List Value} (hs : g.stack = .ref a :: rest) (hd : decode c.code g.pc = .ok (.instanceof index, 3)) : ∃ T', Stand p l e R s m args below meth c T' locs cells slots ∧ T'.heap = h ∧ ∀ target, Steps p.tables e below (T'.setTop { g with pc := g.pc + 3, stack := .int 0 :: rest }) target → Steps p.tables e below (T.setTop g) target := by
  obtain ⟨cell, cT, h1, h2, h3⟩ := F
  obtain ⟨cell', k, e1, -, e3, e4, -⟩ := E
  cases h1.symm.trans e1
  obtain ⟨k', q, -⟩ := hZ.alike.2.2 _ _ e3
  obtain ⟨vm', X', st⟩ := Jvm.Sym.instanceofNoAt X hx hown (mvT hZ w) (by rw [eT]; exact h1) e4 q (by rw [hZ.alike.findClass]; exact h2) (by rw [hZ.alike.assignable]; simpa [e4] using h3) hg hs hd
  exact ⟨_, X', eT, st⟩
theorem k_instN (K : Wk p l e R s m args below meth c Z a0 EL n0 y bytes maxL ret b T h locs cells slots) {C D : String} {i : Nat} {a : Addr} (wd : (Cond.classLink y.cls i C).before a0 Z = true) (F : Ins Z h a C false) (E : Exa Z h a D) (hd : decode bytes pc = .ok (.instanceof i, 3)) (hp : pc + 3 = pc') (k : ∀ T', Wk p l e R s m args below meth c Z a0 EL n0 y bytes maxL ret b T' h locs cells slots → Goes p.tables e below P (T'.setTop (mkF m pc' Ls (.int 0 :: st)))) : Goes p.tables e below P (T.setTop (mkF m pc Ls (.ref a :: st))) := by
  subst hp
  obtain ⟨T', X', e', q⟩ := instN_at K.X K.hx K.hZ K.hown wd K.eT F E (g := mkF m pc Ls (.ref a :: st)) rfl rfl (hb K.hby hd)
  exact go q (k T' (K.move X' e' K.fr K.old K.bs))
theorem k_instNull (K : Wk p l e R s m args below meth c Z a0 EL n0 y bytes maxL ret b T h locs cells slots) {i : Nat} (hd : decode bytes pc = .ok (.instanceof i, 3)) (hp : pc + 3 = pc') (k : Goes p.tables e below P (T.setTop (mkF m pc' Ls (.int 0 :: st)))) : Goes p.tables e below P (T.setTop (mkF m pc Ls (.null :: st))) := by
  subst hp
  exact go (fun t q => K.X.instanceofNull K.hx (g := mkF m pc Ls (.null :: st)) rfl rfl (hb K.hby hd) _ q) k
theorem k_castNull (K : Wk p l e R s m args below meth c Z a0 EL n0 y bytes maxL ret b T h locs cells slots) {i : Nat} (hd : decode bytes pc = .ok (.checkcast i, 3)) (hp : pc + 3 = pc') (k : Goes p.tables e below P (T.setTop (mkF m pc' Ls (.null :: st)))) : Goes p.tables e below P (T.setTop (mkF m pc Ls (.null :: st))) := by
  subst hp
  exact go (fun t q => K.X.checkcastNull K.hx (g := mkF m pc Ls (.null :: st)) rfl rfl (hb K.hby hd) _ q) k
theorem k_iaload (K : Wk p l e R s m args below meth c Z a0 EL n0 y bytes maxL ret b T h locs cells slots) {a : Addr} {kk : ClassId} {z j : Int32} {vs : List Value} {dv : Value} {v : Int32} (F : Arv Z h a kk .int z vs dv) (hj : ¬ j < 0 ∧ j < z) (hv : vs.getD j.toNatClampNeg dv = .int v) (hd : decode bytes pc = .ok (.iaload, 1)) (hp : pc + 1 = pc') (k : Goes p.tables e below P (T.setTop (mkF m pc' Ls (.int v :: st)))) : Goes p.tables e below P (T.setTop (mkF m pc Ls (.int j :: .ref a :: st))) := by
  subst hp
  obtain ⟨cl, Ar, -, S, -, H, -⟩ := F
  exact go (fun t q => K.X.iaload K.hx (j := j) (v := .int v) (by rw [K.eT]; exact Ar.1) (State.isArrayOf_alike K.hZ.alike Ar.2.1) Ar.2.2 (inb_of S hj) (H.at (inb_of S hj) hv) (g := mkF m pc Ls (.int j :: .ref a :: st)) rfl rfl (hb K.hby hd) _ q) k
theorem k_caload (K : Wk p l e R s m args below meth c Z a0 EL n0 y bytes maxL ret b T h locs cells slots) {a : Addr} {kk : ClassId} {z j : Int32} {vs : List Value} {dv : Value} {v : Int32} (F : Arv Z h a kk .char z vs dv) (hj : ¬ j < 0 ∧ j < z) (hv : vs.getD j.toNatClampNeg dv = .int v) (hd : decode bytes pc = .ok (.caload, 1)) (hp : pc + 1 = pc') (k : Goes p.tables e below P (T.setTop (mkF m pc' Ls (.int v :: st)))) : Goes p.tables e below P (T.setTop (mkF m pc Ls (.int j :: .ref a :: st))) := by
  subst hp
  obtain ⟨cl, Ar, -, S, -, H, -⟩ := F
  exact go (fun t q => K.X.caload K.hx (j := j) (v := .int v) (by rw [K.eT]; exact Ar.1) (State.isArrayOf_alike K.hZ.alike Ar.2.1) Ar.2.2 (inb_of S hj) (H.at (inb_of S hj) hv) (g := mkF m pc Ls (.int j :: .ref a :: st)) rfl rfl (hb K.hby hd) _ q) k
theorem k_baload (K : Wk p l e R s m args below meth c Z a0 EL n0 y bytes maxL ret b T h locs cells slots) {a : Addr} {kk : ClassId} {z j : Int32} {vs : List Value} {dv : Value} {v : Int32} (F : Arv Z h a kk .byte z vs dv) (hj : ¬ j < 0 ∧ j < z) (hv : vs.getD j.toNatClampNeg dv = .int v) (hd : decode bytes pc = .ok (.baload, 1)) (hp : pc + 1 = pc') (k : Goes p.tables e below P (T.setTop (mkF m pc' Ls (.int v :: st)))) : Goes p.tables e below P (T.setTop (mkF m pc Ls (.int j :: .ref a :: st))) := by
  subst hp
  obtain ⟨cl, Ar, -, S, -, H, -⟩ := F
  exact go (fun t q => K.X.baloadBytes K.hx (j := j) (v := .int v) (by rw [K.eT]; exact Ar.1) (State.isArrayOf_alike K.hZ.alike Ar.2.1) Ar.2.2 (inb_of S hj) (H.at (inb_of S hj) hv) (g := mkF m pc Ls (.int j :: .ref a :: st)) rfl rfl (hb K.hby hd) _ q) k
theorem k_laload (K : Wk p l e R s m args below meth c Z a0 EL n0 y bytes maxL ret b T h locs cells slots) {a : Addr} {kk : ClassId} {z j : Int32} {vs : List Value} {dv : Value} {v : Int64} (F : Arv Z h a kk .long z vs dv) (hj : ¬ j < 0 ∧ j < z) (hv : vs.getD j.toNatClampNeg dv = .long v) (hd : decode bytes pc = .ok (.laload, 1)) (hp : pc + 1 = pc') (k : Goes p.tables e below P (T.setTop (mkF m pc' Ls (.long v :: st)))) : Goes p.tables e below P (T.setTop (mkF m pc Ls (.int j :: .ref a :: st))) := by
  subst hp
  obtain ⟨cl, Ar, -, S, -, H, -⟩ := F
  exact go (fun t q => K.X.laload K.hx (j := j) (v := .long v) (by rw [K.eT]; exact Ar.1) (State.isArrayOf_alike K.hZ.alike Ar.2.1) Ar.2.2 (inb_of S hj) (H.at (inb_of S hj) hv) (g := mkF m pc Ls (.int j :: .ref a :: st)) rfl rfl (hb K.hby hd) _ q) k
theorem k_aaload (K : Wk p l e R s m args below meth c Z a0 EL n0 y bytes maxL ret b T h locs cells slots) {a : Addr} {kk : ClassId} {ty : FieldType} {z j : Int32} {vs : List Value} {dv v : Value} (F : Arv Z h a kk ty z vs dv) (hty : ty.isReference = true) (hj : ¬ j < 0 ∧ j < z) (hv : vs.getD j.toNatClampNeg dv = v) (hd : decode bytes pc = .ok (.aaload, 1)) (hp : pc + 1 = pc') (k : Goes p.tables e below P (T.setTop (mkF m pc' Ls (v :: st)))) : Goes p.tables e below P (T.setTop (mkF m pc Ls (.int j :: .ref a :: st))) := by
  subst hp
  obtain ⟨cl, Ar, -, S, -, H, -⟩ := F
  exact go (fun t q => K.X.aaload K.hx (j := j) (v := v) (by rw [K.eT]; exact Ar.1) (State.isArrayOf_alike K.hZ.alike Ar.2.1) hty Ar.2.2 (inb_of S hj) (H.at (inb_of S hj) hv) (g := mkF m pc Ls (.int j :: .ref a :: st)) rfl rfl (hb K.hby hd) _ q) k
theorem k_len (K : Wk p l e R s m args below meth c Z a0 EL n0 y bytes maxL ret b T h locs cells slots) {a : Addr} {kk : ClassId} {ty : FieldType} {z : Int32} {vs : List Value} {dv : Value} (F : Arv Z h a kk ty z vs dv) (hd : decode bytes pc = .ok (.arraylength, 1)) (hp : pc + 1 = pc') (k : Goes p.tables e below P (T.setTop (mkF m pc' Ls (.int z :: st)))) : Goes p.tables e below P (T.setTop (mkF m pc Ls (.ref a :: st))) := by
  subst hp
  obtain ⟨cl, Ar, -, S, N, -, -⟩ := F
  refine go (fun t q => K.X.arraylength K.hx (by rw [K.eT]; exact Ar.1) (State.isArrayOf_alike K.hZ.alike Ar.2.1) (g := mkF m pc Ls (.ref a :: st)) rfl rfl (hb K.hby hd) _ (by rw [len_of S N]; exact q)) k
theorem bs_ext (K : Wk p l e R s m args below meth c Z a0 EL n0 y bytes maxL ret b T h locs cells slots) {h' : Heap} (E : Ext h h') : Bs Z a0 EL s b h' := by
  obtain ⟨⟨vm0, k0, e1, e2, e3⟩, e4, e5⟩ := K.bs
  exact ⟨⟨vm0, k0, e1, e2, Nat.le_trans e3 E.1⟩, e4.trans (CHr.ext E e4.1), e5⟩
theorem bs_wr (K : Wk p l e R s m args below meth c Z a0 EL n0 y bytes maxL ret b T h locs cells slots) {h' : Heap} {a : Addr} {sl : Nat} {v : Value} (W : Wr h h' a sl v) (sf : Sfe Z EL b.vm h a) : Bs Z a0 EL s b h' := by
  obtain ⟨⟨vm0, k0, e1, e2, e3⟩, e4, e5⟩ := K.bs
  exact ⟨⟨vm0, k0, e1, e2, by rw [W.size]; exact e3⟩, e4.trans (CHr.wr W sf e4.1), e5⟩
theorem sfe_ext (K : Wk p l e R s m args below meth c Z a0 EL n0 y bytes maxL ret b T h locs cells slots) {h' : Heap} (E : Ext h h') (x : Addr) (_ : x < h.size) (q : Sfe Z EL b.vm h x) : Sfe Z EL b.vm h' x := Safe.ext E K.bs.2.1.1 q
theorem sfe_wr (K : Wk p l e R s m args below meth c Z a0 EL n0 y bytes maxL ret b T h locs cells slots) {h' : Heap} {a : Addr} {sl : Nat} {v : Value} (W : Wr h h' a sl v) (sf : Sfe Z EL b.vm h a) (x : Addr) (_ : x < h.size) (q : Sfe Z EL b.vm h x) : Sfe Z EL b.vm h' x := Safe.wr W sf K.bs.2.1.1 q
theorem sfe_ext_new (K : Wk p l e R s m args below meth c Z a0 EL n0 y bytes maxL ret b T h locs cells slots) {h' : Heap} (E : Ext h h') : Sfe Z EL b.vm h' h.size := fun B => sfe_new (Nat.le_refl _) ((CHv.step K.bs.2.1.1 fun _ _ _ q => E.2 _ _ q).2 _ B)
theorem k_new (K : Wk p l e R s m args below meth c Z a0 EL n0 y bytes maxL ret b T h locs cells slots) {C : String} {i n : Nat} (wl : (Cond.classLink y.cls i C).before a0 Z = true) (wi : (Cond.instantiable C n).before a0 Z = true) (wz : (Cond.initialized C).before a0 Z = true) (hd : decode bytes pc = .ok (.new i, 3)) (hp : pc + 3 = pc') (hce : cells + 1 ≤ R.cells) (hsl : slots + n ≤ R.slots) (k : ∀ T' h' a, a = h.size → Wk p l e R s m args below meth c Z a0 EL n0 y bytes maxL ret b T' h' locs (cells + 1) (slots + n) → Ext h h' → (∀ x, x < h.size → Sfe Z EL b.vm h x → Sfe Z EL b.vm h' x) → Sfe Z EL b.vm h' a → Exa Z h' a C → (∀ {O nm d : String} {ty : FieldType}, Laid Z a0 C O nm d → parseFieldDescriptor d = some ty → Fld Z h' a O nm d (defaultValue ty)) → Unt h' a → Goes p.tables e below P (T'.setTop (mkF m pc' Ls (.ref a :: st)))) : Goes p.tables e below P (T.setTop (mkF m pc Ls st)) := by
  subst hp
  obtain ⟨T', h', X', e', E', A', D', U', q⟩ := newO K.X K.hx K.hZ K.hown wl wi wz K.eT (g := mkF m pc Ls st) rfl (hb K.hby hd) hce hsl
  exact go q (k T' h' _ rfl (K.move X' e' K.fr (K.old.ext E') (bs_ext K E')) E' (sfe_ext K E') (sfe_ext_new K E') A' D' U')
theorem k_putF (K : Wk p l e R s m args below meth c Z a0 EL n0 y bytes maxL ret b T h locs cells slots) {R0 O n d C : String} {i kk : Nat} {ty : FieldType} {a : Addr} {v old : Value} (wd : (Cond.fieldLink y.cls i R0 n d).before a0 Z = true) (via : Via Z R0 O n d) (F : Fld Z h a O n d old) (E : Exa Z h a C) (L : (Cond.lays C O n d).before a0 Z = true ∨ ((Cond.laysFinal C O n d).before a0 Z = true ∧ y.cls = O ∧ y.name = "<init>")) (wi : (Cond.instantiable C kk).before a0 Z = true) (hty : parseFieldDescriptor d = some ty) (hn : narrow ty v = v) (hf : fits ty v = true) (ga : n0 ≤ a) (sf : Sfe Z EL b.vm h a) (hd : decode bytes pc = .ok (.putfield i, 3)) (hp : pc + 3 = pc') (k : ∀ T' h', Wk p l e R s m args below meth c Z a0 EL n0 y bytes maxL ret b T' h' (locs ++ [⟨a, Jvm.RoadKit.slotOf Z O n d⟩]) cells slots → Wr h h' a (Jvm.RoadKit.slotOf Z O n d) v → (∀ x, x < h.size → Sfe Z EL b.vm h x → Sfe Z EL b.vm h' x) → Goes p.tables e below P (T'.setTop (mkF m pc' Ls st))) : Goes p.tables e below P (T.setTop (mkF m pc Ls (v :: .ref a :: st))) := by
  subst hp
  obtain ⟨T', h', X', e', W', q⟩ := putF K.X K.hx K.hZ (host := "") K.hown (Or.inl wd) via K.eT F E (L.imp id fun ⟨q1, q2, q3⟩ => ⟨q1, q2, K.hnm.trans q3⟩) wi hty hn hf (g := mkF m pc Ls (v :: .ref a :: st)) rfl rfl (hb K.hby hd)
  exact go q (k T' h' (K.move X' e' (Fr.snoc X' K.fr ga) (K.old.wr W' ga) (bs_wr K W' sf)) W' (sfe_wr K W' sf))
theorem k_putFH (K : Wk p l e R s m args below meth c Z a0 EL n0 y bytes maxL ret b T h locs cells slots) {R0 O n d C host : String} {i kk : Nat} {ty : FieldType} {a : Addr} {v old : Value} (wd : (Cond.fieldLinkNest y.cls i R0 n d host).before a0 Z = true) (via : Via Z R0 O n d) (F : Fld Z h a O n d old) (E : Exa Z h a C) (L : (Cond.lays C O n d).before a0 Z = true ∨ ((Cond.laysFinal C O n d).before a0 Z = true ∧ y.cls = O ∧ y.name = "<init>")) (wi : (Cond.instantiable C kk).before a0 Z = true) (hty : parseFieldDescriptor d = some ty) (hn : narrow ty v = v) (hf : fits ty v = true) (ga : n0 ≤ a) (sf : Sfe Z EL b.vm h a) (hd : decode bytes pc = .ok (.putfield i, 3)) (hp : pc + 3 = pc') (k : ∀ T' h', Wk p l e R s m args below meth c Z a0 EL n0 y bytes maxL ret b T' h' (locs ++ [⟨a, Jvm.RoadKit.slotOf Z O n d⟩]) cells slots → Wr h h' a (Jvm.RoadKit.slotOf Z O n d) v → (∀ x, x < h.size → Sfe Z EL b.vm h x → Sfe Z EL b.vm h' x) → Goes p.tables e below P (T'.setTop (mkF m pc' Ls st))) : Goes p.tables e below P (T.setTop (mkF m pc Ls (v :: .ref a :: st))) := by
  subst hp
  obtain ⟨T', h', X', e', W', q⟩ := putF K.X K.hx K.hZ K.hown (Or.inr wd) via K.eT F E (L.imp id fun ⟨q1, q2, q3⟩ => ⟨q1, q2, K.hnm.trans q3⟩) wi hty hn hf (g := mkF m pc Ls (v :: .ref a :: st)) rfl rfl (hb K.hby hd)
  exact go q (k T' h' (K.move X' e' (Fr.snoc X' K.fr ga) (K.old.wr W' ga) (bs_wr K W' sf)) W' (sfe_wr K W' sf))
theorem k_putFN (K : Wk p l e R s m args below meth c Z a0 EL n0 y bytes maxL ret b T h locs cells slots) {R0 O n d C : String} {i kk : Nat} {ty : FieldType} {a : Addr} {v v' old : Value} (wd : (Cond.fieldLink y.cls i R0 n d).before a0 Z = true) (via : Via Z R0 O n d) (F : Fld Z h a O n d old) (E : Exa Z h a C) (L : (Cond.lays C O n d).before a0 Z = true ∨ ((Cond.laysFinal C O n d).before a0 Z = true ∧ y.cls = O ∧ y.name = "<init>")) (wi : (Cond.instantiable C kk).before a0 Z = true) (hty : parseFieldDescriptor d = some ty) (hn : narrow ty v = v') (hf : fits ty v' = true) (ga : n0 ≤ a) (sf : Sfe Z EL b.vm h a) (hd : decode bytes pc = .ok (.putfield i, 3)) (hp : pc + 3 = pc') (k : ∀ T' h', Wk p l e R s m args below meth c Z a0 EL n0 y bytes maxL ret b T' h' (locs ++ [⟨a, Jvm.RoadKit.slotOf Z O n d⟩]) cells slots → Wr h h' a (Jvm.RoadKit.slotOf Z O n d) v' → (∀ x, x < h.size → Sfe Z EL b.vm h x → Sfe Z EL b.vm h' x) → Goes p.tables e below P (T'.setTop (mkF m pc' Ls st))) : Goes p.tables e below P (T.setTop (mkF m pc Ls (v :: .ref a :: st))) := by
  subst hp
  obtain ⟨T', h', X', e', W', q⟩ := putFN K.X K.hx K.hZ K.hown wd via K.eT F E (L.imp id fun ⟨q1, q2, q3⟩ => ⟨q1, q2, K.hnm.trans q3⟩) wi hty hn hf (g := mkF m pc Ls (v :: .ref a :: st)) rfl rfl (hb K.hby hd)
  exact go q (k T' h' (K.move X' e' (Fr.snoc X' K.fr ga) (K.old.wr W' ga) (bs_wr K W' sf)) W' (sfe_wr K W' sf))
theorem k_newarray (K : Wk p l e R s m args below meth c Z a0 EL n0 y bytes maxL ret b T h locs cells slots) {aty : ArrayType} {z : Int32} (wa : (Cond.arrayClass (newarray.typeOf aty)).before a0 Z = true) (hz : ¬ z < 0) {cap : Nat} (hcap : z.toNatClampNeg ≤ cap) (hbig : cap * 8 ≤ 536870912) (hd : decode bytes pc = .ok (.newarray aty, 2)) (hp : pc + 2 = pc') (hce : cells + 1 ≤ R.cells) (hsl : slots + cap ≤ R.slots) (k : ∀ T' h' a kk, a = h.size → Wk p l e R s m args below meth c Z a0 EL n0 y bytes maxL ret b T' h' locs (cells + 1) (slots + cap) → Ext h h' → (∀ x, x < h.size → Sfe Z EL b.vm h x → Sfe Z EL b.vm h' x) → Sfe Z EL b.vm h' a → Arv Z h' a kk (newarray.typeOf aty) z [] (defaultValue (newarray.typeOf aty)) → Goes p.tables e below P (T'.setTop (mkF m pc' Ls (.ref a :: st)))) : Goes p.tables e below P (T.setTop (mkF m pc Ls (.int z :: st))) := by
  subst hp
  obtain ⟨T', h', kk, X', e', E', A', q⟩ := newP K.X K.hx K.hZ wa K.eT (g := mkF m pc Ls (.int z :: st)) rfl (hb K.hby hd) rfl hz hcap hbig hce hsl
  exact go q (k T' h' _ kk rfl (K.move X' e' K.fr (K.old.ext E') (bs_ext K E')) E' (sfe_ext K E') (sfe_ext_new K E') (Arv.new A' hz))
theorem k_anewarray (K : Wk p l e R s m args below meth c Z a0 EL n0 y bytes maxL ret b T h locs cells slots) {C : String} {i : Nat} {z : Int32} (wl : (Cond.classLink y.cls i C).before a0 Z = true) (wa : (Cond.arrayOver (.object C)).before a0 Z = true) (hz : ¬ z < 0) {cap : Nat} (hcap : z.toNatClampNeg ≤ cap) (hbig : cap * 8 ≤ 536870912) (hd : decode bytes pc = .ok (.anewarray i, 3)) (hp : pc + 3 = pc') (hce : cells + 1 ≤ R.cells) (hsl : slots + cap ≤ R.slots) (k : ∀ T' h' a kk, a = h.size → Wk p l e R s m args below meth c Z a0 EL n0 y bytes maxL ret b T' h' locs (cells + 1) (slots + cap) → Ext h h' → (∀ x, x < h.size → Sfe Z EL b.vm h x → Sfe Z EL b.vm h' x) → Sfe Z EL b.vm h' a → Arv Z h' a kk (.object C) z [] .null → Ovr Z kk C → Goes p.tables e below P (T'.setTop (mkF m pc' Ls (.ref a :: st)))) : Goes p.tables e below P (T.setTop (mkF m pc Ls (.int z :: st))) := by
  subst hp
  obtain ⟨T', h', kk, X', e', E', A', O', q⟩ := newR K.X K.hx K.hZ K.hown wl wa K.eT (g := mkF m pc Ls (.int z :: st)) rfl (hb K.hby hd) rfl hz hcap hbig hce hsl
  exact go q (k T' h' _ kk rfl (K.move X' e' K.fr (K.old.ext E') (bs_ext K E')) E' (sfe_ext K E') (sfe_ext_new K E') (Arv.new A' hz) O')
theorem k_iastore (K : Wk p l e R s m args below meth c Z a0 EL n0 y bytes maxL ret b T h locs cells slots) {a : Addr} {kk : ClassId} {z j : Int32} {vs : List Value} {dv : Value} {v : Int32} (F : Arv Z h a kk .int z vs dv) (hj : ¬ j < 0 ∧ j < z) (hlen : j.toNatClampNeg < vs.length) (ga : n0 ≤ a) (sf : Sfe Z EL b.vm h a) (hd : decode bytes pc = .ok (.iastore, 1)) (hp : pc + 1 = pc') (k : ∀ T' h', Wk p l e R s m args below meth c Z a0 EL n0 y bytes maxL ret b T' h' (locs ++ [⟨a, j.toNatClampNeg⟩]) cells slots → Wr h h' a j.toNatClampNeg (.int v) → (∀ x, x < h.size → Sfe Z EL b.vm h x → Sfe Z EL b.vm h' x) → Arv Z h' a kk .int z (vs.set j.toNatClampNeg (.int v)) dv → Goes p.tables e below P (T'.setTop (mkF m pc' Ls st))) : Goes p.tables e below P (T.setTop (mkF m pc Ls (.int v :: .int j :: .ref a :: st))) := by
  subst hp
  obtain ⟨cl, Ar, q1, S, N, H, G⟩ := F
  obtain ⟨T', h', X', e', W', q⟩ := stI K.X K.hx K.hZ K.eT Ar (j := j) (inb_of S hj) (g := mkF m pc Ls (.int v :: .int j :: .ref a :: st)) rfl rfl (hb K.hby hd)
  exact go q (k T' h' (K.move X' e' (Fr.snoc X' K.fr ga) (K.old.wr W' ga) (bs_wr K W' sf)) W' (sfe_wr K W' sf) (Arv.set Ar q1 S N H G rfl W' _ rfl hlen))
theorem k_castore (K : Wk p l e R s m args below meth c Z a0 EL n0 y bytes maxL ret b T h locs cells slots) {a : Addr} {kk : ClassId} {z j : Int32} {vs : List Value} {dv : Value} {v : Int32} (F : Arv Z h a kk .char z vs dv) (hj : ¬ j < 0 ∧ j < z) (hlen : j.toNatClampNeg < vs.length) (ga : n0 ≤ a) (sf : Sfe Z EL b.vm h a) (hd : decode bytes pc = .ok (.castore, 1)) (hp : pc + 1 = pc') (k : ∀ T' h', Wk p l e R s m args below meth c Z a0 EL n0 y bytes maxL ret b T' h' (locs ++ [⟨a, j.toNatClampNeg⟩]) cells slots → Wr h h' a j.toNatClampNeg (.int (nar .char v)) → (∀ x, x < h.size → Sfe Z EL b.vm h x → Sfe Z EL b.vm h' x) → Arv Z h' a kk .char z (vs.set j.toNatClampNeg (.int (nar .char v))) dv → Goes p.tables e below P (T'.setTop (mkF m pc' Ls st))) : Goes p.tables e below P (T.setTop (mkF m pc Ls (.int v :: .int j :: .ref a :: st))) := by
  subst hp
  obtain ⟨cl, Ar, q1, S, N, H, G⟩ := F
  obtain ⟨T', h', X', e', W', q⟩ := stC K.X K.hx K.hZ K.eT Ar (j := j) (inb_of S hj) (g := mkF m pc Ls (.int v :: .int j :: .ref a :: st)) rfl rfl (hb K.hby hd)
  exact go q (k T' h' (K.move X' e' (Fr.snoc X' K.fr ga) (K.old.wr W' ga) (bs_wr K W' sf)) W' (sfe_wr K W' sf) (Arv.set Ar q1 S N H G (fits_nar_char _) W' _ rfl hlen))
theorem k_bastore (K : Wk p l e R s m args below meth c Z a0 EL n0 y bytes maxL ret b T h locs cells slots) {a : Addr} {kk : ClassId} {z j : Int32} {vs : List Value} {dv : Value} {v : Int32} (F : Arv Z h a kk .byte z vs dv) (hj : ¬ j < 0 ∧ j < z) (hlen : j.toNatClampNeg < vs.length) (ga : n0 ≤ a) (sf : Sfe Z EL b.vm h a) (hd : decode bytes pc = .ok (.bastore, 1)) (hp : pc + 1 = pc') (k : ∀ T' h', Wk p l e R s m args below meth c Z a0 EL n0 y bytes maxL ret b T' h' (locs ++ [⟨a, j.toNatClampNeg⟩]) cells slots → Wr h h' a j.toNatClampNeg (.int (nar .byte v)) → (∀ x, x < h.size → Sfe Z EL b.vm h x → Sfe Z EL b.vm h' x) → Arv Z h' a kk .byte z (vs.set j.toNatClampNeg (.int (nar .byte v))) dv → Goes p.tables e below P (T'.setTop (mkF m pc' Ls st))) : Goes p.tables e below P (T.setTop (mkF m pc Ls (.int v :: .int j :: .ref a :: st))) := by
  subst hp
  obtain ⟨cl, Ar, q1, S, N, H, G⟩ := F
  obtain ⟨T', h', X', e', W', q⟩ := stB K.X K.hx K.hZ K.eT Ar (j := j) (inb_of S hj) (g := mkF m pc Ls (.int v :: .int j :: .ref a :: st)) rfl rfl (hb K.hby hd)
  exact go q (k T' h' (K.move X' e' (Fr.snoc X' K.fr ga) (K.old.wr W' ga) (bs_wr K W' sf)) W' (sfe_wr K W' sf) (Arv.set Ar q1 S N H G (fits_nar_byte _) W' _ rfl hlen))
theorem k_lastore (K : Wk p l e R s m args below meth c Z a0 EL n0 y bytes maxL ret b T h locs cells slots) {a : Addr} {kk : ClassId} {z j : Int32} {vs : List Value} {dv : Value} {v : Int64} (F : Arv Z h a kk .long z vs dv) (hj : ¬ j < 0 ∧ j < z) (hlen : j.toNatClampNeg < vs.length) (ga : n0 ≤ a) (sf : Sfe Z EL b.vm h a) (hd : decode bytes pc = .ok (.lastore, 1)) (hp : pc + 1 = pc') (k : ∀ T' h', Wk p l e R s m args below meth c Z a0 EL n0 y bytes maxL ret b T' h' (locs ++ [⟨a, j.toNatClampNeg⟩]) cells slots → Wr h h' a j.toNatClampNeg (.long v) → (∀ x, x < h.size → Sfe Z EL b.vm h x → Sfe Z EL b.vm h' x) → Arv Z h' a kk .long z (vs.set j.toNatClampNeg (.long v)) dv → Goes p.tables e below P (T'.setTop (mkF m pc' Ls st))) : Goes p.tables e below P (T.setTop (mkF m pc Ls (.long v :: .int j :: .ref a :: st))) := by
  subst hp
  obtain ⟨cl, Ar, q1, S, N, H, G⟩ := F
  obtain ⟨T', h', X', e', W', q⟩ := stJ K.X K.hx K.hZ K.eT Ar (j := j) (inb_of S hj) (g := mkF m pc Ls (.long v :: .int j :: .ref a :: st)) rfl rfl (hb K.hby hd)
  exact go q (k T' h' (K.move X' e' (Fr.snoc X' K.fr ga) (K.old.wr W' ga) (bs_wr K W' sf)) W' (sfe_wr K W' sf) (Arv.set Ar q1 S N H G rfl W' _ rfl hlen))
theorem k_aastore (K : Wk p l e R s m args below meth c Z a0 EL n0 y bytes maxL ret b T h locs cells slots) {a : Addr} {kk : ClassId} {ty : FieldType} {z j : Int32} {vs : List Value} {dv v : Value} (F : Arv Z h a kk ty z vs dv) (hty : ty.isReference = true) (hs : Sto Z h a v) (hfit : fits ty v = true) (hj : ¬ j < 0 ∧ j < z) (hlen : j.toNatClampNeg < vs.length) (ga : n0 ≤ a) (sf : Sfe Z EL b.vm h a) (hd : decode bytes pc = .ok (.aastore, 1)) (hp : pc + 1 = pc') (k : ∀ T' h', Wk p l e R s m args below meth c Z a0 EL n0 y bytes maxL ret b T' h' (locs ++ [⟨a, j.toNatClampNeg⟩]) cells slots → Wr h h' a j.toNatClampNeg v → (∀ x, x < h.size → Sfe Z EL b.vm h x → Sfe Z EL b.vm h' x) → Arv Z h' a kk ty z (vs.set j.toNatClampNeg v) dv → Goes p.tables e below P (T'.setTop (mkF m pc' Ls st))) : Goes p.tables e below P (T.setTop (mkF m pc Ls (v :: .int j :: .ref a :: st))) := by
  subst hp
  obtain ⟨cl, Ar, q1, S, N, H, G⟩ := F
  obtain ⟨T', h', X', e', W', q⟩ := stR K.X K.hx K.hZ K.eT Ar (j := j) (inb_of S hj) hty hs (g := mkF m pc Ls (v :: .int j :: .ref a :: st)) rfl rfl (hb K.hby hd)
  exact go q (k T' h' (K.move X' e' (Fr.snoc X' K.fr ga) (K.old.wr W' ga) (bs_wr K W' sf)) W' (sfe_wr K W' sf) (Arv.set Ar q1 S N H G hfit W' _ rfl hlen))
theorem k_clone (K : Wk p l e R s m args below meth c Z a0 EL n0 y bytes maxL ret b T h locs cells slots) {i : Nat} {ad : String} {a : Addr} {kk : ClassId} {ty : FieldType} {z : Int32} {vs : List Value} {dv : Value} (w1 : (Cond.methodLink y.cls i ⟨ad, "clone", "()Ljava/lang/Object;"⟩).before a0 Z = true) (w2 : (Cond.sameMethod ad "java/lang/Object" "clone" "()Ljava/lang/Object;").before a0 Z = true) (w3 : (Cond.native ⟨"java/lang/Object", "clone", "()Ljava/lang/Object;"⟩).before a0 Z = true) (w4 : (Cond.instanceMethod ⟨"java/lang/Object", "clone", "()Ljava/lang/Object;"⟩).before a0 Z = true) (w5 : (Cond.selects ad ⟨ad, "clone", "()Ljava/lang/Object;"⟩ ⟨"java/lang/Object", "clone", "()Ljava/lang/Object;"⟩).before a0 Z = true) (w6 : (Cond.castable ad "java/lang/Cloneable").before a0 Z = true) (F : Arv Z Z.heap a kk ty z vs dv) (E : Exa Z Z.heap a ad) (hfit : Fit Z) (hd : decode bytes pc = .ok (.invokevirtual i, 3)) (hp : pc + 3 = pc') (hsz : Ls.size = maxL) (hfr : 1 ≤ R.frames) (W : Nat) (hW : (st.map fun v => v.category).sum ≤ W) (hlo : W + 14 ≤ R.locals) {cap : Nat} (hcap : z.toNatClampNeg ≤ cap) (hce : cells + 1 ≤ R.cells) (hsl : slots + cap ≤ R.slots) (k : ∀ T' h' a', a' = h.size → Wk p l e R s m args below meth c Z a0 EL n0 y bytes maxL ret b T' h' locs (cells + 1) (slots + cap) → Ext h h' → (∀ x, x < h.size → Sfe Z EL b.vm h x → Sfe Z EL b.vm h' x) → Sfe Z EL b.vm h' a' → Arv Z h' a' kk ty z vs dv → Exa Z h' a' ad → Goes p.tables e below P (T'.setTop (mkF m pc' Ls (.ref a' :: st)))) : Goes p.tables e below P (T.setTop (mkF m pc Ls (.ref a :: st))) := by
  subst hp
  obtain ⟨cl, Ar, q1, S, N, H, G⟩ := F
  obtain ⟨T', h', X', e', E', A', D', q⟩ := cloneA K.X K.hx K.hZ K.hown w1 w2 w3 w4 w5 w6 K.eT (Ar.ext K.old.2) (E.ext K.old.2) (FitC.start hfit Ar) (g := mkF m pc Ls (.ref a :: st)) rfl (hsz.trans K.hml.symm) rfl (hb K.hby hd) hfr (W := W) (cap := cap) (by show 2 * 0 + _ ≤ _; rw [Nat.mul_zero, Nat.zero_add]; exact hW) hlo (by rw [S]; exact hcap) hce hsl
  exact go q (k T' h' _ rfl (K.move X' e' K.fr (K.old.ext E') (bs_ext K E')) E' (sfe_ext K E') (sfe_ext_new K E') ⟨_, A', q1, S, N, H, G⟩ D')
theorem bs_keep (K : Wk p l e R s m args below meth c Z a0 EL n0 y bytes maxL ret b T h locs cells slots) {h' : Heap} {da : Addr} (KQ : Keep h h' [da]) (sf : Sfe Z EL b.vm h da) : Bs Z a0 EL s b h' := by
  obtain ⟨⟨vm0, k0, e1, e2, e3⟩, e4, e5⟩ := K.bs
  exact ⟨⟨vm0, k0, e1, e2, Nat.le_trans e3 KQ.1⟩, e4.trans (CHr.keep KQ (allS sf all0) e4.1), e5⟩
theorem sfe_keep (K : Wk p l e R s m args below meth c Z a0 EL n0 y bytes maxL ret b T h locs cells slots) {h' : Heap} {da : Addr} (KQ : Keep h h' [da]) (sf : Sfe Z EL b.vm h da) (x : Addr) (_ : x < h.size) (q : Sfe Z EL b.vm h x) : Sfe Z EL b.vm h' x := Safe.keep KQ (allS sf all0) K.bs.2.1.1 q
theorem k_arraycopy (K : Wk p l e R s m args below meth c Z a0 EL n0 y bytes maxL ret b T h locs cells slots) {i : Nat} {sa da : Addr} {ks kd : ClassId} {ty : FieldType} {zs zd sp dp nn : Int32} {vs vd us : List Value} {dv dd : Value} (wl : (Cond.methodLink y.cls i Jvm.Stand.acN).before a0 Z = true) (wn : (Cond.native Jvm.Stand.acN).before a0 Z = true) (wt : (Cond.static Jvm.Stand.acN).before a0 Z = true) (wz : (Cond.initialized "java/lang/System").before a0 Z = true) (A : Arv Z h sa ks ty zs vs dv) (B : Arv Z h da kd ty zd vd dd) (hty : refKind ty = false) (h1 : ¬ sp < 0) (h2 : ¬ dp < 0) (h3 : ¬ nn < 0) (h4 : sp.toNatClampNeg + nn.toNatClampNeg ≤ zs.toNatClampNeg) (h5 : dp.toNatClampNeg + nn.toNatClampNeg ≤ zd.toNatClampNeg) (hus : us = (List.range nn.toNatClampNeg).map fun i => vs.getD (sp.toNatClampNeg + i) dv) (hl : dp.toNatClampNeg + nn.toNatClampNeg ≤ vd.length) (ga : n0 ≤ da) (sf : Sfe Z EL b.vm h da) (hd : decode bytes pc = .ok (.invokestatic i, 3)) (hp : pc + 3 = pc') (hsz : Ls.size = maxL) (hfr : 1 ≤ R.frames) (W : Nat) (hW : (st.map fun v => v.category).sum ≤ W) (hlo : W + 18 ≤ R.locals) (k : ∀ T' h' locs', Wk p l e R s m args below meth c Z a0 EL n0 y bytes maxL ret b T' h' locs' cells slots → Keep h h' [da] → (∀ x, x < h.size → Sfe Z EL b.vm h x → Sfe Z EL b.vm h' x) → Arv Z h' da kd ty zd (vd.take dp.toNatClampNeg ++ us ++ vd.drop (dp.toNatClampNeg + nn.toNatClampNeg)) dd → Goes p.tables e below P (T'.setTop (mkF m pc' Ls st))) : Goes p.tables e below P (T.setTop (mkF m pc Ls (.int nn :: .int dp :: .ref da :: .int sp :: .ref sa :: st))) := by
  subst hp
  obtain ⟨T', h', L', X', e', N', KQ, V', q⟩ := cpA K.X K.hx K.hZ K.hown wl wn wt wz K.eT A B (Or.inl ⟨rfl, hty⟩) h1 h2 h3 h4 h5 hus hl K.fr ga (g := mkF m pc Ls (.int nn :: .int dp :: .ref da :: .int sp :: .ref sa :: st)) rfl (hsz.trans K.hml.symm) rfl (hb K.hby hd) hfr (W := W) (by show 2 * 0 + _ ≤ _; rw [Nat.mul_zero, Nat.zero_add]; exact hW) hlo
  exact go q (k T' h' L' (K.move X' e' N' (K.old.keep KQ (allS ga all0)) (bs_keep K KQ sf)) KQ (sfe_keep K KQ sf) V')
theorem own_nf {args : Array Value} {C0 : String} {y' yy : MethodName} (hc : y'.cls = yy.cls) (ws : (Cond.selects C0 y' y').before args b = true) : NotFace b yy := fun r0 h0 => by
  obtain ⟨c2, r2, m2, q1, q2, q3, q4, kP, hkP, hkPi⟩ := Cond.selects_spec ws
  have e1 := findClass_of_methodNamed h0
  have e2 := findClass_of_methodNamed q3
  rw [hc] at e2
  have e3 := Option.some.inj (e1.symm.trans e2)
  exact ⟨kP, by rw [e3]; exact hkP, hkPi⟩
theorem own_same {args : Array Value} {C0 : String} {y' yy : MethodName} (hc : y'.cls = yy.cls) (ws : (Cond.selects C0 y' y').before args b = true) (wi : (Cond.instanceMethod yy).before args b = true) (hy : yy.cls ≠ "java/lang/invoke/MethodHandle" ∧ yy.cls ≠ "java/lang/invoke/VarHandle") : (Cond.sameMethod yy.cls yy.cls yy.name yy.desc).before args b = true := by
  obtain ⟨mk, methM, hnamed, hmethM, -, -⟩ := Cond.instanceMethod_spec wi
  obtain ⟨kP, hk, hki⟩ := own_nf hc ws mk hnamed
  have hfound := State.methodFound?_of_named hnamed hy
  have hcl := findClass_of_methodNamed hnamed
  have hn2 : b.methodNamed? ⟨yy.cls, yy.name, yy.desc⟩ = some mk := hnamed
  simp only [Cond.before, Cond.holds, Cond.value, hcl, hfound, hn2, hk]
  simp [hki]
theorem own_priv2 (K : Wk p l e R s m args below meth c Z a0 EL n0 y bytes maxL ret b T h locs cells slots) {C0 : String} {yy : MethodName} (ws : (Cond.selects C0 yy yy).before a0 Z = true) (wim : (Cond.instanceMethod yy).before a0 Z = true) (wpr : (Cond.privateMethod yy).before a0 Z = true) (hy : yy.cls ≠ "java/lang/invoke/MethodHandle" ∧ yy.cls ≠ "java/lang/invoke/VarHandle") : (Cond.selects yy.cls yy yy).before a0 b = true := by
  have wi : (Cond.instanceMethod yy).before a0 b = true := mvT K.hZ wim
  obtain ⟨mk, methM, hnamed, hmethM, -, -⟩ := Cond.instanceMethod_spec wi
  obtain ⟨kP, hk, hki⟩ := own_nf (args := a0) rfl (mvT K.hZ ws) mk hnamed
  exact selects_self_of_private (findClass_of_methodNamed hnamed) hk hki (Cond.privateMethod_at (mvP K.hZ wpr (args := #[]))) wi hy
theorem newPX (X : Stand p l e R s m args below meth c T locs cells slots) (hx : p.tables.exec = Jvm.exec) (hZ : Z.Warmed39 s.vm) {aty : ArrayType} (w : (Cond.arrayClass (newarray.typeOf aty)).before a0 Z = true) (eT : T.heap = h) {g : JFrame} (hg : g.method = m) (hd : decode c.code g.pc = .ok (.newarray aty, 2)) {n : Int32} {rest : List Value} (hs : g.stack = .int n :: rest)
    (hn : ¬ n < 0) {cap : Nat} (hcap : n.toNatClampNeg ≤ cap) (hb : cap * 8 ≤ 536870912) (hc : cells + 1 ≤ R.cells) (hl : slots + cap ≤ R.slots) :
    ∃ T' h' cA, Stand p l e R s m args below meth c T' locs (cells + 1) (slots + cap) ∧ T'.heap = h' ∧ Ext h h' ∧ Arr Z h' h.size (newA cA (newarray.typeOf aty) n) (newarray.typeOf aty) ∧ Exa Z h' h.size ("[" ++ (newarray.typeOf aty).toString) ∧
      ∀ target, Steps p.tables e below (T'.setTop { g with pc := g.pc + 2, stack := .ref h.size :: rest }) target → Steps p.tables e below (T.setTop g) target := by
  have hcb : componentBytes (newarray.typeOf aty) ≤ 8 := by cases aty <;> decide
  obtain ⟨cA, kA, comp, h1, h2, h3, X', st⟩ := X.newarrayPrim hx (mvA hZ w) hg hd hs hn (Nat.le_trans (Nat.mul_le_mul hcap hcb) hb) hc (by omega)
  subst eT
  rw [hZ.alike.findClass] at h1
  obtain ⟨kZ, z1, -⟩ := Vm.findClass_spec h1
  obtain ⟨k', z2, z3⟩ := hZ.alike.2.2 _ _ z1
  cases h2.symm.trans z2
  have hk : kZ.kind = .array comp (newarray.typeOf aty) := by rw [← h3, z3]
  refine ⟨_, _, cA, X'.more (Nat.le_refl _) (by omega), rfl, ⟨by show T.heap.size ≤ (T.heap.push _).size; simp, fun a c h => ?_⟩, ⟨by show (T.heap.push _)[T.heap.size]? = _; simp [newA], ⟨by simp [newA], kZ, z1, comp, hk⟩, by simp [newA]⟩, ⟨newA cA (newarray.typeOf aty) n, kZ, by show (T.heap.push _)[T.heap.size]? = _; simp [newA], h1, z1, rfl, fun q => by rw [hk] at q; cases q⟩, st⟩
  show (T.heap.push _)[a]? = _
  rw [Array.getElem?_push_lt (Array.getElem?_eq_some_iff.mp h).1]; exact (Array.getElem?_eq_getElem _).symm.trans h
theorem k_newarrayX (K : Wk p l e R s m args below meth c Z a0 EL n0 y bytes maxL ret b T h locs cells slots) {aty : ArrayType} {z : Int32} (wa : (Cond.arrayClass (newarray.typeOf aty)).before a0 Z = true) (hz : ¬ z < 0) {cap : Nat} (hcap : z.toNatClampNeg ≤ cap) (hbig : cap * 8 ≤ 536870912) (hd : decode bytes pc = .ok (.newarray aty, 2)) (hp : pc + 2 = pc') (hce : cells + 1 ≤ R.cells) (hsl : slots + cap ≤ R.slots) (k : ∀ T' h' a kk, a = h.size → Wk p l e R s m args below meth c Z a0 EL n0 y bytes maxL ret b T' h' locs (cells + 1) (slots + cap) → Ext h h' → (∀ x, x < h.size → Sfe Z EL b.vm h x → Sfe Z EL b.vm h' x) → Sfe Z EL b.vm h' a → Arv Z h' a kk (newarray.typeOf aty) z [] (defaultValue (newarray.typeOf aty)) → Exa Z h' a ("[" ++ (newarray.typeOf aty).toString) → Goes p.tables e below P (T'.setTop (mkF m pc' Ls (.ref a :: st)))) : Goes p.tables e below P (T.setTop (mkF m pc Ls (.int z :: st))) := by
  subst hp
  obtain ⟨T', h', kk, X', e', E', A', Y', q⟩ := newPX K.X K.hx K.hZ wa K.eT (g := mkF m pc Ls (.int z :: st)) rfl (hb K.hby hd) rfl hz hcap hbig hce hsl
  exact go q (k T' h' _ kk rfl (K.move X' e' K.fr (K.old.ext E') (bs_ext K E')) E' (sfe_ext K E') (sfe_ext_new K E') (Arv.new A' hz) Y')
theorem k_cloneH (K : Wk p l e R s m args below meth c Z a0 EL n0 y bytes maxL ret b T h locs cells slots) {i : Nat} {ad : String} {a : Addr} {kk : ClassId} {ty : FieldType} {z : Int32} {vs : List Value} {dv : Value} (w1 : (Cond.methodLink y.cls i ⟨ad, "clone", "()Ljava/lang/Object;"⟩).before a0 Z = true) (w2 : (Cond.sameMethod ad "java/lang/Object" "clone" "()Ljava/lang/Object;").before a0 Z = true) (w3 : (Cond.native ⟨"java/lang/Object", "clone", "()Ljava/lang/Object;"⟩).before a0 Z = true) (w4 : (Cond.instanceMethod ⟨"java/lang/Object", "clone", "()Ljava/lang/Object;"⟩).before a0 Z = true) (w5 : (Cond.selects ad ⟨ad, "clone", "()Ljava/lang/Object;"⟩ ⟨"java/lang/Object", "clone", "()Ljava/lang/Object;"⟩).before a0 Z = true) (w6 : (Cond.castable ad "java/lang/Cloneable").before a0 Z = true) (F : Arv Z h a kk ty z vs dv) (E : Exa Z h a ad) (hd : decode bytes pc = .ok (.invokevirtual i, 3)) (hp : pc + 3 = pc') (hsz : Ls.size = maxL) (hfr : 1 ≤ R.frames) (W : Nat) (hW : (st.map fun v => v.category).sum ≤ W) (hlo : W + 14 ≤ R.locals) {cap : Nat} (hcap : z.toNatClampNeg ≤ cap) (hce : cells + 1 ≤ R.cells) (hsl : slots + cap ≤ R.slots) (k : ∀ T' h' a', a' = h.size → Wk p l e R s m args below meth c Z a0 EL n0 y bytes maxL ret b T' h' locs (cells + 1) (slots + cap) → Ext h h' → (∀ x, x < h.size → Sfe Z EL b.vm h x → Sfe Z EL b.vm h' x) → Sfe Z EL b.vm h' a' → Arv Z h' a' kk ty z vs dv → Exa Z h' a' ad → Goes p.tables e below P (T'.setTop (mkF m pc' Ls (.ref a' :: st)))) : Goes p.tables e below P (T.setTop (mkF m pc Ls (.ref a :: st))) := by
  subst hp
  obtain ⟨cl, Ar, q1, S, N, H, G⟩ := F
  obtain ⟨T', h', X', e', E', A', D', q⟩ := cloneA K.X K.hx K.hZ K.hown w1 w2 w3 w4 w5 w6 K.eT Ar E (fitC_of Ar fun i hi v hv => by rw [H i hi] at hv; cases hv; exact G i hi) (g := mkF m pc Ls (.ref a :: st)) rfl (hsz.trans K.hml.symm) rfl (hb K.hby hd) hfr (W := W) (cap := cap) (by show 2 * 0 + _ ≤ _; rw [Nat.mul_zero, Nat.zero_add]; exact hW) hlo (by rw [S]; exact hcap) hce hsl
  exact go q (k T' h' _ rfl (K.move X' e' K.fr (K.old.ext E') (bs_ext K E')) E' (sfe_ext K E') (sfe_ext_new K E') ⟨_, A', q1, S, N, H, G⟩ D')
def FinW (Z : State) (EL : List (String × Nat)) (U : State) (n0 : Nat) (rm : Room) (Q : Option Value → Heap → (Addr → Prop) → Prop) (o : Outcome) (U' : State) : Prop := ∃ v L, o = .returned v ∧ (Fr n0 L ∧ Old Z n0 U'.heap ∧ Q v U'.heap (Sfe Z EL U'.vm U'.heap)) ∧ CHr Z EL U.vm U.heap U'.vm U'.heap ∧ ReturnedEndW U o U' L rm.cells rm.slots
def Ct (l : Launch) (Z : State) (EL : List (String × Nat)) (n0 : Nat) (y : MethodName) (bytes : ByteArray) (maxL : Nat) (ret : Option FieldType) (rm : Room) (as : Array Value) (h : Heap) (SP : List Addr) (Q : Option Value → Heap → (Addr → Prop) → Prop) : Prop := ∀ ws, MetFree l y (head1 (Cond.code y bytes maxL ret :: ws) rm) (fun a U => a = as ∧ Z.Warmed39 U.vm ∧ U.heap = h ∧ (∀ x ∈ SP, Sfe Z EL U.vm h x) ∧ CHv Z EL U.vm h) (fun _ _ bl s _ => s.vm.MethodsKnown ∧ s.vm.FramesKnown bl) (fun _ U o U' => ∃ v L, o = .returned v ∧ (Fr n0 L ∧ Old Z n0 U'.heap ∧ Q v U'.heap (Sfe Z EL U'.vm U'.heap)) ∧ CHr Z EL U.vm U.heap U'.vm U'.heap ∧ ReturnedEndW U o U' L rm.cells rm.slots)
theorem Ct.of {as : Array Value} {rm : Room} {SP : List Addr} {Q : Option Value → Heap → (Addr → Prop) → Prop} (LE : Array Slot) (hEW : EW Z a0 EL) (hO : Old Z n0 h) (hpl : plainFor y = true) (hef : ∀ m, entryFrame m as maxL = mkF m 0 LE []) (body : ∀ {p : Program} {e : Env} {s : State} {m : MethodId} {below : List Frame} {meth : Method} {c : Code} {b T : State}, Wk p l e rm s m as below meth c Z a0 EL n0 y bytes maxL ret b T h [] 0 0 → (∀ x ∈ SP, Sfe Z EL b.vm h x) → s.heap = h → Goes p.tables e below (FinW Z EL s n0 rm Q) (T.setTop (mkF m 0 LE []))) : Ct l Z EL n0 y bytes maxL ret rm as h SP Q := by
  intro ws
  refine MetFree.of_bodySF hpl hisR ?_
  intro p e s m args below meth c s₁ Bd hml0 hP hK
  obtain ⟨ha, hZ, hh, hSP, hC⟩ := hP
  subst ha
  have K : Wk p l e rm s m args below meth c Z a0 EL n0 y bytes maxL ret s s₁ h [] 0 0 := ⟨Stand.of_body Bd, by rw [← hh, Bd.state]; rfl, Fr.nil n0, Bd.exec, hZ, findClass_of_methodNamed Bd.named, Bd.bytes, hml0, Bd.returns, Bd.notSynchronized, (name_of_methodNamed Bd.named Bd.method).1, hO, ⟨⟨s.vm, 0, rfl, State.WarmedH.since (State.WarmedH.refl s) 0, Nat.zero_le _⟩, by rw [hh]; exact CHr.refl hC, hEW⟩, hK⟩
  obtain ⟨t, o, h1, h2, h3, h4⟩ := body K hSP hh
  exact ⟨t, o, castTop (hef m) h1, h2, h3, h4⟩
theorem k_return (K : Wk p l e R s m args below meth c Z a0 EL n0 y bytes maxL ret b T h locs cells slots) {Q : Option Value → Heap → (Addr → Prop) → Prop} (hd : decode bytes pc = .ok (.return_, 1)) (hr : ret = none) (hq : ∀ sf : Addr → Prop, (∀ x, x < h.size → Sfe Z EL b.vm h x → sf x) → Q none h sf) (hc : cells ≤ R.cells) (hs : slots ≤ R.slots) : Goes p.tables e below (FinW Z EL s n0 R Q) (T.setTop (mkF m pc Ls [])) := by
  have hbs := K.bs
  obtain ⟨⟨vm0, k0, eb, hS, hk⟩, hCH, hEW⟩ := hbs
  subst eb
  have A := CHv.at K.X K.hZ hEW hCH.1
  obtain ⟨fs, hr', hrun, hended, hend⟩ := K.X.leaveW hS (by rw [K.eT]; exact hk) (v := none) (fun _ => rfl) K.hlk
  refine ⟨_, _, ?_, hrun, hended, _, _, rfl, ⟨K.fr, ?_, ?_⟩, ?_, ⟨hend.1, hend.2.1, hend.2.2.1, hend.2.2.2.mono hc hs⟩⟩
  · exact K.X.returnOut K.hx (K.hret.trans hr) (hb K.hby hd) hr'
  · show Old Z n0 T.heap
    rw [K.eT]; exact K.old
  · show Q _ T.heap (Sfe Z EL T.vm T.heap)
    rw [K.eT]; exact hq _ fun x hx q => CHr.safe A hx q
  · show CHr Z EL s.vm s.heap T.vm T.heap
    rw [K.eT]; exact hCH.trans A
theorem k_ret (K : Wk p l e R s m args below meth c Z a0 EL n0 y bytes maxL ret b T h locs cells slots) {Q : Option Value → Heap → (Addr → Prop) → Prop} {t : FieldType} {v : Value} {i : Instr} (hd : decode bytes pc = .ok (i, 1)) (hr : ret = some t) (hn : narrow t v = v) (hi : (i = .ireturn ∧ (t = .int ∨ t = .boolean ∨ t = .byte ∨ t = .char ∨ t = .short) ∧ ∃ z, v = .int z) ∨ (i = .lreturn ∧ t = .long ∧ ∃ z, v = .long z) ∨ (i = .dreturn ∧ t = .double ∧ ∃ z, v = .double z) ∨ (i = .freturn ∧ t = .float ∧ ∃ z, v = .float z) ∨ (i = .areturn ∧ t.isReference = true ∧ v.isRef = true)) (hq : ∀ sf : Addr → Prop, (∀ x, x < h.size → Sfe Z EL b.vm h x → sf x) → Q (some v) h sf) (hc : cells ≤ R.cells) (hs : slots ≤ R.slots) : Goes p.tables e below (FinW Z EL s n0 R Q) (T.setTop (mkF m pc Ls (v :: st))) := by
  have hbs := K.bs
  obtain ⟨⟨vm0, k0, eb, hS, hk⟩, hCH, hEW⟩ := hbs
  subst eb
  have A := CHv.at K.X K.hZ hEW hCH.1
  obtain ⟨fs, hr', hrun, hended, hend⟩ := K.X.leaveW hS (by rw [K.eT]; exact hk) (v := some v) (fun h => by rw [K.hret, hr] at h; cases h) K.hlk
  refine ⟨_, _, ?_, hrun, hended, _, _, rfl, ⟨K.fr, ?_, ?_⟩, ?_, ⟨hend.1, hend.2.1, hend.2.2.1, hend.2.2.2.mono hc hs⟩⟩
  · exact retOut K.X K.hx (K.hret.trans hr) hn hi (hb K.hby hd) hr'
  · show Old Z n0 T.heap
    rw [K.eT]; exact K.old
  · show Q _ T.heap (Sfe Z EL T.vm T.heap)
    rw [K.eT]; exact hq _ fun x hx q => CHr.safe A hx q
  · show CHr Z EL s.vm s.heap T.vm T.heap
    rw [K.eT]; exact hCH.trans A
theorem k_iret (K : Wk p l e R s m args below meth c Z a0 EL n0 y bytes maxL ret b T h locs cells slots) {Q : Option Value → Heap → (Addr → Prop) → Prop} {i : Int32} (hd : decode bytes pc = .ok (.ireturn, 1)) (hr : ret = some .int) (hq : ∀ sf : Addr → Prop, (∀ x, x < h.size → Sfe Z EL b.vm h x → sf x) → Q (some (.int i)) h sf) (hc : cells ≤ R.cells) (hs : slots ≤ R.slots) : Goes p.tables e below (FinW Z EL s n0 R Q) (T.setTop (mkF m pc Ls (.int i :: st))) := k_ret K hd hr rfl (Or.inl ⟨rfl, Or.inl rfl, i, rfl⟩) hq hc hs
theorem k_lret (K : Wk p l e R s m args below meth c Z a0 EL n0 y bytes maxL ret b T h locs cells slots) {Q : Option Value → Heap → (Addr → Prop) → Prop} {i : Int64} (hd : decode bytes pc = .ok (.lreturn, 1)) (hr : ret = some .long) (hq : ∀ sf : Addr → Prop, (∀ x, x < h.size → Sfe Z EL b.vm h x → sf x) → Q (some (.long i)) h sf) (hc : cells ≤ R.cells) (hs : slots ≤ R.slots) : Goes p.tables e below (FinW Z EL s n0 R Q) (T.setTop (mkF m pc Ls (.long i :: st))) := k_ret K hd hr rfl (Or.inr (Or.inl ⟨rfl, rfl, i, rfl⟩)) hq hc hs
theorem k_aret (K : Wk p l e R s m args below meth c Z a0 EL n0 y bytes maxL ret b T h locs cells slots) {Q : Option Value → Heap → (Addr → Prop) → Prop} {v : Value} {t : FieldType} (hd : decode bytes pc = .ok (.areturn, 1)) (hr : ret = some t) (ht : t.isReference = true) (hv : v.isRef = true) (hq : ∀ sf : Addr → Prop, (∀ x, x < h.size → Sfe Z EL b.vm h x → sf x) → Q (some v) h sf) (hc : cells ≤ R.cells) (hs : slots ≤ R.slots) : Goes p.tables e below (FinW Z EL s n0 R Q) (T.setTop (mkF m pc Ls (v :: st))) := k_ret K hd hr (by cases t <;> first | rfl | cases ht) (Or.inr (Or.inr (Or.inr (Or.inr ⟨rfl, ht, hv⟩)))) hq hc hs
theorem k_nret (K : Wk p l e R s m args below meth c Z a0 EL n0 y bytes maxL ret b T h locs cells slots) {Q : Option Value → Heap → (Addr → Prop) → Prop} {i : Int32} {t : FieldType} (hd : decode bytes pc = .ok (.ireturn, 1)) (hr : ret = some t) (ht : t = .boolean ∨ t = .byte ∨ t = .char ∨ t = .short) (hn : narrow t (.int i) = .int i) (hq : ∀ sf : Addr → Prop, (∀ x, x < h.size → Sfe Z EL b.vm h x → sf x) → Q (some (.int i)) h sf) (hc : cells ≤ R.cells) (hs : slots ≤ R.slots) : Goes p.tables e below (FinW Z EL s n0 R Q) (T.setTop (mkF m pc Ls (.int i :: st))) := k_ret K hd hr hn (Or.inl ⟨rfl, Or.inr ht, i, rfl⟩) hq hc hs
def Pu (w : Option Value) (h : Heap) (v : Option Value) (h' : Heap) (_ : Addr → Prop) : Prop := v = w ∧ h' = h
theorem own_back {yy : MethodName} {yb : ByteArray} {yml : Nat} {yret : Option FieldType} {rm : Room} {len W : Nat} {as' : Array Value} {SP : List Addr} {Q : Option Value → Heap → (Addr → Prop) → Prop} {vm0 : Vm} (hM : Ct l Z EL n0 yy yb yml yret rm as' h SP Q) (hZ : Z.Warmed39 vm0) (wc : (Cond.code yy yb yml yret).before a0 Z = true) (wz : (Cond.initialized yy.cls).before a0 Z = true) (hf : rm.frames + 1 ≤ R.frames) (hl : W + (yml + 11) + rm.locals ≤ R.locals) (hEL : EW Z a0 EL) (H : CHv Z EL vm0 h) (hSP : ∀ x ∈ SP, x < h.size ∧ Sfe Z EL vm0 h x) (hTK : vm0.MethodsKnown) (hBelow : vm0.FramesKnown below) :
    BackS l R p e below (s.setVm vm0) args yy len W (fun A a => a = as' ∧ A.U.heap = h ∧ A.cells + rm.cells ≤ R.cells ∧ A.slots + rm.slots ≤ R.slots)
      (fun A _ v B => ∃ L, (Fr n0 L ∧ Old Z n0 B.U.heap ∧ Q v B.U.heap (Sfe Z EL B.U.vm B.U.heap)) ∧ B.locs = A.locs ++ L ∧ B.cells = A.cells + rm.cells ∧ B.slots = A.slots + rm.slots ∧ CHr Z EL vm0 h B.U.vm B.U.heap) :=
  BackS.of_freeWG (bytes := yb) (maxL := yml) (ret := yret) (E := fun _ first o t L k n => k = rm.cells ∧ n = rm.slots ∧ (∃ v, o = .returned v ∧ (Fr n0 L ∧ Old Z n0 t.heap ∧ Q v t.heap (Sfe Z EL t.vm t.heap))) ∧ CHr Z EL first.vm first.heap t.vm t.heap) (hM []) hf hl
    (fun m meth c A a Y hp => have hU : Z.Warmed39 A.U.vm := wtrans (s := s.setVm vm0) hZ Y.warmed
      ⟨by show (Cond.and _ .tt).before a A.U = true; rw [Cond.before_and, mvT hU wc]; rfl, mvT hU wc, mvT hU wz, hp.2.2.1, hp.2.2.2⟩)
    (fun m meth c A a g mk Y hp => have q := CHv.at Y hZ hEL H
      ⟨hp.1, wtrans (s := s.setVm vm0) hZ Y.warmed, hp.2.1, fun x hx => CHr.safe q (hSP x hx).1 (hSP x hx).2, q.1⟩) (fun m meth c A a g mk Y _ hg => Jvm.Free.known_frames Y hg hTK hBelow)
    (fun _ _ _ _ ⟨v, L, h1, h2, h3, h4⟩ => ⟨L, _, _, h4, rfl, rfl, ⟨v, h1, h2⟩, h3⟩)
    (fun m meth c A a g mk v t L k n Y hp _ _ ⟨e1, e2, ⟨v', e3, e4⟩, e5⟩ => by
      cases e3; subst e1 e2
      refine ⟨L, e4, rfl, rfl, rfl, (CHv.at Y hZ hEL H).trans ?_⟩
      rw [← hp.2.1]; exact e5)
theorem callSS (X : Stand p l e R s m args below meth c T locs cells slots) (hexec : p.tables.exec = Jvm.exec) {own : String} {index : Nat} {yy : MethodName} {yb : ByteArray} {yml : Nat} {yret : Option FieldType}
    (hown : s.vm.findClass own = some m.cls) (hlink : (Cond.methodLink own index yy).before args s = true) (hstat : (Cond.static yy).before args s = true) (hinit : (Cond.initialized yy.cls).before args s = true)
    (hcode : (Cond.code yy yb yml yret).before args s = true) (hy : yy.cls ≠ "java/lang/invoke/MethodHandle" ∧ yy.cls ≠ "java/lang/invoke/VarHandle")
    {W : Nat} {Pre : Pt → Array Value → Prop} {Post : Pt → Array Value → Option Value → Pt → Prop} (hK : BackS l R p e below s args yy 3 W Pre Post)
    {g : JFrame} (hg : g.method = m) (hsize : g.locals.size = c.maxLocals) {argsL rest : List Value} (hlen : ∀ sig, parseMethodDescriptor yy.desc = some sig → argsL.length = sig.parameters.length)
    (hstack : g.stack = argsL.reverse ++ rest) (hW : 2 * g.monitorRoom + (rest.map fun v => v.category).sum ≤ W) (hdg : decode c.code g.pc = .ok (.invokestatic index, 3))
    (hpre : ∀ vm₁, s.WarmedH vm₁ → Pre ⟨T.setVm vm₁, locs, cells, slots⟩ argsL.toArray) :
    ∃ (v : Option Value) (vm₁ : Vm) (B : Pt), s.WarmedH vm₁ ∧ Stand p l e R (s.setVm B.U.vm) m args below meth c B.U B.locs B.cells B.slots ∧ s.Since B.U.vm B.U.heap.size ∧ T.heap.size ≤ B.U.heap.size ∧ Post ⟨T.setVm vm₁, locs, cells, slots⟩ argsL.toArray v B ∧
      Steps p.tables e below (T.setTop g) (B.U.setTop { g with pc := g.pc + 3, stack := v.toList ++ rest }) := by
  obtain ⟨mk, hnamed⟩ := Cond.code_named hcode
  obtain ⟨methM, cM, hmethM, -, -, -, -, -, -, hsigM⟩ := Cond.code_spec hnamed hcode
  exact X.staticBackS hexec hown hlink hstat hinit hnamed hmethM hsigM hy hK hg hsize (Steps.refl _) hlen hstack hW hdg hpre
theorem wk_called (K : Wk p l e R s m args below meth c Z a0 EL n0 y bytes maxL ret b T h locs cells slots) {b0 T' : State} {Lc : List Loc} {c' n' : Nat} (eb : b = s.setVm b0.vm) (X' : Stand p l e R (b.setVm T'.vm) m args below meth c T' (locs ++ Lc) c' n') (hS : b.Since T'.vm T'.heap.size) (hsz : T.heap.size ≤ T'.heap.size) (hCH : CHr Z EL b.vm h T'.vm T'.heap) (hF : Fr n0 Lc) (hO : Old Z n0 T'.heap) : Wk p l e R s m args below meth c Z a0 EL n0 y bytes maxL ret (b.setVm T'.vm) T' T'.heap (locs ++ Lc) c' n' := by
  obtain ⟨⟨vm0, k0, eb', g1, g2⟩, g3, g4⟩ := K.bs
  subst eb'
  have hW : Z.Warmed39 T'.vm := State.Warmed39.trans (t := s.setVm vm0) K.hZ hS.1
  have hf : T'.vm.findClass y.cls = some m.cls := by rw [hS.1.alike.findClass]; exact K.hown
  exact ⟨X', rfl, K.fr.app hF, K.hx, hW, hf, K.hby, K.hml, K.hret, K.hlk, K.hnm, hO, ⟨⟨T'.vm, T'.heap.size, rfl, g1.trans hS (by rw [K.eT] at hsz; exact Nat.le_trans g2 hsz), Nat.le_refl _⟩, g3.trans hCH, g4⟩, own_kn K.kn hS.1.alike⟩
theorem k_static (K : Wk p l e R s m args below meth c Z a0 EL n0 y bytes maxL ret b T h locs cells slots) {i : Nat} {yy : MethodName} {yb : ByteArray} {yml : Nat} {yret : Option FieldType} {rm : Room} {SP : List Addr} {Q : Option Value → Heap → (Addr → Prop) → Prop} {ps : List FieldType} {r : Option FieldType} (argsL rest : List Value) (W : Nat) (wl : (Cond.methodLink y.cls i yy).before a0 Z = true) (ws : (Cond.static yy).before a0 Z = true) (wz : (Cond.initialized yy.cls).before a0 Z = true) (wc : (Cond.code yy yb yml yret).before a0 Z = true) (hy : yy.cls ≠ "java/lang/invoke/MethodHandle" ∧ yy.cls ≠ "java/lang/invoke/VarHandle") (hpd : parseMethodDescriptor yy.desc = some ⟨ps, r⟩) (C : Ct l Z EL n0 yy yb yml yret rm argsL.toArray h SP Q) (hd : decode bytes pc = .ok (.invokestatic i, 3)) (hSP : ∀ x ∈ SP, x < h.size ∧ Sfe Z EL b.vm h x) (hp : pc + 3 = pc') (hsz : Ls.size = maxL) (hlen : argsL.length = ps.length) (hst : st = argsL.reverse ++ rest) (hW : (rest.map fun v => v.category).sum ≤ W) (hfr : rm.frames + 1 ≤ R.frames) (hlo : W + (yml + 11) + rm.locals ≤ R.locals) (hce : cells + rm.cells ≤ R.cells) (hsl : slots + rm.slots ≤ R.slots) (k : ∀ b' T' h' locs' v, Wk p l e R s m args below meth c Z a0 EL n0 y bytes maxL ret b' T' h' locs' (cells + rm.cells) (slots + rm.slots) → (∀ x, x < h.size → Sfe Z EL b.vm h x → Sfe Z EL b'.vm h' x) → Q v h' (Sfe Z EL b'.vm h') → Goes p.tables e below P (T'.setTop (mkF m pc' Ls (v.toList ++ rest)))) : Goes p.tables e below P (T.setTop (mkF m pc Ls st)) := by
  subst hp
  obtain ⟨⟨vm0, k0, eb, g1, g2⟩, g3, g4⟩ := K.bs
  subst eb
  obtain ⟨v, vm1, ⟨T', L', c', n'⟩, -, X', hS', hsz', ⟨Lc, ⟨hF, hO', hQ⟩, l', y', z', hCH⟩, q⟩ := callSS K.X K.hx (yy := yy) K.hown (mvT K.hZ wl) (mvT K.hZ ws) (mvT K.hZ wz) (mvT K.hZ wc) hy (own_back (s := s) (vm0 := vm0) (W := W) C K.hZ wc wz hfr hlo g4 g3.1 hSP K.kn.1 K.kn.2) (g := mkF m pc Ls st) rfl (hsz.trans K.hml.symm) (argsL := argsL) (rest := rest) (lenOf hpd hlen) hst (by show 2 * 0 + _ ≤ _; rw [Nat.mul_zero, Nat.zero_add]; exact hW) (hb K.hby hd) (fun _ _ => ⟨rfl, K.eT, hce, hsl⟩)
  dsimp only [Pt.U, Pt.locs, Pt.cells, Pt.slots] at X' l' y' z' q hQ hCH hS' hsz' hO'
  subst l' y' z'
  exact go (fun _ z => q.trans z) (k _ _ _ _ _ (wk_called K (b0 := (s.setVm vm0)) rfl X' hS' hsz' hCH hF hO') (fun x hx z => CHr.safe hCH hx z) hQ)
theorem k_staticP (K : Wk p l e R s m args below meth c Z a0 EL n0 y bytes maxL ret b T h locs cells slots) {i : Nat} {yy : MethodName} {yb : ByteArray} {yml : Nat} {yret : Option FieldType} {rm : Room} {SP : List Addr} {ps : List FieldType} {r : Option FieldType} (argsL rest : List Value) (W : Nat) (wl : (Cond.methodLink y.cls i yy).before a0 Z = true) (ws : (Cond.static yy).before a0 Z = true) (wz : (Cond.initialized yy.cls).before a0 Z = true) (wc : (Cond.code yy yb yml yret).before a0 Z = true) (hy : yy.cls ≠ "java/lang/invoke/MethodHandle" ∧ yy.cls ≠ "java/lang/invoke/VarHandle") (hpd : parseMethodDescriptor yy.desc = some ⟨ps, r⟩) {vv : Option Value} (C : Ct l Z EL n0 yy yb yml yret rm argsL.toArray h SP (Pu vv h)) (hd : decode bytes pc = .ok (.invokestatic i, 3)) (hSP : ∀ x ∈ SP, x < h.size ∧ Sfe Z EL b.vm h x) (hp : pc + 3 = pc') (hsz : Ls.size = maxL) (hlen : argsL.length = ps.length) (hst : st = argsL.reverse ++ rest) (hW : (rest.map fun v => v.category).sum ≤ W) (hfr : rm.frames + 1 ≤ R.frames) (hlo : W + (yml + 11) + rm.locals ≤ R.locals) (hce : cells + rm.cells ≤ R.cells) (hsl : slots + rm.slots ≤ R.slots) (k : ∀ b' T' locs', Wk p l e R s m args below meth c Z a0 EL n0 y bytes maxL ret b' T' h locs' (cells + rm.cells) (slots + rm.slots) → (∀ x, x < h.size → Sfe Z EL b.vm h x → Sfe Z EL b'.vm h x) → Goes p.tables e below P (T'.setTop (mkF m pc' Ls (vv.toList ++ rest)))) : Goes p.tables e below P (T.setTop (mkF m pc Ls st)) := k_static K argsL rest W wl ws wz wc hy hpd C hd hSP hp hsz hlen hst hW hfr hlo hce hsl (fun b' T' h' locs' v K' tr q => by obtain ⟨rfl, rfl⟩ := q; exact k _ _ _ K' tr)
theorem k_special (K : Wk p l e R s m args below meth c Z a0 EL n0 y bytes maxL ret b T h locs cells slots) {i : Nat} {yy : MethodName} {yb : ByteArray} {yml : Nat} {yret : Option FieldType} {rm : Room} {SP : List Addr} {Q : Option Value → Heap → (Addr → Prop) → Prop} {ps : List FieldType} {r : Option FieldType} (argsL rest : List Value) (W : Nat) {a : Addr} (wl : (Cond.methodLink y.cls i yy).before a0 Z = true) (wi : (Cond.instanceMethod yy).before a0 Z = true) (wz : (Cond.initialized yy.cls).before a0 Z = true) (wc : (Cond.code yy yb yml yret).before a0 Z = true) (hin : yy.name = "<init>") (hnr : yret = none) (hy : yy.cls ≠ "java/lang/invoke/MethodHandle" ∧ yy.cls ≠ "java/lang/invoke/VarHandle") (hpd : parseMethodDescriptor yy.desc = some ⟨ps, r⟩) (C : Ct l Z EL n0 yy yb yml yret rm (.ref a :: argsL).toArray h SP Q) (hd : decode bytes pc = .ok (.invokespecial i, 3)) (hSP : ∀ x ∈ SP, x < h.size ∧ Sfe Z EL b.vm h x) (hp : pc + 3 = pc') (hsz : Ls.size = maxL) (hlen : argsL.length = ps.length) (hst : st = argsL.reverse ++ .ref a :: rest) (hW : (rest.map fun v => v.category).sum ≤ W) (hfr : rm.frames + 1 ≤ R.frames) (hlo : W + (yml + 11) + rm.locals ≤ R.locals) (hce : cells + rm.cells ≤ R.cells) (hsl : slots + rm.slots ≤ R.slots) (k : ∀ b' T' h' locs' v, Wk p l e R s m args below meth c Z a0 EL n0 y bytes maxL ret b' T' h' locs' (cells + rm.cells) (slots + rm.slots) → (∀ x, x < h.size → Sfe Z EL b.vm h x → Sfe Z EL b'.vm h' x) → Q v h' (Sfe Z EL b'.vm h') → Goes p.tables e below P (T'.setTop (mkF m pc' Ls (v.toList ++ rest)))) : Goes p.tables e below P (T.setTop (mkF m pc Ls st)) := by
  subst hp
  subst hnr
  obtain ⟨⟨vm0, k0, eb, g1, g2⟩, g3, g4⟩ := K.bs
  subst eb
  obtain ⟨v, vm1, ⟨T', L', c', n'⟩, -, X', hS', hsz', ⟨Lc, ⟨hF, hO', hQ⟩, l', y', z', hCH⟩, q⟩ := K.X.specialBackS K.hx (y := yy) hin K.hown (mvT K.hZ wl) (mvT K.hZ wi) (mvT K.hZ wc) hy (own_back (s := s) (vm0 := vm0) (W := W) C K.hZ wc wz hfr hlo g4 g3.1 hSP K.kn.1 K.kn.2) (g := mkF m pc Ls st) rfl (hsz.trans K.hml.symm) (Steps.refl _) (a := a) (argsL := argsL) (rest := rest) (lenOf hpd hlen) hst (by show 2 * 0 + _ ≤ _; rw [Nat.mul_zero, Nat.zero_add]; exact hW) (hb K.hby hd) (fun _ _ => ⟨rfl, K.eT, hce, hsl⟩)
  dsimp only [Pt.U, Pt.locs, Pt.cells, Pt.slots] at X' l' y' z' q hQ hCH hS' hsz' hO'
  subst l' y' z'
  exact go (fun _ z => q.trans z) (k _ _ _ _ _ (wk_called K (b0 := (s.setVm vm0)) rfl X' hS' hsz' hCH hF hO') (fun x hx z => CHr.safe hCH hx z) hQ)
theorem k_specialP (K : Wk p l e R s m args below meth c Z a0 EL n0 y bytes maxL ret b T h locs cells slots) {i : Nat} {yy : MethodName} {yb : ByteArray} {yml : Nat} {yret : Option FieldType} {rm : Room} {SP : List Addr} {ps : List FieldType} {r : Option FieldType} (argsL rest : List Value) (W : Nat) {a : Addr} (wl : (Cond.methodLink y.cls i yy).before a0 Z = true) (wi : (Cond.instanceMethod yy).before a0 Z = true) (wz : (Cond.initialized yy.cls).before a0 Z = true) (wc : (Cond.code yy yb yml yret).before a0 Z = true) (hin : yy.name = "<init>") (hnr : yret = none) (hy : yy.cls ≠ "java/lang/invoke/MethodHandle" ∧ yy.cls ≠ "java/lang/invoke/VarHandle") (hpd : parseMethodDescriptor yy.desc = some ⟨ps, r⟩) {vv : Option Value} (C : Ct l Z EL n0 yy yb yml yret rm (.ref a :: argsL).toArray h SP (Pu vv h)) (hd : decode bytes pc = .ok (.invokespecial i, 3)) (hSP : ∀ x ∈ SP, x < h.size ∧ Sfe Z EL b.vm h x) (hp : pc + 3 = pc') (hsz : Ls.size = maxL) (hlen : argsL.length = ps.length) (hst : st = argsL.reverse ++ .ref a :: rest) (hW : (rest.map fun v => v.category).sum ≤ W) (hfr : rm.frames + 1 ≤ R.frames) (hlo : W + (yml + 11) + rm.locals ≤ R.locals) (hce : cells + rm.cells ≤ R.cells) (hsl : slots + rm.slots ≤ R.slots) (k : ∀ b' T' locs', Wk p l e R s m args below meth c Z a0 EL n0 y bytes maxL ret b' T' h locs' (cells + rm.cells) (slots + rm.slots) → (∀ x, x < h.size → Sfe Z EL b.vm h x → Sfe Z EL b'.vm h x) → Goes p.tables e below P (T'.setTop (mkF m pc' Ls (vv.toList ++ rest)))) : Goes p.tables e below P (T.setTop (mkF m pc Ls st)) := k_special K argsL rest W wl wi wz wc hin hnr hy hpd C hd hSP hp hsz hlen hst hW hfr hlo hce hsl (fun b' T' h' locs' v K' tr q => by obtain ⟨rfl, rfl⟩ := q; exact k _ _ _ K' tr)
theorem k_virtual (K : Wk p l e R s m args below meth c Z a0 EL n0 y bytes maxL ret b T h locs cells slots) {i : Nat} {yy : MethodName} {yb : ByteArray} {yml : Nat} {yret : Option FieldType} {rm : Room} {SP : List Addr} {Q : Option Value → Heap → (Addr → Prop) → Prop} {ps : List FieldType} {r : Option FieldType} (argsL rest : List Value) (W : Nat) {a : Addr} {C0 : String} {yv : MethodName} (wl : (Cond.methodLink y.cls i yv).before a0 Z = true) (wd : (Cond.declares yv).before a0 Z = true) (wi : (Cond.instanceMethod yy).before a0 Z = true) (wse : (Cond.selects C0 yv yy).before a0 Z = true) (wz : (Cond.initialized yy.cls).before a0 Z = true) (wc : (Cond.code yy yb yml yret).before a0 Z = true) (hnf : NotFace b yv) (hvd : yv.desc = yy.desc) (hyv : yv.cls ≠ "java/lang/invoke/MethodHandle" ∧ yv.cls ≠ "java/lang/invoke/VarHandle") (E : Exa Z h a C0) (hy : yy.cls ≠ "java/lang/invoke/MethodHandle" ∧ yy.cls ≠ "java/lang/invoke/VarHandle") (hpd : parseMethodDescriptor yy.desc = some ⟨ps, r⟩) (C : Ct l Z EL n0 yy yb yml yret rm (.ref a :: argsL).toArray h SP Q) (hd : decode bytes pc = .ok (.invokevirtual i, 3)) (hSP : ∀ x ∈ SP, x < h.size ∧ Sfe Z EL b.vm h x) (hp : pc + 3 = pc') (hsz : Ls.size = maxL) (hlen : argsL.length = ps.length) (hst : st = argsL.reverse ++ .ref a :: rest) (hW : (rest.map fun v => v.category).sum ≤ W) (hfr : rm.frames + 1 ≤ R.frames) (hlo : W + (yml + 11) + rm.locals ≤ R.locals) (hce : cells + rm.cells ≤ R.cells) (hsl : slots + rm.slots ≤ R.slots) (k : ∀ b' T' h' locs' v, Wk p l e R s m args below meth c Z a0 EL n0 y bytes maxL ret b' T' h' locs' (cells + rm.cells) (slots + rm.slots) → (∀ x, x < h.size → Sfe Z EL b.vm h x → Sfe Z EL b'.vm h' x) → Q v h' (Sfe Z EL b'.vm h') → Goes p.tables e below P (T'.setTop (mkF m pc' Ls (v.toList ++ rest)))) : Goes p.tables e below P (T.setTop (mkF m pc Ls st)) := by
  subst hp
  obtain ⟨cq, kq, qa, qb, qc⟩ := isOf K.hZ K.eT E
  obtain ⟨⟨vm0, k0, eb, g1, g2⟩, g3, g4⟩ := K.bs
  subst eb
  obtain ⟨v, vm1, ⟨T', L', c', n'⟩, -, X', hS', hsz', ⟨Lc, ⟨hF, hO', hQ⟩, l', y', z', hCH⟩, q⟩ := K.X.virtualBackS K.hx (y := yv) (z := yy) K.hown (mvT K.hZ wl) (mvT K.hZ wd) hnf (mvT K.hZ wse) (mvT K.hZ wi) hyv (own_back (s := s) (vm0 := vm0) (W := W) C K.hZ wc wz hfr hlo g4 g3.1 hSP K.kn.1 K.kn.2) qa qc (g := mkF m pc Ls st) rfl (hsz.trans K.hml.symm) (Steps.refl _) (argsL := argsL) (rest := rest) (lenOf (hvd ▸ hpd) hlen) hst (by show 2 * 0 + _ ≤ _; rw [Nat.mul_zero, Nat.zero_add]; exact hW) (hb K.hby hd) (fun _ _ => ⟨rfl, K.eT, hce, hsl⟩)
  dsimp only [Pt.U, Pt.locs, Pt.cells, Pt.slots] at X' l' y' z' q hQ hCH hS' hsz' hO'
  subst l' y' z'
  exact go (fun _ z => q.trans z) (k _ _ _ _ _ (wk_called K (b0 := (s.setVm vm0)) rfl X' hS' hsz' hCH hF hO') (fun x hx z => CHr.safe hCH hx z) hQ)
theorem k_virtualP (K : Wk p l e R s m args below meth c Z a0 EL n0 y bytes maxL ret b T h locs cells slots) {i : Nat} {yy : MethodName} {yb : ByteArray} {yml : Nat} {yret : Option FieldType} {rm : Room} {SP : List Addr} {ps : List FieldType} {r : Option FieldType} (argsL rest : List Value) (W : Nat) {a : Addr} {C0 : String} {yv : MethodName} (wl : (Cond.methodLink y.cls i yv).before a0 Z = true) (wd : (Cond.declares yv).before a0 Z = true) (wi : (Cond.instanceMethod yy).before a0 Z = true) (wse : (Cond.selects C0 yv yy).before a0 Z = true) (wz : (Cond.initialized yy.cls).before a0 Z = true) (wc : (Cond.code yy yb yml yret).before a0 Z = true) (hnf : NotFace b yv) (hvd : yv.desc = yy.desc) (hyv : yv.cls ≠ "java/lang/invoke/MethodHandle" ∧ yv.cls ≠ "java/lang/invoke/VarHandle") (E : Exa Z h a C0) (hy : yy.cls ≠ "java/lang/invoke/MethodHandle" ∧ yy.cls ≠ "java/lang/invoke/VarHandle") (hpd : parseMethodDescriptor yy.desc = some ⟨ps, r⟩) {vv : Option Value} (C : Ct l Z EL n0 yy yb yml yret rm (.ref a :: argsL).toArray h SP (Pu vv h)) (hd : decode bytes pc = .ok (.invokevirtual i, 3)) (hSP : ∀ x ∈ SP, x < h.size ∧ Sfe Z EL b.vm h x) (hp : pc + 3 = pc') (hsz : Ls.size = maxL) (hlen : argsL.length = ps.length) (hst : st = argsL.reverse ++ .ref a :: rest) (hW : (rest.map fun v => v.category).sum ≤ W) (hfr : rm.frames + 1 ≤ R.frames) (hlo : W + (yml + 11) + rm.locals ≤ R.locals) (hce : cells + rm.cells ≤ R.cells) (hsl : slots + rm.slots ≤ R.slots) (k : ∀ b' T' locs', Wk p l e R s m args below meth c Z a0 EL n0 y bytes maxL ret b' T' h locs' (cells + rm.cells) (slots + rm.slots) → (∀ x, x < h.size → Sfe Z EL b.vm h x → Sfe Z EL b'.vm h x) → Goes p.tables e below P (T'.setTop (mkF m pc' Ls (vv.toList ++ rest)))) : Goes p.tables e below P (T.setTop (mkF m pc Ls st)) := k_virtual K argsL rest W wl wd wi wse wz wc hnf hvd hyv E hy hpd C hd hSP hp hsz hlen hst hW hfr hlo hce hsl (fun b' T' h' locs' v K' tr q => by obtain ⟨rfl, rfl⟩ := q; exact k _ _ _ K' tr)
theorem own_sel {args args' : Array Value} {C0 : String} {yv yy : MethodName} (w : (Cond.selects C0 yv yy).before args b = true) : (Cond.selects C0 yv yy).before args' b = true := mvT (State.Warmed39.refl b) w
theorem own_priv (K : Wk p l e R s m args below meth c Z a0 EL n0 y bytes maxL ret b T h locs cells slots) {C0 : String} {n : Nat} {yy : MethodName} (hc0 : C0 = yy.cls) (wi : (Cond.instantiable C0 n).before a0 Z = true) (wim : (Cond.instanceMethod yy).before a0 Z = true) (wpr : (Cond.privateMethod yy).before a0 Z = true) (hy : yy.cls ≠ "java/lang/invoke/MethodHandle" ∧ yy.cls ≠ "java/lang/invoke/VarHandle") : (Cond.selects yy.cls yy yy).before a0 b = true := by
  subst hc0
  have q : (Cond.instantiable yy.cls n).before a0 b = true := mvT K.hZ wi
  obtain ⟨c, k, h1, h2, h3, h4, -⟩ := Cond.instantiable_spec q
  simp only [Bool.or_eq_false_iff] at h4
  exact selects_self_of_private h1 h2 h4.1 (Cond.privateMethod_at (mvP K.hZ wpr (args := #[]))) (mvT K.hZ wim) hy
theorem k_private (K : Wk p l e R s m args below meth c Z a0 EL n0 y bytes maxL ret b T h locs cells slots) {i : Nat} {yy : MethodName} {yb : ByteArray} {yml : Nat} {yret : Option FieldType} {rm : Room} {SP : List Addr} {Q : Option Value → Heap → (Addr → Prop) → Prop} {ps : List FieldType} {r : Option FieldType} (argsL rest : List Value) (W : Nat) {a : Addr} {C0 : String} (wl : (Cond.methodLink y.cls i yy).before a0 Z = true) (wi : (Cond.instanceMethod yy).before a0 Z = true) (wse : (Cond.selects yy.cls yy yy).before a0 b = true) (wpr : (Cond.privateMethod yy).before a0 Z = true) (wz : (Cond.initialized yy.cls).before a0 Z = true) (wc : (Cond.code yy yb yml yret).before a0 Z = true) (E : Exa Z h a C0) (hy : yy.cls ≠ "java/lang/invoke/MethodHandle" ∧ yy.cls ≠ "java/lang/invoke/VarHandle") (hpd : parseMethodDescriptor yy.desc = some ⟨ps, r⟩) (C : Ct l Z EL n0 yy yb yml yret rm (.ref a :: argsL).toArray h SP Q) (hd : decode bytes pc = .ok (.invokevirtual i, 3)) (hSP : ∀ x ∈ SP, x < h.size ∧ Sfe Z EL b.vm h x) (hp : pc + 3 = pc') (hsz : Ls.size = maxL) (hlen : argsL.length = ps.length) (hst : st = argsL.reverse ++ .ref a :: rest) (hW : (rest.map fun v => v.category).sum ≤ W) (hfr : rm.frames + 1 ≤ R.frames) (hlo : W + (yml + 11) + rm.locals ≤ R.locals) (hce : cells + rm.cells ≤ R.cells) (hsl : slots + rm.slots ≤ R.slots) (k : ∀ b' T' h' locs' v, Wk p l e R s m args below meth c Z a0 EL n0 y bytes maxL ret b' T' h' locs' (cells + rm.cells) (slots + rm.slots) → (∀ x, x < h.size → Sfe Z EL b.vm h x → Sfe Z EL b'.vm h' x) → Q v h' (Sfe Z EL b'.vm h') → Goes p.tables e below P (T'.setTop (mkF m pc' Ls (v.toList ++ rest)))) : Goes p.tables e below P (T.setTop (mkF m pc Ls st)) := by
  subst hp
  obtain ⟨cq, qa, qb⟩ := E.cell
  obtain ⟨⟨vm0, k0, eb, g1, g2⟩, g3, g4⟩ := K.bs
  subst eb
  obtain ⟨v, vm1, ⟨T', L', c', n'⟩, -, X', hS', hsz', ⟨Lc, ⟨hF, hO', hQ⟩, l', y', z', hCH⟩, q⟩ := K.X.privateBackS K.hx (y := yy) K.hown (mvT K.hZ wl) (mvT K.hZ wi) (own_sel wse) (Cond.privateMethod_at (mvP K.hZ wpr (args := #[]))) (mvT K.hZ wc) hy (own_back (s := s) (vm0 := vm0) (W := W) C K.hZ wc wz hfr hlo g4 g3.1 hSP K.kn.1 K.kn.2) (g := mkF m pc Ls st) rfl (hsz.trans K.hml.symm) (Steps.refl _) (a := a) (by rw [K.eT]; exact qa) qb (argsL := argsL) (rest := rest) (lenOf hpd hlen) hst (by show 2 * 0 + _ ≤ _; rw [Nat.mul_zero, Nat.zero_add]; exact hW) (hb K.hby hd) (fun _ _ => ⟨rfl, K.eT, hce, hsl⟩)
  dsimp only [Pt.U, Pt.locs, Pt.cells, Pt.slots] at X' l' y' z' q hQ hCH hS' hsz' hO'
  subst l' y' z'
  exact go (fun _ z => q.trans z) (k _ _ _ _ _ (wk_called K (b0 := (s.setVm vm0)) rfl X' hS' hsz' hCH hF hO') (fun x hx z => CHr.safe hCH hx z) hQ)
theorem k_privateP (K : Wk p l e R s m args below meth c Z a0 EL n0 y bytes maxL ret b T h locs cells slots) {i : Nat} {yy : MethodName} {yb : ByteArray} {yml : Nat} {yret : Option FieldType} {rm : Room} {SP : List Addr} {ps : List FieldType} {r : Option FieldType} (argsL rest : List Value) (W : Nat) {a : Addr} {C0 : String} (wl : (Cond.methodLink y.cls i yy).before a0 Z = true) (wi : (Cond.instanceMethod yy).before a0 Z = true) (wse : (Cond.selects yy.cls yy yy).before a0 b = true) (wpr : (Cond.privateMethod yy).before a0 Z = true) (wz : (Cond.initialized yy.cls).before a0 Z = true) (wc : (Cond.code yy yb yml yret).before a0 Z = true) (E : Exa Z h a C0) (hy : yy.cls ≠ "java/lang/invoke/MethodHandle" ∧ yy.cls ≠ "java/lang/invoke/VarHandle") (hpd : parseMethodDescriptor yy.desc = some ⟨ps, r⟩) {vv : Option Value} (C : Ct l Z EL n0 yy yb yml yret rm (.ref a :: argsL).toArray h SP (Pu vv h)) (hd : decode bytes pc = .ok (.invokevirtual i, 3)) (hSP : ∀ x ∈ SP, x < h.size ∧ Sfe Z EL b.vm h x) (hp : pc + 3 = pc') (hsz : Ls.size = maxL) (hlen : argsL.length = ps.length) (hst : st = argsL.reverse ++ .ref a :: rest) (hW : (rest.map fun v => v.category).sum ≤ W) (hfr : rm.frames + 1 ≤ R.frames) (hlo : W + (yml + 11) + rm.locals ≤ R.locals) (hce : cells + rm.cells ≤ R.cells) (hsl : slots + rm.slots ≤ R.slots) (k : ∀ b' T' locs', Wk p l e R s m args below meth c Z a0 EL n0 y bytes maxL ret b' T' h locs' (cells + rm.cells) (slots + rm.slots) → (∀ x, x < h.size → Sfe Z EL b.vm h x → Sfe Z EL b'.vm h x) → Goes p.tables e below P (T'.setTop (mkF m pc' Ls (vv.toList ++ rest)))) : Goes p.tables e below P (T.setTop (mkF m pc Ls st)) := k_private K argsL rest W wl wi wse wpr wz wc E hy hpd C hd hSP hp hsz hlen hst hW hfr hlo hce hsl (fun b' T' h' locs' v K' tr q => by obtain ⟨rfl, rfl⟩ := q; exact k _ _ _ K' tr)
theorem k_interface (K : Wk p l e R s m args below meth c Z a0 EL n0 y bytes maxL ret b T h locs cells slots) {i : Nat} {yy : MethodName} {yb : ByteArray} {yml : Nat} {yret : Option FieldType} {rm : Room} {SP : List Addr} {Q : Option Value → Heap → (Addr → Prop) → Prop} {ps : List FieldType} {r : Option FieldType} (argsL rest : List Value) (W : Nat) {a : Addr} {C0 : String} {yv : MethodName} {cnt : Nat} (wl : (Cond.methodLink y.cls i yv).before a0 Z = true) (wd : (Cond.declares yv).before a0 Z = true) (wf : (Cond.interfaceMethod yv.cls yv.cls yv.name yv.desc).before args b = true) (wse : (Cond.selects C0 yv yy).before a0 Z = true) (wi : (Cond.instanceMethod yy).before a0 Z = true) (wpu : (Cond.publicMethod yy).before a0 Z = true) (wun : (Cond.unhidden C0 yv.name yv.desc).before a0 Z = true) (wca : (Cond.castable C0 yv.cls).before a0 Z = true) (wz : (Cond.initialized yy.cls).before a0 Z = true) (wc : (Cond.code yy yb yml yret).before a0 Z = true) (hvd : yv.desc = yy.desc) (hyv : yv.cls ≠ "java/lang/invoke/MethodHandle" ∧ yv.cls ≠ "java/lang/invoke/VarHandle") (E : Exa Z h a C0) (hy : yy.cls ≠ "java/lang/invoke/MethodHandle" ∧ yy.cls ≠ "java/lang/invoke/VarHandle") (hpd : parseMethodDescriptor yy.desc = some ⟨ps, r⟩) (C : Ct l Z EL n0 yy yb yml yret rm (.ref a :: argsL).toArray h SP Q) (hd : decode bytes pc = .ok (.invokeinterface i cnt, 5)) (hSP : ∀ x ∈ SP, x < h.size ∧ Sfe Z EL b.vm h x) (hp : pc + 5 = pc') (hsz : Ls.size = maxL) (hlen : argsL.length = ps.length) (hst : st = argsL.reverse ++ .ref a :: rest) (hW : (rest.map fun v => v.category).sum ≤ W) (hfr : rm.frames + 1 ≤ R.frames) (hlo : W + (yml + 11) + rm.locals ≤ R.locals) (hce : cells + rm.cells ≤ R.cells) (hsl : slots + rm.slots ≤ R.slots) (k : ∀ b' T' h' locs' v, Wk p l e R s m args below meth c Z a0 EL n0 y bytes maxL ret b' T' h' locs' (cells + rm.cells) (slots + rm.slots) → (∀ x, x < h.size → Sfe Z EL b.vm h x → Sfe Z EL b'.vm h' x) → Q v h' (Sfe Z EL b'.vm h') → Goes p.tables e below P (T'.setTop (mkF m pc' Ls (v.toList ++ rest)))) : Goes p.tables e below P (T.setTop (mkF m pc Ls st)) := by
  subst hp
  obtain ⟨cq, kq, qa, qb, qc⟩ := isOf K.hZ K.eT E
  obtain ⟨⟨vm0, k0, eb, g1, g2⟩, g3, g4⟩ := K.bs
  subst eb
  obtain ⟨v, vm1, ⟨T', L', c', n'⟩, -, X', hS', hsz', ⟨Lc, ⟨hF, hO', hQ⟩, l', y', z', hCH⟩, q⟩ := K.X.interfaceBackS K.hx (xi := yv) (y := yy) K.hown (mvT K.hZ wl) (mvT K.hZ wd) wf (mvT K.hZ wse) (mvT K.hZ wi) (mvT K.hZ wpu) (mvT K.hZ wun) (mvT K.hZ wca) hyv (own_back (s := s) (vm0 := vm0) (W := W) C K.hZ wc wz hfr hlo g4 g3.1 hSP K.kn.1 K.kn.2) qa qb qc (g := mkF m pc Ls st) rfl (hsz.trans K.hml.symm) (Steps.refl _) (argsL := argsL) (rest := rest) (lenOf (hvd ▸ hpd) hlen) hst (by show 2 * 0 + _ ≤ _; rw [Nat.mul_zero, Nat.zero_add]; exact hW) (hb K.hby hd) (fun _ _ => ⟨rfl, K.eT, hce, hsl⟩)
  dsimp only [Pt.U, Pt.locs, Pt.cells, Pt.slots] at X' l' y' z' q hQ hCH hS' hsz' hO'
  subst l' y' z'
  exact go (fun _ z => q.trans z) (k _ _ _ _ _ (wk_called K (b0 := (s.setVm vm0)) rfl X' hS' hsz' hCH hF hO') (fun x hx z => CHr.safe hCH hx z) hQ)
theorem k_interfaceP (K : Wk p l e R s m args below meth c Z a0 EL n0 y bytes maxL ret b T h locs cells slots) {i : Nat} {yy : MethodName} {yb : ByteArray} {yml : Nat} {yret : Option FieldType} {rm : Room} {SP : List Addr} {ps : List FieldType} {r : Option FieldType} (argsL rest : List Value) (W : Nat) {a : Addr} {C0 : String} {yv : MethodName} {cnt : Nat} (wl : (Cond.methodLink y.cls i yv).before a0 Z = true) (wd : (Cond.declares yv).before a0 Z = true) (wf : (Cond.interfaceMethod yv.cls yv.cls yv.name yv.desc).before args b = true) (wse : (Cond.selects C0 yv yy).before a0 Z = true) (wi : (Cond.instanceMethod yy).before a0 Z = true) (wpu : (Cond.publicMethod yy).before a0 Z = true) (wun : (Cond.unhidden C0 yv.name yv.desc).before a0 Z = true) (wca : (Cond.castable C0 yv.cls).before a0 Z = true) (wz : (Cond.initialized yy.cls).before a0 Z = true) (wc : (Cond.code yy yb yml yret).before a0 Z = true) (hvd : yv.desc = yy.desc) (hyv : yv.cls ≠ "java/lang/invoke/MethodHandle" ∧ yv.cls ≠ "java/lang/invoke/VarHandle") (E : Exa Z h a C0) (hy : yy.cls ≠ "java/lang/invoke/MethodHandle" ∧ yy.cls ≠ "java/lang/invoke/VarHandle") (hpd : parseMethodDescriptor yy.desc = some ⟨ps, r⟩) {vv : Option Value} (C : Ct l Z EL n0 yy yb yml yret rm (.ref a :: argsL).toArray h SP (Pu vv h)) (hd : decode bytes pc = .ok (.invokeinterface i cnt, 5)) (hSP : ∀ x ∈ SP, x < h.size ∧ Sfe Z EL b.vm h x) (hp : pc + 5 = pc') (hsz : Ls.size = maxL) (hlen : argsL.length = ps.length) (hst : st = argsL.reverse ++ .ref a :: rest) (hW : (rest.map fun v => v.category).sum ≤ W) (hfr : rm.frames + 1 ≤ R.frames) (hlo : W + (yml + 11) + rm.locals ≤ R.locals) (hce : cells + rm.cells ≤ R.cells) (hsl : slots + rm.slots ≤ R.slots) (k : ∀ b' T' locs', Wk p l e R s m args below meth c Z a0 EL n0 y bytes maxL ret b' T' h locs' (cells + rm.cells) (slots + rm.slots) → (∀ x, x < h.size → Sfe Z EL b.vm h x → Sfe Z EL b'.vm h x) → Goes p.tables e below P (T'.setTop (mkF m pc' Ls (vv.toList ++ rest)))) : Goes p.tables e below P (T.setTop (mkF m pc Ls st)) := k_interface K argsL rest W wl wd wf wse wi wpu wun wca wz wc hvd hyv E hy hpd C hd hSP hp hsz hlen hst hW hfr hlo hce hsl (fun b' T' h' locs' v K' tr q => by obtain ⟨rfl, rfl⟩ := q; exact k _ _ _ K' tr)
theorem k_super (K : Wk p l e R s m args below meth c Z a0 EL n0 y bytes maxL ret b T h locs cells slots) {i : Nat} {yy : MethodName} {yb : ByteArray} {yml : Nat} {yret : Option FieldType} {rm : Room} {SP : List Addr} {Q : Option Value → Heap → (Addr → Prop) → Prop} {ps : List FieldType} {r : Option FieldType} (argsL rest : List Value) (W : Nat) {a : Addr} {C0 : String} (wl : (Cond.methodLink y.cls i yy).before a0 Z = true) (wsm : (Cond.sameMethod yy.cls yy.cls yy.name yy.desc).before a0 Z = true) (wi : (Cond.instanceMethod yy).before a0 Z = true) (wsu : (Cond.superclass y.cls yy.cls).before a0 Z = true) (hni : yy.name ≠ "<init>") (wz : (Cond.initialized yy.cls).before a0 Z = true) (wc : (Cond.code yy yb yml yret).before a0 Z = true) (E : Ins Z h a C0 true) (hy : yy.cls ≠ "java/lang/invoke/MethodHandle" ∧ yy.cls ≠ "java/lang/invoke/VarHandle") (hpd : parseMethodDescriptor yy.desc = some ⟨ps, r⟩) (C : Ct l Z EL n0 yy yb yml yret rm (.ref a :: argsL).toArray h SP Q) (hd : decode bytes pc = .ok (.invokespecial i, 3)) (hSP : ∀ x ∈ SP, x < h.size ∧ Sfe Z EL b.vm h x) (hp : pc + 3 = pc') (hsz : Ls.size = maxL) (hlen : argsL.length = ps.length) (hst : st = argsL.reverse ++ .ref a :: rest) (hW : (rest.map fun v => v.category).sum ≤ W) (hfr : rm.frames + 1 ≤ R.frames) (hlo : W + (yml + 11) + rm.locals ≤ R.locals) (hce : cells + rm.cells ≤ R.cells) (hsl : slots + rm.slots ≤ R.slots) (k : ∀ b' T' h' locs' v, Wk p l e R s m args below meth c Z a0 EL n0 y bytes maxL ret b' T' h' locs' (cells + rm.cells) (slots + rm.slots) → (∀ x, x < h.size → Sfe Z EL b.vm h x → Sfe Z EL b'.vm h' x) → Q v h' (Sfe Z EL b'.vm h') → Goes p.tables e below P (T'.setTop (mkF m pc' Ls (v.toList ++ rest)))) : Goes p.tables e below P (T.setTop (mkF m pc Ls st)) := by
  subst hp
  obtain ⟨⟨vm0, k0, eb, g1, g2⟩, g3, g4⟩ := K.bs
  subst eb
  obtain ⟨v, vm1, ⟨T', L', c', n'⟩, -, X', hS', hsz', ⟨Lc, ⟨hF, hO', hQ⟩, l', y', z', hCH⟩, q⟩ := superBackS K.X K.hx K.hZ (y := yy) K.hown wl wsm wi wsu hni (own_back (s := s) (vm0 := vm0) (W := W) C K.hZ wc wz hfr hlo g4 g3.1 hSP K.kn.1 K.kn.2) K.eT E (g := mkF m pc Ls st) rfl (hsz.trans K.hml.symm) wc (argsL := argsL) (rest := rest) (lenOf hpd hlen) hst (by show 2 * 0 + _ ≤ _; rw [Nat.mul_zero, Nat.zero_add]; exact hW) (hb K.hby hd) (fun _ _ => ⟨rfl, K.eT, hce, hsl⟩)
  dsimp only [Pt.U, Pt.locs, Pt.cells, Pt.slots] at X' l' y' z' q hQ hCH hS' hsz' hO'
  subst l' y' z'
  exact go (fun _ z => q.trans z) (k _ _ _ _ _ (wk_called K (b0 := (s.setVm vm0)) rfl X' hS' hsz' hCH hF hO') (fun x hx z => CHr.safe hCH hx z) hQ)
theorem k_superP (K : Wk p l e R s m args below meth c Z a0 EL n0 y bytes maxL ret b T h locs cells slots) {i : Nat} {yy : MethodName} {yb : ByteArray} {yml : Nat} {yret : Option FieldType} {rm : Room} {SP : List Addr} {ps : List FieldType} {r : Option FieldType} (argsL rest : List Value) (W : Nat) {a : Addr} {C0 : String} (wl : (Cond.methodLink y.cls i yy).before a0 Z = true) (wsm : (Cond.sameMethod yy.cls yy.cls yy.name yy.desc).before a0 Z = true) (wi : (Cond.instanceMethod yy).before a0 Z = true) (wsu : (Cond.superclass y.cls yy.cls).before a0 Z = true) (hni : yy.name ≠ "<init>") (wz : (Cond.initialized yy.cls).before a0 Z = true) (wc : (Cond.code yy yb yml yret).before a0 Z = true) (E : Ins Z h a C0 true) (hy : yy.cls ≠ "java/lang/invoke/MethodHandle" ∧ yy.cls ≠ "java/lang/invoke/VarHandle") (hpd : parseMethodDescriptor yy.desc = some ⟨ps, r⟩) {vv : Option Value} (C : Ct l Z EL n0 yy yb yml yret rm (.ref a :: argsL).toArray h SP (Pu vv h)) (hd : decode bytes pc = .ok (.invokespecial i, 3)) (hSP : ∀ x ∈ SP, x < h.size ∧ Sfe Z EL b.vm h x) (hp : pc + 3 = pc') (hsz : Ls.size = maxL) (hlen : argsL.length = ps.length) (hst : st = argsL.reverse ++ .ref a :: rest) (hW : (rest.map fun v => v.category).sum ≤ W) (hfr : rm.frames + 1 ≤ R.frames) (hlo : W + (yml + 11) + rm.locals ≤ R.locals) (hce : cells + rm.cells ≤ R.cells) (hsl : slots + rm.slots ≤ R.slots) (k : ∀ b' T' locs', Wk p l e R s m args below meth c Z a0 EL n0 y bytes maxL ret b' T' h locs' (cells + rm.cells) (slots + rm.slots) → (∀ x, x < h.size → Sfe Z EL b.vm h x → Sfe Z EL b'.vm h x) → Goes p.tables e below P (T'.setTop (mkF m pc' Ls (vv.toList ++ rest)))) : Goes p.tables e below P (T.setTop (mkF m pc Ls st)) := k_super K argsL rest W wl wsm wi wsu hni wz wc E hy hpd C hd hSP hp hsz hlen hst hW hfr hlo hce hsl (fun b' T' h' locs' v K' tr q => by obtain ⟨rfl, rfl⟩ := q; exact k _ _ _ K' tr)
theorem k_initO (K : Wk p l e R s m args below meth c Z a0 EL n0 y bytes maxL ret b T h locs cells slots) {i : Nat} {a : Addr} (wl : (Cond.methodLink y.cls i Lib.objectInit).before a0 Z = true) (wi : (Cond.instanceMethod Lib.objectInit).before a0 Z = true) (wc : (Cond.code Lib.objectInit ⟨#[0xb1]⟩ 1 none).before a0 Z = true) (hd : decode bytes pc = .ok (.invokespecial i, 3)) (hp : pc + 3 = pc') (hsz : Ls.size = maxL) (hfr : 1 ≤ R.frames) (W : Nat) (hW : (st.map fun v => v.category).sum ≤ W) (hlo : W + 12 ≤ R.locals) (k : ∀ T', Wk p l e R s m args below meth c Z a0 EL n0 y bytes maxL ret b T' h locs cells slots → Goes p.tables e below P (T'.setTop (mkF m pc' Ls st))) : Goes p.tables e below P (T.setTop (mkF m pc Ls (.ref a :: st))) := by
  subst hp
  obtain ⟨T', X', e', q⟩ := initO K.X K.hx K.hZ K.hown wl wi wc K.eT (g := mkF m pc Ls (.ref a :: st)) rfl (hsz.trans K.hml.symm) rfl (hb K.hby hd) hfr (W := W) (by show 2 * 0 + _ ≤ _; rw [Nat.mul_zero, Nat.zero_add]; exact hW) hlo
  exact go q (k T' (K.move X' e' K.fr K.old K.bs))
theorem k_ldcS (K : Wk p l e R s m args below meth c Z a0 EL n0 y bytes maxL ret b T h locs cells slots) {i : Nat} {text : String} {vs : List Value} {z : Int32} (wd : (Cond.stringLink y.cls i text).before a0 Z = true) (wS : ∀ a ∈ Bundle.stringAtoms, a.before a0 Z = true) (hmem : (y.cls, i) ∈ EL) (ht : (∀ c ∈ text.toList, c.toNat < 256) ∧ text.toList.map (fun c => Value.int (Jvm.Lit.byteI c.toNat.toUInt16)) = vs) (hz : ¬ z < 0) (hl : z.toNatClampNeg = vs.length) (n : Nat) (hn : 4 * text.toList.length ≤ n) (hbig : n ≤ 536870912) (hd : decode bytes pc = .ok (.ldc i, 2)) (hp : pc + 2 = pc') (hce : cells + 2 ≤ R.cells) (hsl : slots + (n + 4) ≤ R.slots) (k : ∀ b' T' h' a d kd, Wk p l e R s m args below meth c Z a0 EL n0 y bytes maxL ret b' T' h' locs (cells + 2) (slots + (n + 4)) → Ext h h' → (∀ x, x < h.size → Sfe Z EL b.vm h x → Sfe Z EL b'.vm h' x) → Exa Z h' a "java/lang/String" → Fld Z h' a "java/lang/String" "coder" "B" (.int 0) → Fld Z h' a "java/lang/String" "value" "[B" (.ref d) → Arv Z h' d kd .byte z vs (.int 0) → (∀ x, Sfe Z EL b'.vm h' x → x ≠ a ∧ x ≠ d) → Goes p.tables e below P (T'.setTop (mkF m pc' Ls (.ref a :: st)))) : Goes p.tables e below P (T.setTop (mkF m pc Ls st)) := by
  subst hp
  obtain ⟨⟨vm0, k0, eb, g1, g2⟩, g3, g4⟩ := K.bs
  subst eb
  obtain ⟨a, T', h', k1, d, kd, X', e', E', hS', hk1, hW, hf, A1, A2, A3, A4, -, -, hCr, -, hne, q⟩ := ldcCH K.X K.hx K.hZ K.hown wd wS K.eT g1 g2 g4 hmem g3.1 ht hz hl (g := mkF m pc Ls st) rfl (hb K.hby hd) hn hbig hce hsl
  exact go q (k (s.setVm T'.vm) T' h' a d kd ⟨X', e', K.fr, K.hx, hW, hf, K.hby, K.hml, K.hret, K.hlk, K.hnm, K.old.ext E', ⟨⟨T'.vm, k1, rfl, hS', hk1⟩, g3.trans hCr, g4⟩, own_kn K.kn (g1.1.alike.symm.trans hS'.1.alike)⟩ E' (fun x hx z => CHr.safe hCr hx z) A1 A2 A3 A4 hne)
theorem k_ldcO (K : Wk p l e R s m args below meth c Z a0 EL n0 y bytes maxL ret b T h locs cells slots) {i : Nat} {text : String} (wd : (Cond.stringLink y.cls i text).before a0 Z = true) (wS : ∀ a ∈ Bundle.stringAtoms, a.before a0 Z = true) (n : Nat) (hn : 4 * text.toList.length ≤ n) (hbig : n ≤ 536870912) (hd : decode bytes pc = .ok (.ldc i, 2)) (hp : pc + 2 = pc') (hce : cells + 2 ≤ R.cells) (hsl : slots + (n + 4) ≤ R.slots) (k : ∀ b' T' h' a, Wk p l e R s m args below meth c Z a0 EL n0 y bytes maxL ret b' T' h' locs (cells + 2) (slots + (n + 4)) → Ext h h' → (∀ x, x < h.size → Sfe Z EL b.vm h x → Sfe Z EL b'.vm h' x) → Goes p.tables e below P (T'.setTop (mkF m pc' Ls (.ref a :: st)))) : Goes p.tables e below P (T.setTop (mkF m pc Ls st)) := by
  subst hp
  obtain ⟨⟨vm0, k0, eb, g1, g2⟩, g3, g4⟩ := K.bs
  subst eb
  obtain ⟨a, T', h', k1, X', e', E', hS', hk1, hW, hf, hCr, -, q⟩ := ldcOH K.X K.hx K.hZ K.hown wd wS K.eT g1 g2 g4 g3.1 (g := mkF m pc Ls st) rfl (hb K.hby hd) hn hbig hce hsl
  exact go q (k (s.setVm T'.vm) T' h' a ⟨X', e', K.fr, K.hx, hW, hf, K.hby, K.hml, K.hret, K.hlk, K.hnm, K.old.ext E', ⟨⟨T'.vm, k1, rfl, hS', hk1⟩, g3.trans hCr, g4⟩, own_kn K.kn (g1.1.alike.symm.trans hS'.1.alike)⟩ E' (fun x hx z => CHr.safe hCr hx z))
end Own
abbrev Tb (a0 : Array Value) (Z : State) : Prop := ∀ d ∈ tables_1, d.before a0 Z = true
def EL0 : List (String × Nat) := consts_1
theorem own_refc {v : Value} (h : v.isRef = true) : v = .null ∨ ∃ r, v = .ref r := by cases v <;> simp_all [Value.isRef]
theorem own_n0 {Z : State} {n0 : Nat} {h : Heap} (O : Old Z n0 h) : n0 ≤ h.size := O.1 ▸ O.2.1
theorem own_ne {x a : Addr} {h : Heap} (q : x < h.size) (g : a = h.size) : x ≠ a := fun e => by rw [e, g] at q; exact Nat.lt_irrefl _ q
theorem own_ne2 {x a : Addr} {h : Heap} (q : x < h.size) (g : h.size ≤ a) : x ≠ a := Nat.ne_of_lt (Nat.lt_of_lt_of_le q g)
theorem own_old {Z : State} {n0 : Nat} {h : Heap} {a : Addr} (O : Old Z n0 h) (g : a = h.size) : n0 ≤ a := g ▸ own_n0 O
def Str (Z : State) (h : Heap) (a b : Addr) (k : ClassId) (cd z : Int32) (vs : List Value) : Prop := Exa Z h a "java/lang/String" ∧ Fld Z h a "java/lang/String" "coder" "B" (.int cd) ∧ Fld Z h a "java/lang/String" "value" "[B" (.ref b) ∧ Arv Z h b k .byte z vs (.int 0)
section StrFacts
variable {Z : State} {h h' : Heap} {a b x : Addr} {k : ClassId} {cd z : Int32} {vs : List Value} {sl : Nat} {v : Value} {ws : List Addr}
theorem Str.ext (S : Str Z h a b k cd z vs) (E : Ext h h') : Str Z h' a b k cd z vs := ⟨S.1.ext E, S.2.1.ext E, S.2.2.1.ext E, S.2.2.2.ext E⟩
theorem Str.keep (S : Str Z h a b k cd z vs) (K : Keep h h' ws) (q1 : a ∉ ws) (q2 : b ∉ ws) : Str Z h' a b k cd z vs := ⟨S.1.keep K, S.2.1.keep K q1, S.2.2.1.keep K q1, S.2.2.2.keep K q2⟩
theorem Str.other (S : Str Z h a b k cd z vs) (W : Wr h h' x sl v) (q1 : a ≠ x) (q2 : b ≠ x) : Str Z h' a b k cd z vs := ⟨S.1.wr W, S.2.1.other W (Or.inl q1), S.2.2.1.other W (Or.inl q1), S.2.2.2.other W q2⟩
theorem Str.lt (S : Str Z h a b k cd z vs) : a < h.size := S.1.lt
theorem Str.blt (S : Str Z h a b k cd z vs) : b < h.size := S.2.2.2.lt
end StrFacts
theorem own_i32 {a b : Int32} : a < b ↔ a.toInt < b.toInt := Int32.lt_iff_toInt_lt
theorem own_i32e {a b : Int32} (h : a.toInt = b.toInt) : a = b := Int32.toInt_inj.mp h
theorem own_0 : (0 : Int32).toInt = 0 := by decide
theorem own_1 : (1 : Int32).toInt = 1 := by decide
theorem own_255 : (255 : Int32).toInt = 255 := by decide
theorem own_add1 {i : Int32} {n : Nat} (h : i.toInt = n) (hn : n < 2147483647) : (i + 1).toInt = (n + 1 : Nat) := by
  rw [XT.add32 (by rw [h, own_1]; constructor <;> omega), h, own_1]; omega
theorem own_clamp {i : Int32} {n : Nat} (h : i.toInt = n) : i.toNatClampNeg = n := by rw [Int32.toNatClampNeg, h]; rfl
theorem own_in {i z : Int32} {n m : Nat} (h : i.toInt = n) (hz : z.toInt = m) (q : n < m) : ¬ i < 0 ∧ i < z := by
  rw [own_i32, own_i32, h, hz, own_0]; omega
def byteV (c : Int32) : Value := .int c.toInt8.toInt32
def preN : List Int32 → Nat
  | [] => 0
  | c :: t => if (255 : Int32) < c then 0 else preN t + 1
def fillL (cs : List Int32) (i : Nat) : List Value := (cs.take i).map byteV ++ List.replicate (cs.length - i) (.int 0)
theorem fillL_len (cs : List Int32) (i : Nat) (h : i ≤ cs.length) : (fillL cs i).length = cs.length := by simp [fillL]; omega
theorem fillL_zero (cs : List Int32) : fillL cs 0 = List.replicate cs.length (.int 0) := by simp [fillL]
theorem fillL_set (cs : List Int32) (i : Nat) (h : i < cs.length) : (fillL cs i).set i (byteV cs[i]) = fillL cs (i + 1) := by
  apply List.ext_getElem?
  intro j
  have e1 : (List.take i (List.map byteV cs)).length = i := by simp; omega
  simp only [fillL, List.getElem?_set, List.map_take, List.getElem?_append, List.length_take, List.length_map, List.getElem?_take, List.getElem?_map, List.getElem?_replicate, List.length_append, List.length_replicate]
  rcases Nat.lt_trichotomy j i with q | q | q
  · simp [show ¬ i = j by omega, show j < i by omega, show j < i + 1 by omega, show j < cs.length by omega, show i < cs.length by omega, Nat.min_eq_left (show i ≤ cs.length by omega), Nat.min_eq_left (show i + 1 ≤ cs.length by omega)]
  · subst q; simp [h, Nat.min_eq_left (show j ≤ cs.length by omega), Nat.min_eq_left (show j + 1 ≤ cs.length by omega)]; omega
  · simp [show ¬ i = j by omega, show ¬ j < i by omega, show ¬ j < i + 1 by omega, Nat.min_eq_left (show i ≤ cs.length by omega), Nat.min_eq_left (show i + 1 ≤ cs.length by omega), show ¬ j < i from by omega]
    congr 1
    apply propext; omega
theorem preN_le : ∀ cs : List Int32, preN cs ≤ cs.length
  | [] => Nat.le_refl _
  | c :: t => by unfold preN; split <;> simp; exact preN_le t
theorem preN_at : ∀ (cs : List Int32) (i : Nat) (h : i < cs.length), (∀ j (hj : j < i), ¬ (255 : Int32) < cs[j]) → (255 : Int32) < cs[i] → preN cs = i
  | c :: t, 0, h, _, q => by unfold preN; exact if_pos q
  | c :: t, i + 1, h, hl, q => by
    unfold preN
    have h0 : ¬ (255 : Int32) < c := hl 0 (by omega)
    rw [if_neg h0, preN_at t i (by simpa using h) (fun j hj => hl (j + 1) (by omega)) q]
theorem preN_all : ∀ (cs : List Int32), (∀ j (hj : j < cs.length), ¬ (255 : Int32) < cs[j]) → preN cs = cs.length
  | [], _ => rfl
  | c :: t, h => by
    have h0 : ¬ (255 : Int32) < c := h 0 (by simp)
    unfold preN; rw [if_neg h0, preN_all t fun j hj => h (j + 1) (by simpa using hj)]; rfl
theorem own_byte (c : Int32) : nar .byte c.toInt8.toInt32 = c.toInt8.toInt32 := by simp [nar]
theorem own_getD (cs : List Int32) (i : Nat) (h : i < cs.length) : (cs.map Value.int).getD i (.int 0) = .int cs[i] := by simp [List.getD_eq_getElem?_getD, h]
def loB (c : Int32) : Value := .int ((c >>> ((0 : Int32) &&& 31)).toInt8.toInt32)
def hiB (c : Int32) : Value := .int ((c >>> ((8 : Int32) &&& 31)).toInt8.toInt32)
def fill2 (cs : List Int32) (i : Nat) : List Value := (cs.take i).flatMap (fun c => [loB c, hiB c]) ++ List.replicate (2 * (cs.length - i)) (.int 0)
theorem flat_len (cs : List Int32) : (cs.flatMap (fun c => [loB c, hiB c])).length = 2 * cs.length := by
  induction cs with
  | nil => rfl
  | cons c t ih => simp only [List.flatMap_cons, List.length_append, ih, List.length_cons, List.length_nil]; omega
theorem fill2_len (cs : List Int32) (i : Nat) (h : i ≤ cs.length) : (fill2 cs i).length = 2 * cs.length := by
  simp only [fill2, List.length_append, flat_len, List.length_take, List.length_replicate]; omega
theorem fill2_zero (cs : List Int32) : fill2 cs 0 = List.replicate (2 * cs.length) (.int 0) := by simp [fill2]
theorem fill2_set (cs : List Int32) (i : Nat) (h : i < cs.length) : ((fill2 cs i).set (2 * i) (loB cs[i])).set (2 * i + 1) (hiB cs[i]) = fill2 cs (i + 1) := by
  have e0 : (cs.take i).length = i := by simp; omega
  have e1 : ((cs.take i).flatMap (fun c => [loB c, hiB c])).length = 2 * i := by rw [flat_len, e0]
  have e2 : 2 * (cs.length - i) = (2 * (cs.length - (i + 1)) + 1) + 1 := by omega
  have e3 : cs.take (i + 1) = cs.take i ++ [cs[i]] := by rw [List.take_succ_eq_append_getElem h]
  unfold fill2
  rw [e3, e2, List.replicate_succ, List.replicate_succ, List.flatMap_append]
  rw [List.set_append_right _ _ (by rw [e1]; exact Nat.le_refl _), e1, Nat.sub_self]
  rw [List.set_append_right _ _ (by rw [e1]; omega), e1, show 2 * i + 1 - 2 * i = 1 by omega]
  simp
theorem fill2_lo (cs : List Int32) (j : Nat) (h : j < cs.length) : (fill2 cs cs.length).getD (2 * j) (.int 0) = loB cs[j] := by
  unfold fill2
  rw [List.take_length, Nat.sub_self, Nat.mul_zero, List.replicate_zero, List.append_nil]
  induction cs generalizing j with
  | nil => exact absurd h (Nat.not_lt_zero _)
  | cons c t ih =>
    cases j with
    | zero => rfl
    | succ j => rw [List.flatMap_cons, show 2 * (j + 1) = 2 * j + 1 + 1 by omega]; exact ih j (by simpa using h)
theorem fill2_hi (cs : List Int32) (j : Nat) (h : j < cs.length) : (fill2 cs cs.length).getD (2 * j + 1) (.int 0) = hiB cs[j] := by
  unfold fill2
  rw [List.take_length, Nat.sub_self, Nat.mul_zero, List.replicate_zero, List.append_nil]
  induction cs generalizing j with
  | nil => exact absurd h (Nat.not_lt_zero _)
  | cons c t ih =>
    cases j with
    | zero => rfl
    | succ j => rw [List.flatMap_cons, show 2 * (j + 1) + 1 = 2 * j + 1 + 1 + 1 by omega]; exact ih j (by simpa using h)
theorem own_dbl {i : Int32} {n : Nat} (h : i.toInt = n) (hn : n < 1000000000) : (i <<< ((1 : Int32) &&& 31)).toInt = (2 * n : Nat) := by
  have hb : i.toBitVec.toNat = n := by
    have q : i.toBitVec.toInt = n := h
    rw [BitVec.toInt_eq_toNat_cond] at q
    have := i.toBitVec.isLt
    split at q <;> omega
  have e1 : (i <<< ((1 : Int32) &&& 31)).toBitVec = i.toBitVec <<< 1 := rfl
  have e2 : (i.toBitVec <<< 1).toNat = 2 * n := by rw [BitVec.toNat_shiftLeft, hb, Nat.shiftLeft_eq]; omega
  show (i <<< ((1 : Int32) &&& 31)).toBitVec.toInt = _
  rw [e1, BitVec.toInt_eq_toNat_cond, e2]; split <;> omega
theorem own_nat {c : Int32} {n : Nat} (h : c.toInt = n) : c.toBitVec.toNat = n := by
  have q : c.toBitVec.toInt = n := h
  have hn : c.toInt < 2 ^ 31 := Int32.toInt_lt c
  rw [BitVec.toInt_eq_toNat_cond] at q
  have := c.toBitVec.isLt
  split at q <;> omega
theorem own_toInt {c : Int32} (h : c.toBitVec.toNat < 2147483648) : c.toInt = c.toBitVec.toNat := by
  show c.toBitVec.toInt = _
  rw [BitVec.toInt_eq_toNat_cond]; split <;> omega
theorem own_i2cN (x : Int32) : (x.toUInt32.toUInt16.toUInt32.toInt32).toBitVec.toNat = x.toBitVec.toNat % 65536 := by
  have e : (x.toUInt32.toUInt16.toUInt32.toInt32).toBitVec = (x.toBitVec.setWidth 16).setWidth 32 := rfl
  rw [e, BitVec.toNat_setWidth, BitVec.toNat_setWidth]; omega
theorem own_i2c (x : Int32) : 0 ≤ (x.toUInt32.toUInt16.toUInt32.toInt32).toInt ∧ (x.toUInt32.toUInt16.toUInt32.toInt32).toInt < 65536 := by
  have h := own_i2cN x
  rw [own_toInt (by rw [h]; omega), h]; omega
theorem own_i2cI {c : Int32} (h1 : 0 ≤ c.toInt) (h2 : c.toInt < 65536) : c.toUInt32.toUInt16.toUInt32.toInt32 = c := by
  obtain ⟨n, hn⟩ := Int.eq_ofNat_of_zero_le h1
  have e := own_nat hn
  apply Int32.toBitVec_inj.mp
  apply BitVec.eq_of_toNat_eq
  rw [own_i2cN, e]; omega
theorem own_narrowc {c : Int32} (h1 : 0 ≤ c.toInt) (h2 : c.toInt < 65536) : narrow .char (.int c) = .int c := by
  show Value.int c.toUInt32.toUInt16.toUInt32.toInt32 = _
  rw [own_i2cI h1 h2]
theorem own_shr0 (n : Int32) : n >>> ((0 : Int32) &&& 31) = n := by
  apply Int32.toBitVec_inj.mp
  show n.toBitVec.sshiftRight 0 = n.toBitVec
  simp
theorem own_low (x : Int32) : (x.toInt8.toInt32 &&& 255).toBitVec.toNat = x.toBitVec.toNat % 256 := by
  have e : (x.toInt8.toInt32 &&& 255).toBitVec = ((x.toBitVec.signExtend 8).signExtend 32) &&& 255#32 := rfl
  have e8 : x.toBitVec.signExtend 8 = x.toBitVec.setWidth 8 := BitVec.signExtend_eq_setWidth_of_le _ (by decide)
  have e2 : ((x.toBitVec.setWidth 8).signExtend 32) &&& 255#32 = (x.toBitVec.setWidth 8).setWidth 32 := by
    apply BitVec.eq_of_getLsbD_eq
    intro i hi
    have h255 : (255#32).getLsbD i = decide (i < 8) := by
      have := (by decide : ∀ i : Fin 32, (255#32).getLsbD i.val = decide (i.val < 8)) ⟨i, hi⟩
      exact this
    rw [BitVec.getLsbD_and, h255, BitVec.getLsbD_signExtend, BitVec.getLsbD_setWidth]
    by_cases q : i < 8
    · simp [hi, q]
    · simp [q]
  rw [e, e8, e2, BitVec.toNat_setWidth, BitVec.toNat_setWidth]; omega
theorem own_dblN {i : Int32} {n : Nat} (h : i.toInt = n) (hn : n < 1000000000) : (i <<< ((1 : Int32) &&& 31)).toBitVec.toNat = 2 * n := by
  show (i.toBitVec <<< 1).toNat = _
  rw [BitVec.toNat_shiftLeft, own_nat h, Nat.shiftLeft_eq]; omega
theorem own_half {n : Int32} {m : Nat} (hn : n.toInt = m) (hm : m ≤ 4000) : (n <<< ((1 : Int32) &&& 31)) >>> ((1 : Int32) &&& 31) = n := by
  have e := own_dblN hn (by omega)
  generalize n <<< ((1 : Int32) &&& 31) = z at e
  apply Int32.toBitVec_inj.mp
  apply BitVec.eq_of_toNat_eq
  show (z.toBitVec.sshiftRight 1).toNat = _
  rw [BitVec.sshiftRight_eq_of_msb_false (by rw [BitVec.msb_eq_decide, e]; simp; omega), BitVec.toNat_ushiftRight, e, Nat.shiftRight_eq_div_pow, own_nat hn]; omega
theorem own_ush0 (n : Int32) : (Jvm.Free.XT.ushr (n - n) (31 : Int32)).toInt8.toInt32 = 0 := by
  have e : n - n = 0 := by simp
  rw [e]; decide
theorem own_ush1 {n : Int32} {m : Nat} (hn : n.toInt = m) (h1 : 1 ≤ m) (hm : m ≤ 4000) : (Jvm.Free.XT.ushr (n - n <<< ((1 : Int32) &&& 31)) (31 : Int32)).toInt8.toInt32 = 1 := by
  have e := own_dblN hn (by omega)
  have e1 : Jvm.Free.XT.ushr (n - n <<< ((1 : Int32) &&& 31)) (31 : Int32) = 1 := by
    generalize n <<< ((1 : Int32) &&& 31) = z at e
    apply Int32.toBitVec_inj.mp
    apply BitVec.eq_of_toNat_eq
    show ((n.toBitVec - z.toBitVec) >>> 31).toNat = 1
    rw [BitVec.toNat_ushiftRight, BitVec.toNat_sub, own_nat hn, e, Nat.shiftRight_eq_div_pow]; omega
  rw [e1]; decide
theorem own_join (c : Int32) (h1 : 0 ≤ c.toInt) (h2 : c.toInt < 65536) : ((((c >>> ((0 : Int32) &&& 31)).toInt8.toInt32 &&& 255) <<< ((0 : Int32) &&& 31)) ||| (((c >>> ((8 : Int32) &&& 31)).toInt8.toInt32 &&& 255) <<< ((8 : Int32) &&& 31))).toUInt32.toUInt16.toUInt32.toInt32 = c := by
  obtain ⟨n, hn⟩ := Int.eq_ofNat_of_zero_le h1
  have e := own_nat hn
  have hN : n < 65536 := by omega
  rw [own_shr0]
  have a1 := own_low c
  have a2 := own_low (c >>> ((8 : Int32) &&& 31))
  have s8 : (c >>> ((8 : Int32) &&& 31)).toBitVec.toNat = n / 256 := by
    show (c.toBitVec.sshiftRight 8).toNat = _
    rw [BitVec.sshiftRight_eq_of_msb_false (by rw [BitVec.msb_eq_decide, e]; simp; omega), BitVec.toNat_ushiftRight, e, Nat.shiftRight_eq_div_pow]
  rw [s8] at a2
  rw [e] at a1
  generalize (c.toInt8.toInt32 &&& 255) = p at a1
  generalize ((c >>> ((8 : Int32) &&& 31)).toInt8.toInt32 &&& 255) = q at a2
  apply Int32.toBitVec_inj.mp
  apply BitVec.eq_of_toNat_eq
  rw [own_i2cN, e]
  have b1 : (p <<< ((0 : Int32) &&& 31)).toBitVec = p.toBitVec := by
    show p.toBitVec <<< 0 = _
    simp
  have b2 : (q <<< ((8 : Int32) &&& 31)).toBitVec.toNat = (n / 256 % 256) * 256 := by
    show (q.toBitVec <<< 8).toNat = _
    rw [BitVec.toNat_shiftLeft, a2, Nat.shiftLeft_eq]; omega
  have b3 : (p <<< ((0 : Int32) &&& 31) ||| q <<< ((8 : Int32) &&& 31)).toBitVec.toNat = n % 256 ||| (n / 256 % 256) * 256 := by
    show ((p <<< ((0 : Int32) &&& 31)).toBitVec ||| (q <<< ((8 : Int32) &&& 31)).toBitVec).toNat = _
    rw [BitVec.toNat_or, b1, b2, a1]
  rw [b3]
  have b4 : n % 256 ||| (n / 256 % 256) * 256 = n := by
    rw [Nat.or_comm, Nat.mul_comm, show (256 : Nat) = 2 ^ 8 by decide, ← Nat.two_pow_add_eq_or_of_lt (Nat.mod_lt _ (by decide))]; omega
  rw [b4]; omega
theorem preN_gt : ∀ (cs : List Int32) (h : preN cs < cs.length), (255 : Int32) < cs[preN cs]
  | [], h => absurd h (Nat.not_lt_zero _)
  | c :: t, h => by
    by_cases q : (255 : Int32) < c
    · have e : preN (c :: t) = 0 := if_pos q
      simpa [e] using q
    · have e : preN (c :: t) = preN t + 1 := if_neg q
      have h2 : preN t < t.length := by rw [e] at h; simpa using h
      simpa [e] using preN_gt t h2
def strCd (cs : List Int32) : Int32 := if preN cs = cs.length then 0 else 1
def strVs (cs : List Int32) : List Value := if preN cs = cs.length then fillL cs cs.length else fill2 cs cs.length
def strZ (n : Int32) (cs : List Int32) : Int32 := if preN cs = cs.length then n else n <<< ((1 : Int32) &&& 31)
theorem strCd_01 (cs : List Int32) : strCd cs = 0 ∨ strCd cs = 1 := by unfold strCd; split <;> simp
theorem strCd_n (cs : List Int32) : narrow .byte (.int (strCd cs)) = .int (strCd cs) := by rcases strCd_01 cs with q | q <;> rw [q] <;> rfl
theorem strCd_f (cs : List Int32) : fits .byte (.int (strCd cs)) = true := by rcases strCd_01 cs with q | q <;> rw [q] <;> rfl
theorem own_ofN {n : Nat} (h : n ≤ 4000) : (Int32.ofNat n).toInt = n := Int32.toInt_ofNat_of_lt (by omega)
theorem own_cfal {n : Int32} {cs : List Int32} (hn : n.toInt = cs.length) (h1 : 1 ≤ cs.length) (hb : cs.length ≤ 4000) : ((XT.ushr (n - strZ n cs) (31 : Int32)).toInt8.toInt32) = strCd cs := by
  unfold strZ strCd
  split
  · exact own_ush0 n
  · exact own_ush1 hn h1 hb
theorem own_len {n : Int32} {cs : List Int32} (hn : n.toInt = cs.length) (hb : cs.length ≤ 4000) : strZ n cs >>> (strCd cs &&& 31) = n := by
  unfold strZ strCd
  split
  · exact own_shr0 n
  · exact own_half hn hb
theorem preN_lat {cs : List Int32} (h : ∀ c ∈ cs, 0 ≤ c.toInt ∧ c.toInt < 256) : preN cs = cs.length := preN_all cs fun j hj => by
  rw [own_i32, own_255]; have := (h cs[j] (List.getElem_mem hj)).2; omega
theorem own_strCd {cs : List Int32} (h : ∀ c ∈ cs, 0 ≤ c.toInt ∧ c.toInt < 256) : strCd cs = 0 := if_pos (preN_lat h)
theorem own_strZ {n : Int32} {cs : List Int32} (h : ∀ c ∈ cs, 0 ≤ c.toInt ∧ c.toInt < 256) : strZ n cs = n := if_pos (preN_lat h)
theorem own_strVs {cs : List Int32} (h : ∀ c ∈ cs, 0 ≤ c.toInt ∧ c.toInt < 256) : strVs cs = (cs.map fun c => c.toInt8.toInt32).map Value.int := by
  rw [strVs, if_pos (preN_lat h), fillL, List.take_length, Nat.sub_self, List.replicate_zero, List.append_nil, List.map_map]; rfl
theorem own_ch8 {c : Int32} (h : 0 ≤ c.toInt ∧ c.toInt < 256) : (c.toInt8.toInt32 &&& 255).toUInt32.toUInt16.toUInt32.toInt32 = c := by
  obtain ⟨n, hn⟩ := Int.eq_ofNat_of_zero_le h.1
  have e := own_nat hn
  apply Int32.toBitVec_inj.mp
  apply BitVec.eq_of_toNat_eq
  rw [own_i2cN, own_low, e]; omega
theorem preN_low : ∀ (cs : List Int32), preN cs = cs.length → ∀ c ∈ cs, ¬ (255 : Int32) < c
  | [], _, c, q => nomatch q
  | c :: t, h, d, hd => by
    unfold preN at h
    split at h
    · simp at h
    · rename_i q
      rcases List.mem_cons.mp hd with rfl | r
      · exact q
      · exact preN_low t (by simpa using h) d r
theorem strVs_lat {cs : List Int32} (ep : preN cs = cs.length) : strVs cs = (cs.map fun c => c.toInt8.toInt32).map Value.int := by
  rw [strVs, if_pos ep, fillL, List.take_length, Nat.sub_self, List.replicate_zero, List.append_nil, List.map_map]; rfl
theorem own_ifNe {P : Prop} [Decidable P] (h : ¬ (if P then (1 : Int32) else 0) = 0) : P := Classical.byContradiction fun q => h (if_neg q)
theorem own_ifEq {P : Prop} [Decidable P] (h : (if P then (1 : Int32) else 0) = 0) : ¬ P := fun q => by rw [if_pos q] at h; exact absurd h (by decide)
def Sbd (Z : State) (h : Heap) (sb d : Addr) (kd : ClassId) (cp : Int32) (xs : List Int32) (ys : List Value) : Prop := Exa Z h sb "java/lang/StringBuilder" ∧ Fld Z h sb "java/lang/AbstractStringBuilder" "value" "[B" (.ref d) ∧ Fld Z h sb "java/lang/AbstractStringBuilder" "coder" "B" (.int 0) ∧ Fld Z h sb "java/lang/AbstractStringBuilder" "count" "I" (.int (Int32.ofNat xs.length)) ∧ Arv Z h d kd .byte cp (xs.map Value.int ++ ys) (.int 0) ∧ Exa Z h d "[B" ∧ cp.toInt = (xs.length + ys.length : Nat) ∧ xs.length + ys.length ≤ 142
theorem own_shl0 (n : Int32) : n <<< ((0 : Int32) &&& 31) = n := by
  apply Int32.toBitVec_inj.mp
  show n.toBitVec <<< 0 = n.toBitVec
  simp
theorem own_range0 (vs : List Value) (n : Nat) (h : n ≤ vs.length) : (List.range n).map (fun i => vs.getD ((0 : Int32).toNatClampNeg + i) (.int 0)) = vs.take n := by
  apply List.ext_getElem?
  intro j
  have e0 : (0 : Int32).toNatClampNeg = 0 := by decide
  simp only [List.getElem?_map, List.getElem?_take, List.getD_eq_getElem?_getD, e0, Nat.zero_add]
  by_cases q : j < n
  · have q2 : j < vs.length := Nat.lt_of_lt_of_le q h
    simp [q, q2]
  · simp [q]
theorem own_of {n : Nat} (h : n ≤ 100000) : (Int32.ofNat n).toInt = n := Int32.toInt_ofNat_of_lt (by omega)
theorem own_sumN {a b : Nat} {y : Int32} (hy : y.toInt = b) (h : a + b ≤ 100000) : Int32.ofNat a + y = Int32.ofNat (a + b) := own_i32e (by
  rw [XT.add32 (by rw [own_of (by omega), hy]; constructor <;> omega), own_of (by omega), hy, own_of h]; omega)
theorem own_i16 : (16 : Int32).toInt = 16 := by decide
theorem own_2 : (2 : Int32).toInt = (2 : Nat) := by decide
theorem own_sub {a b : Int32} {i j : Nat} (ha : a.toInt = i) (hb : b.toInt = j) (h : j ≤ i) (hi : i ≤ 100000) : (a - b).toInt = (i - j : Nat) := by
  rw [XT.sub32 (by rw [ha, hb]; constructor <;> omega), ha, hb]; omega
theorem own_sum2 {a b : Int32} {i j : Nat} (ha : a.toInt = i) (hb : b.toInt = j) (h : i + j ≤ 100000) : (a + b).toInt = (i + j : Nat) := by
  rw [XT.add32 (by rw [ha, hb]; constructor <;> omega), ha, hb]; omega
theorem own_put (xs bs : List Int32) (ys : List Value) (h : bs.length ≤ ys.length) : (xs.map Value.int ++ ys).take xs.length ++ bs.map Value.int ++ (xs.map Value.int ++ ys).drop (xs.length + bs.length) = (xs ++ bs).map Value.int ++ ys.drop bs.length := by
  have e1 : (xs.map Value.int ++ ys).take xs.length = xs.map Value.int := by
    rw [List.take_append_of_le_length (by rw [List.length_map]; exact Nat.le_refl _), List.take_of_length_le (by rw [List.length_map]; exact Nat.le_refl _)]
  have e2 : (xs.map Value.int ++ ys).drop (xs.length + bs.length) = ys.drop bs.length := by
    rw [List.drop_append]; simp
  rw [e1, e2, List.map_append]
theorem d_jdk_68_method_2_code_0 : decode jdk_68_method_2_code 0 = .ok (.aload_n 0, 1) := by decide +kernel
theorem d_jdk_68_method_2_code_1 : decode jdk_68_method_2_code 1 = .ok (.invokespecial 3, 3) := by decide +kernel
theorem w96 {Z : State} {a0 : Array Value} (hw : Tb a0 Z) : (Jvm.Cond.methodLink "java/lang/AbstractStringBuilder" (3 : Nat) ({ cls := "java/lang/Object", name := "<init>", desc := "()V" } : Jvm.MethodName)).before a0 Z = true := hw _ (List.mem_of_getElem? (i := 96) rfl)
theorem w41 {Z : State} {a0 : Array Value} (hw : Tb a0 Z) : (Jvm.Cond.instanceMethod ({ cls := "java/lang/Object", name := "<init>", desc := "()V" } : Jvm.MethodName)).before a0 Z = true := hw _ (List.mem_of_getElem? (i := 41) rfl)
theorem w42 {Z : State} {a0 : Array Value} (hw : Tb a0 Z) : (Jvm.Cond.code ({ cls := "java/lang/Object", name := "<init>", desc := "()V" } : Jvm.MethodName) object_method_1_code (1 : Nat) (Option.none : Option Jvm.ClassFile.FieldType)).before a0 Z = true := hw _ (List.mem_of_getElem? (i := 42) rfl)
theorem d_jdk_68_method_2_code_4 : decode jdk_68_method_2_code 4 = .ok (.getstatic 18, 3) := by decide +kernel
theorem w97 {Z : State} {a0 : Array Value} (hw : Tb a0 Z) : (Jvm.Cond.fieldLink "java/lang/AbstractStringBuilder" (18 : Nat) "java/lang/String" "COMPACT_STRINGS" "Z").before a0 Z = true := hw _ (List.mem_of_getElem? (i := 97) rfl)
theorem d_jdk_68_method_2_code_7 : decode jdk_68_method_2_code 7 = .ok (.ifCond .eq 18, 3) := by decide +kernel
theorem d_jdk_68_method_2_code_10 : decode jdk_68_method_2_code 10 = .ok (.aload_n 0, 1) := by decide +kernel
theorem d_jdk_68_method_2_code_11 : decode jdk_68_method_2_code 11 = .ok (.iload_n 1, 1) := by decide +kernel
theorem d_jdk_68_method_2_code_12 : decode jdk_68_method_2_code 12 = .ok (.newarray .byte, 2) := by decide +kernel
theorem w99 {Z : State} {a0 : Array Value} (hw : Tb a0 Z) : (Jvm.Cond.arrayClass Jvm.ClassFile.FieldType.byte).before a0 Z = true := hw _ (List.mem_of_getElem? (i := 99) rfl)
theorem d_jdk_68_method_2_code_14 : decode jdk_68_method_2_code 14 = .ok (.putfield 15, 3) := by decide +kernel
theorem w100 {Z : State} {a0 : Array Value} (hw : Tb a0 Z) : (Jvm.Cond.fieldLink "java/lang/AbstractStringBuilder" (15 : Nat) "java/lang/AbstractStringBuilder" "value" "[B").before a0 Z = true := hw _ (List.mem_of_getElem? (i := 100) rfl)
theorem w101 {Z : State} {a0 : Array Value} (hw : Tb a0 Z) : (Jvm.Cond.lays "java/lang/StringBuilder" "java/lang/AbstractStringBuilder" "value" "[B").before a0 Z = true := hw _ (List.mem_of_getElem? (i := 101) rfl)
theorem w85 {Z : State} {a0 : Array Value} (hw : Tb a0 Z) : (Jvm.Cond.instantiable "java/lang/StringBuilder" (4 : Nat)).before a0 Z = true := hw _ (List.mem_of_getElem? (i := 85) rfl)
theorem w103 {Z : State} {a0 : Array Value} (hw : Tb a0 Z) : (Jvm.Cond.lays "java/lang/StringBuilder" "java/lang/AbstractStringBuilder" "coder" "B").before a0 Z = true := hw _ (List.mem_of_getElem? (i := 103) rfl)
theorem w134 {Z : State} {a0 : Array Value} (hw : Tb a0 Z) : (Jvm.Cond.lays "java/lang/StringBuilder" "java/lang/AbstractStringBuilder" "count" "I").before a0 Z = true := hw _ (List.mem_of_getElem? (i := 134) rfl)
theorem d_jdk_68_method_2_code_17 : decode jdk_68_method_2_code 17 = .ok (.aload_n 0, 1) := by decide +kernel
theorem d_jdk_68_method_2_code_18 : decode jdk_68_method_2_code 18 = .ok (.iconst 0, 1) := by decide +kernel
theorem d_jdk_68_method_2_code_19 : decode jdk_68_method_2_code 19 = .ok (.putfield 22, 3) := by decide +kernel
theorem w102 {Z : State} {a0 : Array Value} (hw : Tb a0 Z) : (Jvm.Cond.fieldLink "java/lang/AbstractStringBuilder" (22 : Nat) "java/lang/AbstractStringBuilder" "coder" "B").before a0 Z = true := hw _ (List.mem_of_getElem? (i := 102) rfl)
theorem d_jdk_68_method_2_code_22 : decode jdk_68_method_2_code 22 = .ok (.goto 16, 3) := by decide +kernel
theorem d_jdk_68_method_2_code_38 : decode jdk_68_method_2_code 38 = .ok (.return_, 1) := by decide +kernel
theorem pl_java_lang_AbstractStringBuilder : plainName "java/lang/AbstractStringBuilder" = true := by first | (simp [plainName, overriddenIn]; done) | decide +kernel
set_option maxRecDepth 65536 in
set_option maxHeartbeats 40000000 in
theorem c_asbinit (l : Launch) (Z : State) (a0 : Array Value) (hw : Tb a0 Z) (hEW : EW Z a0 EL0) (n0 : Nat) (sb : Addr) (u1 : Value) (cs0 : Int32) (h0 : Heap) (O : Old Z n0 h0) (X_sb : Exa Z h0 sb "java/lang/StringBuilder") (F_sb_value : Fld Z h0 sb "java/lang/AbstractStringBuilder" "value" "[B" u1) (F_sb_coder : Fld Z h0 sb "java/lang/AbstractStringBuilder" "coder" "B" (.int 0)) (F_sb_count : Fld Z h0 sb "java/lang/AbstractStringBuilder" "count" "I" (.int 0)) (ga_sb : n0 ≤ sb) (SC : Sta Z Z.heap "java/lang/String" "COMPACT_STRINGS" "Z" (.int cs0)) (hcs : ¬ cs0 = 0) :
    Ct l Z EL0 n0 (⟨"java/lang/AbstractStringBuilder", "<init>", "(I)V"⟩ : MethodName) jdk_68_method_2_code 2 none ({ frames := 1, cells := 1, slots := 16, locals := 12 } : Room) #[(.ref sb), (.int (16 : Int32))] h0 [sb] (fun v h sf => ∃ d kd, v = none ∧ h0.size ≤ d ∧ Keep h0 h [sb] ∧ Sbd Z h sb d kd 16 [] (List.replicate 16 (.int 0)) ∧ sf d) := by
  refine Ct.of (a0 := a0) #[.val (.ref sb), .val (.int (16 : Int32))] hEW O (plainFor_of_name pl_java_lang_AbstractStringBuilder) (fun m => by first | (simp [entryFrame, mkF, argsToLocals, Value.category]; done) | rfl) ?_
  intro p_ e_ s_ m_ below_ meth_ c_ b_ T_ K hSP hsh
  have KP := Keep.refl h0 [sb]
  have sf_sb := hSP sb (by simp)
  refine k_aloadN K d_jdk_68_method_2_code_0 (pc' := 1) rfl rfl rfl ?_
  refine k_initO K (w96 hw) (w41 hw) (w42 hw) d_jdk_68_method_2_code_1 (pc' := 4) rfl rfl (by decide) 0 (Nat.le_of_eq rfl) (by decide) ?_
  intro T1 K1
  refine k_getS K1 (w97 hw) Via.refl SC d_jdk_68_method_2_code_4 (pc' := 7) rfl ?_
  intro T2 K2
  refine k_if_eq K2 d_jdk_68_method_2_code_7 (by decide) (pc' := 25) (pc2 := 10) (by decide) rfl (fun q => absurd q hcs) (fun hc7 => ?_)
  refine k_aloadN K2 d_jdk_68_method_2_code_10 (pc' := 11) rfl rfl rfl ?_
  refine k_iloadN K2 d_jdk_68_method_2_code_11 (pc' := 12) rfl rfl ?_
  refine k_newarrayX K2 (aty := .byte) (z := (16 : Int32)) (w99 hw) (by decide) (cap := 16) (by decide) (by decide) d_jdk_68_method_2_code_12 (pc' := 14) rfl (by decide) (by decide) ?_
  intro T3 h3 a3 ka3 g3 K3 E3 tr3 sf_a3 V_a3 X_a3
  have ga_a3 : n0 ≤ a3 := own_old K2.old g3
  have sz_a3 : h0.size ≤ a3 := g3 ▸ KP.1
  have ne_sb_a3 : sb ≠ a3 := own_ne X_sb.lt g3
  replace sf_sb := tr3 sb X_sb.lt sf_sb
  replace X_sb := X_sb.ext E3
  replace F_sb_value := F_sb_value.ext E3
  replace F_sb_coder := F_sb_coder.ext E3
  replace F_sb_count := F_sb_count.ext E3
  replace KP := KP.ext E3
  replace V_a3 : Arv Z h3 a3 ka3 .byte (16 : Int32) (List.replicate 16 (.int (0 : Int32))) (.int (0 : Int32)) := V_a3.pad (pad_rep [] (.int (0 : Int32)) 16)
  replace X_a3 : Exa Z h3 a3 "[B" := X_a3
  refine k_putF K3 (w100 hw) Via.refl F_sb_value X_sb (Or.inl (w101 hw)) (w85 hw) (ty := (.array .byte)) (by decide) rfl rfl ga_sb sf_sb d_jdk_68_method_2_code_14 (pc' := 17) rfl ?_
  intro T4 h4 K4 W4 tr4
  have F4 := F_sb_value.same W4
  replace sf_sb := tr4 sb X_sb.lt sf_sb
  replace sf_a3 := tr4 a3 V_a3.lt sf_a3
  replace X_sb := X_sb.wr W4
  replace F_sb_coder := F_sb_coder.other W4 (Or.inr (slot_ne (Or.inl (w103 hw)) (Or.inl (w101 hw)) (by decide) (t := .byte) (t' := (.array .byte)) (by decide) (by decide)))
  replace F_sb_count := F_sb_count.other W4 (Or.inr (slot_ne (Or.inl (w134 hw)) (Or.inl (w101 hw)) (by decide) (t := .int) (t' := (.array .byte)) (by decide) (by decide)))
  replace V_a3 := V_a3.other W4 (Ne.symm ne_sb_a3)
  replace X_a3 := X_a3.wr W4
  replace KP := KP.wr W4 (Or.inl (by simp))
  replace F_sb_value := F4
  refine k_aloadN K4 d_jdk_68_method_2_code_17 (pc' := 18) rfl rfl rfl ?_
  refine k_iconst K4 (0 : Int32) d_jdk_68_method_2_code_18 (pc' := 19) rfl rfl ?_
  refine k_putF K4 (w102 hw) Via.refl F_sb_coder X_sb (Or.inl (w103 hw)) (w85 hw) (ty := .byte) (by decide) rfl rfl ga_sb sf_sb d_jdk_68_method_2_code_19 (pc' := 22) rfl ?_
  intro T5 h5 K5 W5 tr5
  have F5 := F_sb_coder.same W5
  replace sf_sb := tr5 sb X_sb.lt sf_sb
  replace sf_a3 := tr5 a3 V_a3.lt sf_a3
  replace X_sb := X_sb.wr W5
  replace F_sb_value := F_sb_value.other W5 (Or.inr (slot_ne (Or.inl (w101 hw)) (Or.inl (w103 hw)) (by decide) (t := (.array .byte)) (t' := .byte) (by decide) (by decide)))
  replace F_sb_count := F_sb_count.other W5 (Or.inr (slot_ne (Or.inl (w134 hw)) (Or.inl (w103 hw)) (by decide) (t := .int) (t' := .byte) (by decide) (by decide)))
  replace V_a3 := V_a3.other W5 (Ne.symm ne_sb_a3)
  replace X_a3 := X_a3.wr W5
  replace KP := KP.wr W5 (Or.inl (by simp))
  replace F_sb_coder := F5
  refine k_goto K5 d_jdk_68_method_2_code_22 (by decide) (pc' := 38) (by decide) ?_
  exact k_return K5 d_jdk_68_method_2_code_38 rfl (fun sf ht => ⟨a3, ka3, rfl, sz_a3, KP, ⟨X_sb, F_sb_value, F_sb_coder, F_sb_count, V_a3, X_a3, rfl, by decide⟩, ht _ V_a3.lt sf_a3⟩) (by decide) (by decide)
theorem d_jdk_67_method_1_code_0 : decode jdk_67_method_1_code 0 = .ok (.aload_n 0, 1) := by decide +kernel
theorem d_jdk_67_method_1_code_1 : decode jdk_67_method_1_code 1 = .ok (.bipush 16, 2) := by decide +kernel
theorem d_jdk_67_method_1_code_3 : decode jdk_67_method_1_code 3 = .ok (.invokespecial 1, 3) := by decide +kernel
theorem w90 {Z : State} {a0 : Array Value} (hw : Tb a0 Z) : (Jvm.Cond.methodLink "java/lang/StringBuilder" (1 : Nat) ({ cls := "java/lang/AbstractStringBuilder", name := "<init>", desc := "(I)V" } : Jvm.MethodName)).before a0 Z = true := hw _ (List.mem_of_getElem? (i := 90) rfl)
theorem w94 {Z : State} {a0 : Array Value} (hw : Tb a0 Z) : (Jvm.Cond.initialized "java/lang/AbstractStringBuilder").before a0 Z = true := hw _ (List.mem_of_getElem? (i := 94) rfl)
theorem w95 {Z : State} {a0 : Array Value} (hw : Tb a0 Z) : (Jvm.Cond.code ({ cls := "java/lang/AbstractStringBuilder", name := "<init>", desc := "(I)V" } : Jvm.MethodName) jdk_68_method_2_code (2 : Nat) (Option.none : Option Jvm.ClassFile.FieldType)).before a0 Z = true := hw _ (List.mem_of_getElem? (i := 95) rfl)
theorem w91 {Z : State} {a0 : Array Value} (hw : Tb a0 Z) : (Jvm.Cond.instanceMethod ({ cls := "java/lang/AbstractStringBuilder", name := "<init>", desc := "(I)V" } : Jvm.MethodName)).before a0 Z = true := hw _ (List.mem_of_getElem? (i := 91) rfl)
theorem pd__I_V_653 : parseMethodDescriptor "(I)V" = some ⟨[.int], none⟩ := by decide +kernel
theorem d_jdk_67_method_1_code_6 : decode jdk_67_method_1_code 6 = .ok (.return_, 1) := by decide +kernel
theorem pl_java_lang_StringBuilder : plainName "java/lang/StringBuilder" = true := by first | (simp [plainName, overriddenIn]; done) | decide +kernel
set_option maxRecDepth 65536 in
set_option maxHeartbeats 40000000 in
theorem c_sbinit (l : Launch) (Z : State) (a0 : Array Value) (hw : Tb a0 Z) (hEW : EW Z a0 EL0) (n0 : Nat) (sb : Addr) (u1 : Value) (cs0 : Int32) (h0 : Heap) (O : Old Z n0 h0) (X_sb : Exa Z h0 sb "java/lang/StringBuilder") (F_sb_value : Fld Z h0 sb "java/lang/AbstractStringBuilder" "value" "[B" u1) (F_sb_coder : Fld Z h0 sb "java/lang/AbstractStringBuilder" "coder" "B" (.int 0)) (F_sb_count : Fld Z h0 sb "java/lang/AbstractStringBuilder" "count" "I" (.int 0)) (ga_sb : n0 ≤ sb) (SC : Sta Z Z.heap "java/lang/String" "COMPACT_STRINGS" "Z" (.int cs0)) (hcs : ¬ cs0 = 0) :
    Ct l Z EL0 n0 (⟨"java/lang/StringBuilder", "<init>", "()V"⟩ : MethodName) jdk_67_method_1_code 1 none ({ frames := 2, cells := 1, slots := 16, locals := 25 } : Room) #[(.ref sb)] h0 [sb] (fun v h sf => ∃ d kd, v = none ∧ h0.size ≤ d ∧ Keep h0 h [sb] ∧ Sbd Z h sb d kd 16 [] (List.replicate 16 (.int 0)) ∧ sf d) := by
  refine Ct.of (a0 := a0) #[.val (.ref sb)] hEW O (plainFor_of_name pl_java_lang_StringBuilder) (fun m => by first | (simp [entryFrame, mkF, argsToLocals, Value.category]; done) | rfl) ?_
  intro p_ e_ s_ m_ below_ meth_ c_ b_ T_ K hSP hsh
  refine k_aloadN K d_jdk_67_method_1_code_0 (pc' := 1) rfl rfl rfl ?_
  refine k_bipush K (16 : Int32) d_jdk_67_method_1_code_1 (pc' := 3) rfl rfl ?_
  refine k_special K [(.int (16 : Int32))] [] 0 (w90 hw) (w91 hw) (w94 hw) (w95 hw) rfl rfl (by decide) pd__I_V_653 (c_asbinit l Z a0 hw hEW n0 sb u1 cs0 h0 K.old X_sb F_sb_value F_sb_coder F_sb_count ga_sb SC hcs) d_jdk_67_method_1_code_3 (fun x hx => by cases List.mem_singleton.mp hx; exact ⟨X_sb.lt, hSP sb (by simp)⟩) (pc' := 6) rfl rfl rfl rfl (Nat.le_of_eq rfl) (by decide) (by decide) (by decide) (by decide) ?_
  intro b6 T6 h6 L6 v6 K6 tr6 q6
  obtain ⟨d, kd, rfl, hd, KQ, B, sf_d⟩ := q6
  show Goes p_.tables e_ below_ _ (T6.setTop (mkF m_ 6 #[.val (.ref sb)] []))
  exact k_return K6 d_jdk_67_method_1_code_6 rfl (fun sf ht => ⟨d, kd, rfl, hd, KQ, B, ht _ B.2.2.2.2.1.lt sf_d⟩) (by decide) (by decide)
theorem d_jdk_29_method_65_code_0 : decode jdk_29_method_65_code 0 = .ok (.iload_n 0, 1) := by decide +kernel
theorem d_jdk_29_method_65_code_1 : decode jdk_29_method_65_code 1 = .ok (.iload_n 1, 1) := by decide +kernel
theorem d_jdk_29_method_65_code_2 : decode jdk_29_method_65_code 2 = .ok (.if_icmp .lt 7, 3) := by decide +kernel
theorem d_jdk_29_method_65_code_9 : decode jdk_29_method_65_code 9 = .ok (.iload_n 1, 1) := by decide +kernel
theorem d_jdk_29_method_65_code_10 : decode jdk_29_method_65_code 10 = .ok (.ireturn, 1) := by decide +kernel
theorem d_jdk_29_method_65_code_5 : decode jdk_29_method_65_code 5 = .ok (.iload_n 0, 1) := by decide +kernel
theorem d_jdk_29_method_65_code_6 : decode jdk_29_method_65_code 6 = .ok (.goto 4, 3) := by decide +kernel
set_option maxRecDepth 65536 in
set_option maxHeartbeats 40000000 in
theorem c_max (l : Launch) (Z : State) (a0 : Array Value) (hw : Tb a0 Z) (hEW : EW Z a0 EL0) (n0 : Nat) (i j : Int32) (h0 : Heap) (O : Old Z n0 h0)  :
    Ct l Z EL0 n0 (⟨"java/lang/Math", "max", "(II)I"⟩ : MethodName) jdk_29_method_65_code 2 (some .int) ({ frames := 0, cells := 0, slots := 0, locals := 0 } : Room) #[(.int i), (.int j)] h0 [] (Pu (some (.int (if i < j then j else i))) h0) := by
  refine Ct.of (a0 := a0) #[.val (.int i), .val (.int j)] hEW O (Jvm.Free.JP.mathPlain rfl (by decide +kernel)) (fun m => by first | (simp [entryFrame, mkF, argsToLocals, Value.category]; done) | rfl) ?_
  intro p_ e_ s_ m_ below_ meth_ c_ b_ T_ K hSP hsh
  refine k_iloadN K d_jdk_29_method_65_code_0 (pc' := 1) rfl rfl ?_
  refine k_iloadN K d_jdk_29_method_65_code_1 (pc' := 2) rfl rfl ?_
  refine k_icmp_lt K d_jdk_29_method_65_code_2 (by decide) (pc' := 9) (pc2 := 5) (by decide) rfl (fun hc2 => ?_) (fun hc2 => ?_)
  · refine k_iloadN K d_jdk_29_method_65_code_9 (pc' := 10) rfl rfl ?_
    exact k_iret K d_jdk_29_method_65_code_10 rfl (fun sf ht => ⟨by rw [if_pos hc2], rfl⟩) (by decide) (by decide)
  · refine k_iloadN K d_jdk_29_method_65_code_5 (pc' := 6) rfl rfl ?_
    refine k_goto K d_jdk_29_method_65_code_6 (by decide) (pc' := 10) (by decide) ?_
    exact k_iret K d_jdk_29_method_65_code_10 rfl (fun sf ht => ⟨by rw [if_neg hc2], rfl⟩) (by decide) (by decide)
theorem d_jdk_29_method_69_code_0 : decode jdk_29_method_69_code 0 = .ok (.iload_n 0, 1) := by decide +kernel
theorem d_jdk_29_method_69_code_1 : decode jdk_29_method_69_code 1 = .ok (.iload_n 1, 1) := by decide +kernel
theorem d_jdk_29_method_69_code_2 : decode jdk_29_method_69_code 2 = .ok (.if_icmp .gt 7, 3) := by decide +kernel
theorem d_jdk_29_method_69_code_9 : decode jdk_29_method_69_code 9 = .ok (.iload_n 1, 1) := by decide +kernel
theorem d_jdk_29_method_69_code_10 : decode jdk_29_method_69_code 10 = .ok (.ireturn, 1) := by decide +kernel
theorem d_jdk_29_method_69_code_5 : decode jdk_29_method_69_code 5 = .ok (.iload_n 0, 1) := by decide +kernel
theorem d_jdk_29_method_69_code_6 : decode jdk_29_method_69_code 6 = .ok (.goto 4, 3) := by decide +kernel
set_option maxRecDepth 65536 in
set_option maxHeartbeats 40000000 in
theorem c_mmin (l : Launch) (Z : State) (a0 : Array Value) (hw : Tb a0 Z) (hEW : EW Z a0 EL0) (n0 : Nat) (i j : Int32) (h0 : Heap) (O : Old Z n0 h0)  :
    Ct l Z EL0 n0 (⟨"java/lang/Math", "min", "(II)I"⟩ : MethodName) jdk_29_method_69_code 2 (some .int) ({ frames := 0, cells := 0, slots := 0, locals := 0 } : Room) #[(.int i), (.int j)] h0 [] (Pu (some (.int (if j < i then j else i))) h0) := by
  refine Ct.of (a0 := a0) #[.val (.int i), .val (.int j)] hEW O (Jvm.Free.JP.mathPlain rfl (by decide +kernel)) (fun m => by first | (simp [entryFrame, mkF, argsToLocals, Value.category]; done) | rfl) ?_
  intro p_ e_ s_ m_ below_ meth_ c_ b_ T_ K hSP hsh
  refine k_iloadN K d_jdk_29_method_69_code_0 (pc' := 1) rfl rfl ?_
  refine k_iloadN K d_jdk_29_method_69_code_1 (pc' := 2) rfl rfl ?_
  refine k_icmp_gt K d_jdk_29_method_69_code_2 (by decide) (pc' := 9) (pc2 := 5) (by decide) rfl (fun hc2 => ?_) (fun hc2 => ?_)
  · refine k_iloadN K d_jdk_29_method_69_code_9 (pc' := 10) rfl rfl ?_
    exact k_iret K d_jdk_29_method_69_code_10 rfl (fun sf ht => ⟨by rw [if_pos hc2], rfl⟩) (by decide) (by decide)
  · refine k_iloadN K d_jdk_29_method_69_code_5 (pc' := 6) rfl rfl ?_
    refine k_goto K d_jdk_29_method_69_code_6 (by decide) (pc' := 10) (by decide) ?_
    exact k_iret K d_jdk_29_method_69_code_10 rfl (fun sf ht => ⟨by rw [if_neg hc2], rfl⟩) (by decide) (by decide)
theorem d_jdk_48_method_27_code_0 : decode jdk_48_method_27_code 0 = .ok (.iload_n 0, 1) := by decide +kernel
theorem d_jdk_48_method_27_code_1 : decode jdk_48_method_27_code 1 = .ok (.iload_n 1, 1) := by decide +kernel
theorem d_jdk_48_method_27_code_2 : decode jdk_48_method_27_code 2 = .ok (.iload_n 2, 1) := by decide +kernel
theorem d_jdk_48_method_27_code_3 : decode jdk_48_method_27_code 3 = .ok (.invokestatic 194, 3) := by decide +kernel
theorem w196 {Z : State} {a0 : Array Value} (hw : Tb a0 Z) : (Jvm.Cond.methodLink "jdk/internal/util/ArraysSupport" (194 : Nat) ({ cls := "java/lang/Math", name := "max", desc := "(II)I" } : Jvm.MethodName)).before a0 Z = true := hw _ (List.mem_of_getElem? (i := 196) rfl)
theorem w198 {Z : State} {a0 : Array Value} (hw : Tb a0 Z) : (Jvm.Cond.initialized "java/lang/Math").before a0 Z = true := hw _ (List.mem_of_getElem? (i := 198) rfl)
theorem w199 {Z : State} {a0 : Array Value} (hw : Tb a0 Z) : (Jvm.Cond.code ({ cls := "java/lang/Math", name := "max", desc := "(II)I" } : Jvm.MethodName) jdk_29_method_65_code (2 : Nat) (Option.some Jvm.ClassFile.FieldType.int)).before a0 Z = true := hw _ (List.mem_of_getElem? (i := 199) rfl)
theorem w197 {Z : State} {a0 : Array Value} (hw : Tb a0 Z) : (Jvm.Cond.static ({ cls := "java/lang/Math", name := "max", desc := "(II)I" } : Jvm.MethodName)).before a0 Z = true := hw _ (List.mem_of_getElem? (i := 197) rfl)
theorem pd__II_I_934 : parseMethodDescriptor "(II)I" = some ⟨[.int, .int], some .int⟩ := by decide +kernel
theorem d_jdk_48_method_27_code_6 : decode jdk_48_method_27_code 6 = .ok (.iadd, 1) := by decide +kernel
theorem d_jdk_48_method_27_code_7 : decode jdk_48_method_27_code 7 = .ok (.istore_n 3, 1) := by decide +kernel
theorem d_jdk_48_method_27_code_8 : decode jdk_48_method_27_code 8 = .ok (.iconst 0, 1) := by decide +kernel
theorem d_jdk_48_method_27_code_9 : decode jdk_48_method_27_code 9 = .ok (.iload_n 3, 1) := by decide +kernel
theorem d_jdk_48_method_27_code_10 : decode jdk_48_method_27_code 10 = .ok (.if_icmp .ge 11, 3) := by decide +kernel
theorem d_jdk_48_method_27_code_13 : decode jdk_48_method_27_code 13 = .ok (.iload_n 3, 1) := by decide +kernel
theorem d_jdk_48_method_27_code_14 : decode jdk_48_method_27_code 14 = .ok (.ldc 200, 2) := by decide +kernel
theorem w200 {Z : State} {a0 : Array Value} (hw : Tb a0 Z) : (Jvm.Cond.constant "jdk/internal/util/ArraysSupport" (200 : Nat) (2147483639 : Int32)).before a0 Z = true := hw _ (List.mem_of_getElem? (i := 200) rfl)
theorem d_jdk_48_method_27_code_16 : decode jdk_48_method_27_code 16 = .ok (.if_icmp .gt 5, 3) := by decide +kernel
theorem d_jdk_48_method_27_code_19 : decode jdk_48_method_27_code 19 = .ok (.iload_n 3, 1) := by decide +kernel
theorem d_jdk_48_method_27_code_20 : decode jdk_48_method_27_code 20 = .ok (.ireturn, 1) := by decide +kernel
theorem pl_jdk_internal_util_ArraysSupport : plainName "jdk/internal/util/ArraysSupport" = true := by first | (simp [plainName, overriddenIn]; done) | decide +kernel
set_option maxRecDepth 65536 in
set_option maxHeartbeats 40000000 in
theorem c_newLength (l : Launch) (Z : State) (a0 : Array Value) (hw : Tb a0 Z) (hEW : EW Z a0 EL0) (n0 : Nat) (o g1 g2 : Int32) (r : Nat) (h0 : Heap) (O : Old Z n0 h0) (hr : (o + (if g1 < g2 then g2 else g1)).toInt = r) (h0_ : 0 < r) (h1_ : r ≤ 100000) :
    Ct l Z EL0 n0 (⟨"jdk/internal/util/ArraysSupport", "newLength", "(III)I"⟩ : MethodName) jdk_48_method_27_code 4 (some .int) ({ frames := 1, cells := 0, slots := 0, locals := 14 } : Room) #[(.int o), (.int g1), (.int g2)] h0 [] (Pu (some (.int (o + (if g1 < g2 then g2 else g1)))) h0) := by
  refine Ct.of (a0 := a0) #[.val (.int o), .val (.int g1), .val (.int g2), .unset] hEW O (plainFor_of_name pl_jdk_internal_util_ArraysSupport) (fun m => by first | (simp [entryFrame, mkF, argsToLocals, Value.category]; done) | rfl) ?_
  intro p_ e_ s_ m_ below_ meth_ c_ b_ T_ K hSP hsh
  refine k_iloadN K d_jdk_48_method_27_code_0 (pc' := 1) rfl rfl ?_
  refine k_iloadN K d_jdk_48_method_27_code_1 (pc' := 2) rfl rfl ?_
  refine k_iloadN K d_jdk_48_method_27_code_2 (pc' := 3) rfl rfl ?_
  refine k_staticP K [(.int g1), (.int g2)] [(.int o)] 1 (w196 hw) (w197 hw) (w198 hw) (w199 hw) (by decide) pd__II_I_934 (c_max l Z a0 hw hEW n0 g1 g2 h0 K.old ) d_jdk_48_method_27_code_3 nofun (pc' := 6) rfl rfl rfl rfl (Nat.le_of_eq rfl) (by decide) (by decide) (by decide) (by decide) ?_
  intro b7 T7 L7 K7 tr7
  show Goes p_.tables e_ below_ _ (T7.setTop (mkF m_ 6 #[.val (.int o), .val (.int g1), .val (.int g2), .unset] [(.int (if g1 < g2 then g2 else g1)), (.int o)]))
  refine k_iadd K7 d_jdk_48_method_27_code_6 (pc' := 7) rfl ?_
  refine k_istoreN K7 d_jdk_48_method_27_code_7 (pc' := 8) (L' := #[.val (.int o), .val (.int g1), .val (.int g2), .val (.int (o + (if g1 < g2 then g2 else g1)))]) rfl rfl ?_
  refine k_iconst K7 (0 : Int32) d_jdk_48_method_27_code_8 (pc' := 9) rfl rfl ?_
  refine k_iloadN K7 d_jdk_48_method_27_code_9 (pc' := 10) rfl rfl ?_
  refine k_icmp_ge K7 d_jdk_48_method_27_code_10 (by decide) (pc' := 21) (pc2 := 13) (by decide) rfl (fun q => absurd (by rw [own_i32, own_0, hr]; omega) q) (fun hc10 => ?_)
  refine k_iloadN K7 d_jdk_48_method_27_code_13 (pc' := 14) rfl rfl ?_
  refine k_ldcI K7 (w200 hw) d_jdk_48_method_27_code_14 (pc' := 16) rfl ?_
  refine k_icmp_gt K7 d_jdk_48_method_27_code_16 (by decide) (pc' := 21) (pc2 := 19) (by decide) rfl (fun q => absurd q (by rw [own_i32, hr, show (2147483639 : Int32).toInt = 2147483639 by decide]; omega)) (fun hc16 => ?_)
  refine k_iloadN K7 d_jdk_48_method_27_code_19 (pc' := 20) rfl rfl ?_
  exact k_iret K7 d_jdk_48_method_27_code_20 rfl (fun sf ht => ⟨rfl, rfl⟩) (by decide) (by decide)
theorem d_jdk_68_method_10_code_0 : decode jdk_68_method_10_code 0 = .ok (.aload_n 0, 1) := by decide +kernel
theorem d_jdk_68_method_10_code_1 : decode jdk_68_method_10_code 1 = .ok (.getfield 15, 3) := by decide +kernel
theorem d_jdk_68_method_10_code_4 : decode jdk_68_method_10_code 4 = .ok (.arraylength, 1) := by decide +kernel
theorem d_jdk_68_method_10_code_5 : decode jdk_68_method_10_code 5 = .ok (.istore_n 2, 1) := by decide +kernel
theorem d_jdk_68_method_10_code_6 : decode jdk_68_method_10_code 6 = .ok (.iload_n 1, 1) := by decide +kernel
theorem d_jdk_68_method_10_code_7 : decode jdk_68_method_10_code 7 = .ok (.aload_n 0, 1) := by decide +kernel
theorem d_jdk_68_method_10_code_8 : decode jdk_68_method_10_code 8 = .ok (.getfield 22, 3) := by decide +kernel
theorem d_jdk_68_method_10_code_11 : decode jdk_68_method_10_code 11 = .ok (.ishl, 1) := by decide +kernel
theorem d_jdk_68_method_10_code_12 : decode jdk_68_method_10_code 12 = .ok (.istore_n 3, 1) := by decide +kernel
theorem d_jdk_68_method_10_code_13 : decode jdk_68_method_10_code 13 = .ok (.iload_n 3, 1) := by decide +kernel
theorem d_jdk_68_method_10_code_14 : decode jdk_68_method_10_code 14 = .ok (.iload_n 2, 1) := by decide +kernel
theorem d_jdk_68_method_10_code_15 : decode jdk_68_method_10_code 15 = .ok (.isub, 1) := by decide +kernel
theorem d_jdk_68_method_10_code_16 : decode jdk_68_method_10_code 16 = .ok (.istore 4, 2) := by decide +kernel
theorem d_jdk_68_method_10_code_18 : decode jdk_68_method_10_code 18 = .ok (.iload_n 2, 1) := by decide +kernel
theorem d_jdk_68_method_10_code_19 : decode jdk_68_method_10_code 19 = .ok (.iload 4, 2) := by decide +kernel
theorem d_jdk_68_method_10_code_21 : decode jdk_68_method_10_code 21 = .ok (.iload_n 2, 1) := by decide +kernel
theorem d_jdk_68_method_10_code_22 : decode jdk_68_method_10_code 22 = .ok (.iconst 2, 1) := by decide +kernel
theorem d_jdk_68_method_10_code_23 : decode jdk_68_method_10_code 23 = .ok (.aload_n 0, 1) := by decide +kernel
theorem d_jdk_68_method_10_code_24 : decode jdk_68_method_10_code 24 = .ok (.getfield 22, 3) := by decide +kernel
theorem d_jdk_68_method_10_code_27 : decode jdk_68_method_10_code 27 = .ok (.ishl, 1) := by decide +kernel
theorem d_jdk_68_method_10_code_28 : decode jdk_68_method_10_code 28 = .ok (.iadd, 1) := by decide +kernel
theorem d_jdk_68_method_10_code_29 : decode jdk_68_method_10_code 29 = .ok (.invokestatic 114, 3) := by decide +kernel
theorem w192 {Z : State} {a0 : Array Value} (hw : Tb a0 Z) : (Jvm.Cond.methodLink "java/lang/AbstractStringBuilder" (114 : Nat) ({ cls := "jdk/internal/util/ArraysSupport", name := "newLength", desc := "(III)I" } : Jvm.MethodName)).before a0 Z = true := hw _ (List.mem_of_getElem? (i := 192) rfl)
theorem w194 {Z : State} {a0 : Array Value} (hw : Tb a0 Z) : (Jvm.Cond.initialized "jdk/internal/util/ArraysSupport").before a0 Z = true := hw _ (List.mem_of_getElem? (i := 194) rfl)
theorem w195 {Z : State} {a0 : Array Value} (hw : Tb a0 Z) : (Jvm.Cond.code ({ cls := "jdk/internal/util/ArraysSupport", name := "newLength", desc := "(III)I" } : Jvm.MethodName) jdk_48_method_27_code (4 : Nat) (Option.some Jvm.ClassFile.FieldType.int)).before a0 Z = true := hw _ (List.mem_of_getElem? (i := 195) rfl)
theorem w193 {Z : State} {a0 : Array Value} (hw : Tb a0 Z) : (Jvm.Cond.static ({ cls := "jdk/internal/util/ArraysSupport", name := "newLength", desc := "(III)I" } : Jvm.MethodName)).before a0 Z = true := hw _ (List.mem_of_getElem? (i := 193) rfl)
theorem pd__III_I_1340 : parseMethodDescriptor "(III)I" = some ⟨[.int, .int, .int], some .int⟩ := by decide +kernel
theorem d_jdk_68_method_10_code_32 : decode jdk_68_method_10_code 32 = .ok (.istore 5, 2) := by decide +kernel
theorem d_jdk_68_method_10_code_34 : decode jdk_68_method_10_code 34 = .ok (.iload 5, 2) := by decide +kernel
theorem d_jdk_68_method_10_code_36 : decode jdk_68_method_10_code 36 = .ok (.ldc 39, 2) := by decide +kernel
theorem w201 {Z : State} {a0 : Array Value} (hw : Tb a0 Z) : (Jvm.Cond.constant "java/lang/AbstractStringBuilder" (39 : Nat) (2147483647 : Int32)).before a0 Z = true := hw _ (List.mem_of_getElem? (i := 201) rfl)
theorem d_jdk_68_method_10_code_38 : decode jdk_68_method_10_code 38 = .ok (.if_icmp .ne 13, 3) := by decide +kernel
theorem d_jdk_68_method_10_code_51 : decode jdk_68_method_10_code 51 = .ok (.iload 5, 2) := by decide +kernel
theorem d_jdk_68_method_10_code_53 : decode jdk_68_method_10_code 53 = .ok (.aload_n 0, 1) := by decide +kernel
theorem d_jdk_68_method_10_code_54 : decode jdk_68_method_10_code 54 = .ok (.getfield 22, 3) := by decide +kernel
theorem d_jdk_68_method_10_code_57 : decode jdk_68_method_10_code 57 = .ok (.ishr, 1) := by decide +kernel
theorem d_jdk_68_method_10_code_58 : decode jdk_68_method_10_code 58 = .ok (.ireturn, 1) := by decide +kernel
set_option maxRecDepth 65536 in
set_option maxHeartbeats 40000000 in
theorem c_newCap (l : Launch) (Z : State) (a0 : Array Value) (hw : Tb a0 Z) (hEW : EW Z a0 EL0) (n0 : Nat) (sb d : Addr) (kd : ClassId) (cp : Int32) (xs : List Int32) (ys : List Value) (mi : Int32) (r : Nat) (h0 : Heap) (O : Old Z n0 h0) (B : Sbd Z h0 sb d kd cp xs ys) (hr : (cp + (if mi - cp < cp + 2 then cp + 2 else mi - cp)).toInt = r) (h0_ : 0 < r) (h1_ : r ≤ 100000) :
    Ct l Z EL0 n0 (⟨"java/lang/AbstractStringBuilder", "newCapacity", "(I)I"⟩ : MethodName) jdk_68_method_10_code 6 (some .int) ({ frames := 2, cells := 0, slots := 0, locals := 29 } : Room) #[(.ref sb), (.int mi)] h0 [] (Pu (some (.int (cp + (if mi - cp < cp + 2 then cp + 2 else mi - cp)))) h0) := by
  refine Ct.of (a0 := a0) #[.val (.ref sb), .val (.int mi), .unset, .unset, .unset, .unset] hEW O (plainFor_of_name pl_java_lang_AbstractStringBuilder) (fun m => by first | (simp [entryFrame, mkF, argsToLocals, Value.category]; done) | rfl) ?_
  intro p_ e_ s_ m_ below_ meth_ c_ b_ T_ K hSP hsh
  obtain ⟨X_sb, F_sb_value, F_sb_coder, F_sb_count, V_d, X_d, hcp, hcb⟩ := B
  refine k_aloadN K d_jdk_68_method_10_code_0 (pc' := 1) rfl rfl rfl ?_
  refine k_getF K (w100 hw) Via.refl F_sb_value d_jdk_68_method_10_code_1 (pc' := 4) rfl ?_
  intro T8 K8
  refine k_len K8 V_d d_jdk_68_method_10_code_4 (pc' := 5) rfl ?_
  refine k_istoreN K8 d_jdk_68_method_10_code_5 (pc' := 6) (L' := #[.val (.ref sb), .val (.int mi), .val (.int cp), .unset, .unset, .unset]) rfl rfl ?_
  refine k_iloadN K8 d_jdk_68_method_10_code_6 (pc' := 7) rfl rfl ?_
  refine k_aloadN K8 d_jdk_68_method_10_code_7 (pc' := 8) rfl rfl rfl ?_
  refine k_getF K8 (w102 hw) Via.refl F_sb_coder d_jdk_68_method_10_code_8 (pc' := 11) rfl ?_
  intro T9 K9
  refine k_ishl K9 d_jdk_68_method_10_code_11 (pc' := 12) rfl ?_
  rw [own_shl0]
  refine k_istoreN K9 d_jdk_68_method_10_code_12 (pc' := 13) (L' := #[.val (.ref sb), .val (.int mi), .val (.int cp), .val (.int mi), .unset, .unset]) rfl rfl ?_
  refine k_iloadN K9 d_jdk_68_method_10_code_13 (pc' := 14) rfl rfl ?_
  refine k_iloadN K9 d_jdk_68_method_10_code_14 (pc' := 15) rfl rfl ?_
  refine k_isub K9 d_jdk_68_method_10_code_15 (pc' := 16) rfl ?_
  refine k_istore K9 d_jdk_68_method_10_code_16 (pc' := 18) (L' := #[.val (.ref sb), .val (.int mi), .val (.int cp), .val (.int mi), .val (.int (mi - cp)), .unset]) rfl rfl ?_
  refine k_iloadN K9 d_jdk_68_method_10_code_18 (pc' := 19) rfl rfl ?_
  refine k_iload K9 d_jdk_68_method_10_code_19 (pc' := 21) rfl rfl ?_
  refine k_iloadN K9 d_jdk_68_method_10_code_21 (pc' := 22) rfl rfl ?_
  refine k_iconst K9 (2 : Int32) d_jdk_68_method_10_code_22 (pc' := 23) rfl rfl ?_
  refine k_aloadN K9 d_jdk_68_method_10_code_23 (pc' := 24) rfl rfl rfl ?_
  refine k_getF K9 (w102 hw) Via.refl F_sb_coder d_jdk_68_method_10_code_24 (pc' := 27) rfl ?_
  intro T10 K10
  refine k_ishl K10 d_jdk_68_method_10_code_27 (pc' := 28) rfl ?_
  rw [own_shl0]
  refine k_iadd K10 d_jdk_68_method_10_code_28 (pc' := 29) rfl ?_
  refine k_staticP K10 [(.int cp), (.int (mi - cp)), (.int (cp + (2 : Int32)))] [] 0 (w192 hw) (w193 hw) (w194 hw) (w195 hw) (by decide) pd__III_I_1340 (c_newLength l Z a0 hw hEW n0 cp (mi - cp) (cp + 2) r h0 K10.old hr h0_ h1_) d_jdk_68_method_10_code_29 nofun (pc' := 32) rfl rfl rfl rfl (Nat.le_of_eq rfl) (by decide) (by decide) (by decide) (by decide) ?_
  intro b11 T11 L11 K11 tr11
  show Goes p_.tables e_ below_ _ (T11.setTop (mkF m_ 32 #[.val (.ref sb), .val (.int mi), .val (.int cp), .val (.int mi), .val (.int (mi - cp)), .unset] [(.int (cp + (if mi - cp < cp + 2 then cp + 2 else mi - cp)))]))
  refine k_istore K11 d_jdk_68_method_10_code_32 (pc' := 34) (L' := #[.val (.ref sb), .val (.int mi), .val (.int cp), .val (.int mi), .val (.int (mi - cp)), .val (.int (cp + (if mi - cp < cp + 2 then cp + 2 else mi - cp)))]) rfl rfl ?_
  refine k_iload K11 d_jdk_68_method_10_code_34 (pc' := 36) rfl rfl ?_
  refine k_ldcI K11 (w201 hw) d_jdk_68_method_10_code_36 (pc' := 38) rfl ?_
  refine k_icmp_ne K11 d_jdk_68_method_10_code_38 (by decide) (pc' := 51) (pc2 := 41) (by decide) rfl (fun hc38 => ?_) (fun q => absurd q (fun q => by have e := congrArg Int32.toInt q; rw [hr, show (2147483647 : Int32).toInt = 2147483647 by decide] at e; omega))
  refine k_iload K11 d_jdk_68_method_10_code_51 (pc' := 53) rfl rfl ?_
  refine k_aloadN K11 d_jdk_68_method_10_code_53 (pc' := 54) rfl rfl rfl ?_
  refine k_getF K11 (w102 hw) Via.refl F_sb_coder d_jdk_68_method_10_code_54 (pc' := 57) rfl ?_
  intro T12 K12
  refine k_ishr K12 d_jdk_68_method_10_code_57 (pc' := 58) rfl ?_
  rw [own_shr0]
  exact k_iret K12 d_jdk_68_method_10_code_58 rfl (fun sf ht => ⟨rfl, rfl⟩) (by decide) (by decide)
theorem d_jdk_65_method_121_code_0 : decode jdk_65_method_121_code 0 = .ok (.iload_n 1, 1) := by decide +kernel
theorem d_jdk_65_method_121_code_1 : decode jdk_65_method_121_code 1 = .ok (.aload_n 0, 1) := by decide +kernel
theorem d_jdk_65_method_121_code_2 : decode jdk_65_method_121_code 2 = .ok (.arraylength, 1) := by decide +kernel
theorem d_jdk_65_method_121_code_3 : decode jdk_65_method_121_code 3 = .ok (.if_icmp .ne 11, 3) := by decide +kernel
theorem d_jdk_65_method_121_code_14 : decode jdk_65_method_121_code 14 = .ok (.iload_n 1, 1) := by decide +kernel
theorem d_jdk_65_method_121_code_15 : decode jdk_65_method_121_code 15 = .ok (.newarray .byte, 2) := by decide +kernel
theorem d_jdk_65_method_121_code_17 : decode jdk_65_method_121_code 17 = .ok (.astore_n 2, 1) := by decide +kernel
theorem d_jdk_65_method_121_code_18 : decode jdk_65_method_121_code 18 = .ok (.aload_n 0, 1) := by decide +kernel
theorem d_jdk_65_method_121_code_19 : decode jdk_65_method_121_code 19 = .ok (.iconst 0, 1) := by decide +kernel
theorem d_jdk_65_method_121_code_20 : decode jdk_65_method_121_code 20 = .ok (.aload_n 2, 1) := by decide +kernel
theorem d_jdk_65_method_121_code_21 : decode jdk_65_method_121_code 21 = .ok (.iconst 0, 1) := by decide +kernel
theorem d_jdk_65_method_121_code_22 : decode jdk_65_method_121_code 22 = .ok (.aload_n 0, 1) := by decide +kernel
theorem d_jdk_65_method_121_code_23 : decode jdk_65_method_121_code 23 = .ok (.arraylength, 1) := by decide +kernel
theorem d_jdk_65_method_121_code_24 : decode jdk_65_method_121_code 24 = .ok (.iload_n 1, 1) := by decide +kernel
theorem d_jdk_65_method_121_code_25 : decode jdk_65_method_121_code 25 = .ok (.invokestatic 304, 3) := by decide +kernel
theorem w206 {Z : State} {a0 : Array Value} (hw : Tb a0 Z) : (Jvm.Cond.methodLink "java/util/Arrays" (304 : Nat) ({ cls := "java/lang/Math", name := "min", desc := "(II)I" } : Jvm.MethodName)).before a0 Z = true := hw _ (List.mem_of_getElem? (i := 206) rfl)
theorem w208 {Z : State} {a0 : Array Value} (hw : Tb a0 Z) : (Jvm.Cond.code ({ cls := "java/lang/Math", name := "min", desc := "(II)I" } : Jvm.MethodName) jdk_29_method_69_code (2 : Nat) (Option.some Jvm.ClassFile.FieldType.int)).before a0 Z = true := hw _ (List.mem_of_getElem? (i := 208) rfl)
theorem w207 {Z : State} {a0 : Array Value} (hw : Tb a0 Z) : (Jvm.Cond.static ({ cls := "java/lang/Math", name := "min", desc := "(II)I" } : Jvm.MethodName)).before a0 Z = true := hw _ (List.mem_of_getElem? (i := 207) rfl)
theorem d_jdk_65_method_121_code_28 : decode jdk_65_method_121_code 28 = .ok (.invokestatic 150, 3) := by decide +kernel
theorem w209 {Z : State} {a0 : Array Value} (hw : Tb a0 Z) : (Jvm.Cond.methodLink "java/util/Arrays" (150 : Nat) ({ cls := "java/lang/System", name := "arraycopy", desc := "(Ljava/lang/Object;ILjava/lang/Object;II)V" } : Jvm.MethodName)).before a0 Z = true := hw _ (List.mem_of_getElem? (i := 209) rfl)
theorem w159 {Z : State} {a0 : Array Value} (hw : Tb a0 Z) : (Jvm.Cond.native ({ cls := "java/lang/System", name := "arraycopy", desc := "(Ljava/lang/Object;ILjava/lang/Object;II)V" } : Jvm.MethodName)).before a0 Z = true := hw _ (List.mem_of_getElem? (i := 159) rfl)
theorem w157 {Z : State} {a0 : Array Value} (hw : Tb a0 Z) : (Jvm.Cond.static ({ cls := "java/lang/System", name := "arraycopy", desc := "(Ljava/lang/Object;ILjava/lang/Object;II)V" } : Jvm.MethodName)).before a0 Z = true := hw _ (List.mem_of_getElem? (i := 157) rfl)
theorem w158 {Z : State} {a0 : Array Value} (hw : Tb a0 Z) : (Jvm.Cond.initialized "java/lang/System").before a0 Z = true := hw _ (List.mem_of_getElem? (i := 158) rfl)
theorem d_jdk_65_method_121_code_31 : decode jdk_65_method_121_code 31 = .ok (.aload_n 2, 1) := by decide +kernel
theorem d_jdk_65_method_121_code_32 : decode jdk_65_method_121_code 32 = .ok (.areturn, 1) := by decide +kernel
theorem pl_java_util_Arrays : plainName "java/util/Arrays" = true := by first | (simp [plainName, overriddenIn]; done) | decide +kernel
set_option maxRecDepth 65536 in
set_option maxHeartbeats 40000000 in
theorem c_copyOf (l : Launch) (Z : State) (a0 : Array Value) (hw : Tb a0 Z) (hEW : EW Z a0 EL0) (n0 : Nat) (d : Addr) (kd : ClassId) (cp n : Int32) (cn nn : Nat) (vs : List Value) (h0 : Heap) (O : Old Z n0 h0) (hcp : cp.toInt = cn) (hvs : vs.length = cn) (hn : n.toInt = nn) (hlt : cn < nn) (hnn : nn ≤ 142) (V_d : Arv Z h0 d kd .byte cp vs (.int 0)) :
    Ct l Z EL0 n0 (⟨"java/util/Arrays", "copyOf", "([BI)[B"⟩ : MethodName) jdk_65_method_121_code 3 (some (.array .byte)) ({ frames := 1, cells := 1, slots := 142, locals := 18 } : Room) #[(.ref d), (.int n)] h0 [] (fun v h sf => ∃ t kt, v = some (.ref t) ∧ h0.size ≤ t ∧ Keep h0 h [] ∧ Arv Z h t kt .byte n (vs ++ List.replicate (nn - cn) (.int 0)) (.int 0) ∧ Exa Z h t "[B" ∧ sf t) := by
  refine Ct.of (a0 := a0) #[.val (.ref d), .val (.int n), .unset] hEW O (plainFor_of_name pl_java_util_Arrays) (fun m => by first | (simp [entryFrame, mkF, argsToLocals, Value.category]; done) | rfl) ?_
  intro p_ e_ s_ m_ below_ meth_ c_ b_ T_ K hSP hsh
  have KP := Keep.refl h0 []
  refine k_iloadN K d_jdk_65_method_121_code_0 (pc' := 1) rfl rfl ?_
  refine k_aloadN K d_jdk_65_method_121_code_1 (pc' := 2) rfl rfl rfl ?_
  refine k_len K V_d d_jdk_65_method_121_code_2 (pc' := 3) rfl ?_
  refine k_icmp_ne K d_jdk_65_method_121_code_3 (by decide) (pc' := 14) (pc2 := 6) (by decide) rfl (fun hc3 => ?_) (fun q => absurd q (fun q => by have e := congrArg Int32.toInt q; rw [hcp, hn] at e; omega))
  refine k_iloadN K d_jdk_65_method_121_code_14 (pc' := 15) rfl rfl ?_
  refine k_newarrayX K (aty := .byte) (z := n) (w99 hw) (by rw [own_i32, hn, own_0]; omega) (cap := 142) (by rw [own_clamp hn]; exact hnn) (by decide) d_jdk_65_method_121_code_15 (pc' := 17) rfl (by decide) (by decide) ?_
  intro T13 h13 a13 ka13 g13 K13 E13 tr13 sf_a13 V_a13 X_a13
  have ga_a13 : n0 ≤ a13 := own_old K.old g13
  have sz_a13 : h0.size ≤ a13 := g13 ▸ KP.1
  have ne_d_a13 : d ≠ a13 := own_ne V_d.lt g13
  replace V_d := V_d.ext E13
  replace KP := KP.ext E13
  replace V_a13 : Arv Z h13 a13 ka13 .byte n (List.replicate nn (.int (0 : Int32))) (.int (0 : Int32)) := V_a13.pad (pad_rep [] (.int (0 : Int32)) nn)
  replace X_a13 : Exa Z h13 a13 "[B" := X_a13
  refine k_astoreN K13 d_jdk_65_method_121_code_17 (pc' := 18) (L' := #[.val (.ref d), .val (.int n), .val (.ref a13)]) rfl rfl rfl ?_
  refine k_aloadN K13 d_jdk_65_method_121_code_18 (pc' := 19) rfl rfl rfl ?_
  refine k_iconst K13 (0 : Int32) d_jdk_65_method_121_code_19 (pc' := 20) rfl rfl ?_
  refine k_aloadN K13 d_jdk_65_method_121_code_20 (pc' := 21) rfl rfl rfl ?_
  refine k_iconst K13 (0 : Int32) d_jdk_65_method_121_code_21 (pc' := 22) rfl rfl ?_
  refine k_aloadN K13 d_jdk_65_method_121_code_22 (pc' := 23) rfl rfl rfl ?_
  refine k_len K13 V_d d_jdk_65_method_121_code_23 (pc' := 24) rfl ?_
  refine k_iloadN K13 d_jdk_65_method_121_code_24 (pc' := 25) rfl rfl ?_
  refine k_staticP K13 [(.int cp), (.int n)] [(.int (0 : Int32)), (.ref a13), (.int (0 : Int32)), (.ref d)] 4 (w206 hw) (w207 hw) (w198 hw) (w208 hw) (by decide) pd__II_I_934 (c_mmin l Z a0 hw hEW n0 cp n h13 K13.old ) d_jdk_65_method_121_code_25 nofun (pc' := 28) rfl rfl rfl rfl (Nat.le_of_eq rfl) (by decide) (by decide) (by decide) (by decide) ?_
  intro b14 T14 L14 K14 tr14
  show Goes p_.tables e_ below_ _ (T14.setTop (mkF m_ 28 #[.val (.ref d), .val (.int n), .val (.ref a13)] [(.int (if n < cp then n else cp)), (.int (0 : Int32)), (.ref a13), (.int (0 : Int32)), (.ref d)]))
  replace sf_a13 := tr14 a13 V_a13.lt sf_a13
  rw [if_neg (by rw [own_i32, hcp, hn]; omega)]
  have cc := own_clamp hcp
  have cn_ := own_clamp hn
  refine k_arraycopy K14 (sp := (0 : Int32)) (dp := (0 : Int32)) (nn := cp) (us := vs) (w209 hw) (w159 hw) (w157 hw) (w158 hw) V_d V_a13 rfl (by decide) (by decide) (by rw [own_i32, hcp, own_0]; omega) (by rw [cc]; exact Nat.le_of_eq (Nat.zero_add _)) (by rw [cc, cn_]; exact Nat.le_trans (Nat.le_of_eq (Nat.zero_add _)) (Nat.le_of_lt hlt)) (by rw [cc, ← hvs, own_range0 vs vs.length (Nat.le_refl _), List.take_length]) (by rw [cc, List.length_replicate]; exact Nat.le_trans (Nat.le_of_eq (Nat.zero_add _)) (Nat.le_of_lt hlt)) ga_a13 sf_a13 d_jdk_65_method_121_code_28 (pc' := 31) rfl rfl (by decide) 0 (Nat.le_of_eq rfl) (by decide) ?_
  intro T15 h15 L15 K15 KQ15 tr15 V15
  replace sf_a13 := tr15 a13 V_a13.lt sf_a13
  replace V_d := V_d.keep KQ15 (ninS ne_d_a13 nin0)
  replace X_a13 := X_a13.keep KQ15
  replace KP := KP.trans KQ15 (allS (Or.inr sz_a13) all0)
  replace V_a13 := V15
  show Goes p_.tables e_ below_ _ (T15.setTop (mkF m_ 31 #[.val (.ref d), .val (.int n), .val (.ref a13)] []))
  replace V_a13 : Arv Z h15 a13 ka13 .byte n (vs ++ List.replicate (nn - cn) (.int 0)) (.int 0) := by
    have e1 : List.take (0 : Int32).toNatClampNeg (List.replicate nn (Value.int 0)) ++ vs ++ List.drop ((0 : Int32).toNatClampNeg + cp.toNatClampNeg) (List.replicate nn (Value.int 0)) = vs ++ List.replicate (nn - cn) (.int 0) := by
      rw [cc, show (0 : Int32).toNatClampNeg = 0 by decide]; simp
    rw [e1] at V_a13; exact V_a13
  refine k_aloadN K15 d_jdk_65_method_121_code_31 (pc' := 32) rfl rfl rfl ?_
  exact k_aret K15 d_jdk_65_method_121_code_32 rfl rfl rfl (fun sf ht => ⟨a13, ka13, rfl, sz_a13, KP, V_a13, X_a13, ht _ V_a13.lt sf_a13⟩) (by decide) (by decide)
theorem d_jdk_68_method_9_code_0 : decode jdk_68_method_9_code 0 = .ok (.aload_n 0, 1) := by decide +kernel
theorem d_jdk_68_method_9_code_1 : decode jdk_68_method_9_code 1 = .ok (.getfield 15, 3) := by decide +kernel
theorem d_jdk_68_method_9_code_4 : decode jdk_68_method_9_code 4 = .ok (.arraylength, 1) := by decide +kernel
theorem d_jdk_68_method_9_code_5 : decode jdk_68_method_9_code 5 = .ok (.aload_n 0, 1) := by decide +kernel
theorem d_jdk_68_method_9_code_6 : decode jdk_68_method_9_code 6 = .ok (.getfield 22, 3) := by decide +kernel
theorem d_jdk_68_method_9_code_9 : decode jdk_68_method_9_code 9 = .ok (.ishr, 1) := by decide +kernel
theorem d_jdk_68_method_9_code_10 : decode jdk_68_method_9_code 10 = .ok (.istore_n 2, 1) := by decide +kernel
theorem d_jdk_68_method_9_code_11 : decode jdk_68_method_9_code 11 = .ok (.iload_n 1, 1) := by decide +kernel
theorem d_jdk_68_method_9_code_12 : decode jdk_68_method_9_code 12 = .ok (.iload_n 2, 1) := by decide +kernel
theorem d_jdk_68_method_9_code_13 : decode jdk_68_method_9_code 13 = .ok (.isub, 1) := by decide +kernel
theorem d_jdk_68_method_9_code_14 : decode jdk_68_method_9_code 14 = .ok (.ifCond .le 24, 3) := by decide +kernel
theorem d_jdk_68_method_9_code_38 : decode jdk_68_method_9_code 38 = .ok (.return_, 1) := by decide +kernel
theorem d_jdk_68_method_9_code_17 : decode jdk_68_method_9_code 17 = .ok (.aload_n 0, 1) := by decide +kernel
theorem d_jdk_68_method_9_code_18 : decode jdk_68_method_9_code 18 = .ok (.aload_n 0, 1) := by decide +kernel
theorem d_jdk_68_method_9_code_19 : decode jdk_68_method_9_code 19 = .ok (.getfield 15, 3) := by decide +kernel
theorem d_jdk_68_method_9_code_22 : decode jdk_68_method_9_code 22 = .ok (.aload_n 0, 1) := by decide +kernel
theorem d_jdk_68_method_9_code_23 : decode jdk_68_method_9_code 23 = .ok (.iload_n 1, 1) := by decide +kernel
theorem d_jdk_68_method_9_code_24 : decode jdk_68_method_9_code 24 = .ok (.invokevirtual 104, 3) := by decide +kernel
theorem w187 {Z : State} {a0 : Array Value} (hw : Tb a0 Z) : (Jvm.Cond.methodLink "java/lang/AbstractStringBuilder" (104 : Nat) ({ cls := "java/lang/AbstractStringBuilder", name := "newCapacity", desc := "(I)I" } : Jvm.MethodName)).before a0 Z = true := hw _ (List.mem_of_getElem? (i := 187) rfl)
theorem w191 {Z : State} {a0 : Array Value} (hw : Tb a0 Z) : (Jvm.Cond.code ({ cls := "java/lang/AbstractStringBuilder", name := "newCapacity", desc := "(I)I" } : Jvm.MethodName) jdk_68_method_10_code (6 : Nat) (Option.some Jvm.ClassFile.FieldType.int)).before a0 Z = true := hw _ (List.mem_of_getElem? (i := 191) rfl)
theorem w189 {Z : State} {a0 : Array Value} (hw : Tb a0 Z) : (Jvm.Cond.privateMethod ({ cls := "java/lang/AbstractStringBuilder", name := "newCapacity", desc := "(I)I" } : Jvm.MethodName)).before a0 Z = true := hw _ (List.mem_of_getElem? (i := 189) rfl)
theorem w188 {Z : State} {a0 : Array Value} (hw : Tb a0 Z) : (Jvm.Cond.instanceMethod ({ cls := "java/lang/AbstractStringBuilder", name := "newCapacity", desc := "(I)I" } : Jvm.MethodName)).before a0 Z = true := hw _ (List.mem_of_getElem? (i := 188) rfl)
theorem w190 {Z : State} {a0 : Array Value} (hw : Tb a0 Z) : (Jvm.Cond.selects "java/lang/StringBuilder" ({ cls := "java/lang/AbstractStringBuilder", name := "newCapacity", desc := "(I)I" } : Jvm.MethodName) ({ cls := "java/lang/AbstractStringBuilder", name := "newCapacity", desc := "(I)I" } : Jvm.MethodName)).before a0 Z = true := hw _ (List.mem_of_getElem? (i := 190) rfl)
theorem pd__I_I_601 : parseMethodDescriptor "(I)I" = some ⟨[.int], some .int⟩ := by decide +kernel
theorem d_jdk_68_method_9_code_27 : decode jdk_68_method_9_code 27 = .ok (.aload_n 0, 1) := by decide +kernel
theorem d_jdk_68_method_9_code_28 : decode jdk_68_method_9_code 28 = .ok (.getfield 22, 3) := by decide +kernel
theorem d_jdk_68_method_9_code_31 : decode jdk_68_method_9_code 31 = .ok (.ishl, 1) := by decide +kernel
theorem w202 {Z : State} {a0 : Array Value} (hw : Tb a0 Z) : (Jvm.Cond.methodLink "java/lang/AbstractStringBuilder" (108 : Nat) ({ cls := "java/util/Arrays", name := "copyOf", desc := "([BI)[B" } : Jvm.MethodName)).before a0 Z = true := hw _ (List.mem_of_getElem? (i := 202) rfl)
theorem w204 {Z : State} {a0 : Array Value} (hw : Tb a0 Z) : (Jvm.Cond.initialized "java/util/Arrays").before a0 Z = true := hw _ (List.mem_of_getElem? (i := 204) rfl)
theorem w205 {Z : State} {a0 : Array Value} (hw : Tb a0 Z) : (Jvm.Cond.code ({ cls := "java/util/Arrays", name := "copyOf", desc := "([BI)[B" } : Jvm.MethodName) jdk_65_method_121_code (3 : Nat) (Option.some (Jvm.ClassFile.FieldType.array Jvm.ClassFile.FieldType.byte))).before a0 Z = true := hw _ (List.mem_of_getElem? (i := 205) rfl)
theorem d_jdk_68_method_9_code_32 : decode jdk_68_method_9_code 32 = .ok (.invokestatic 108, 3) := by decide +kernel
theorem w203 {Z : State} {a0 : Array Value} (hw : Tb a0 Z) : (Jvm.Cond.static ({ cls := "java/util/Arrays", name := "copyOf", desc := "([BI)[B" } : Jvm.MethodName)).before a0 Z = true := hw _ (List.mem_of_getElem? (i := 203) rfl)
theorem pd___BI__B_1925 : parseMethodDescriptor "([BI)[B" = some ⟨[(.array .byte), .int], some (.array .byte)⟩ := by decide +kernel
theorem d_jdk_68_method_9_code_35 : decode jdk_68_method_9_code 35 = .ok (.putfield 15, 3) := by decide +kernel
set_option maxRecDepth 65536 in
set_option maxHeartbeats 40000000 in
theorem c_ensure (l : Launch) (Z : State) (a0 : Array Value) (hw : Tb a0 Z) (hEW : EW Z a0 EL0) (n0 : Nat) (sb d : Addr) (kd : ClassId) (cp : Int32) (xs : List Int32) (ys : List Value) (mi : Int32) (mn : Nat) (h0 : Heap) (O : Old Z n0 h0) (B : Sbd Z h0 sb d kd cp xs ys) (ga_sb : n0 ≤ sb) (ga_d : n0 ≤ d) (ne_sb_d : sb ≠ d) (hmi : mi.toInt = mn) (hmn : mn ≤ 70) :
    Ct l Z EL0 n0 (⟨"java/lang/AbstractStringBuilder", "ensureCapacityInternal", "(I)V"⟩ : MethodName) jdk_68_method_9_code 3 none ({ frames := 3, cells := 1, slots := 142, locals := 48 } : Room) #[(.ref sb), (.int mi)] h0 [sb, d] (fun v h sf => ∃ d' kd' cp' ys', v = none ∧ Keep h0 h [sb] ∧ Sbd Z h sb d' kd' cp' xs ys' ∧ mn ≤ xs.length + ys'.length ∧ (d' = d ∨ h0.size ≤ d') ∧ sf d') := by
  refine Ct.of (a0 := a0) #[.val (.ref sb), .val (.int mi), .unset] hEW O (plainFor_of_name pl_java_lang_AbstractStringBuilder) (fun m => by first | (simp [entryFrame, mkF, argsToLocals, Value.category]; done) | rfl) ?_
  intro p_ e_ s_ m_ below_ meth_ c_ b_ T_ K hSP hsh
  have B0 := B
  obtain ⟨X_sb, F_sb_value, F_sb_coder, F_sb_count, V_d, X_d, hcp, hcb⟩ := B
  have KP := Keep.refl h0 [sb]
  have sf_sb := hSP sb (by simp)
  have sf_d := hSP d (by simp)
  refine k_aloadN K d_jdk_68_method_9_code_0 (pc' := 1) rfl rfl rfl ?_
  refine k_getF K (w100 hw) Via.refl F_sb_value d_jdk_68_method_9_code_1 (pc' := 4) rfl ?_
  intro T16 K16
  refine k_len K16 V_d d_jdk_68_method_9_code_4 (pc' := 5) rfl ?_
  refine k_aloadN K16 d_jdk_68_method_9_code_5 (pc' := 6) rfl rfl rfl ?_
  refine k_getF K16 (w102 hw) Via.refl F_sb_coder d_jdk_68_method_9_code_6 (pc' := 9) rfl ?_
  intro T17 K17
  refine k_ishr K17 d_jdk_68_method_9_code_9 (pc' := 10) rfl ?_
  rw [own_shr0]
  refine k_istoreN K17 d_jdk_68_method_9_code_10 (pc' := 11) (L' := #[.val (.ref sb), .val (.int mi), .val (.int cp)]) rfl rfl ?_
  refine k_iloadN K17 d_jdk_68_method_9_code_11 (pc' := 12) rfl rfl ?_
  refine k_iloadN K17 d_jdk_68_method_9_code_12 (pc' := 13) rfl rfl ?_
  refine k_isub K17 d_jdk_68_method_9_code_13 (pc' := 14) rfl ?_
  have hsb_ : (mi - cp).toInt = (mn : Int) - (xs.length + ys.length : Nat) := by rw [XT.sub32 (by rw [hmi, hcp]; constructor <;> omega), hmi, hcp]
  refine k_if_le K17 d_jdk_68_method_9_code_14 (by decide) (pc' := 38) (pc2 := 17) (by decide) rfl (fun hc14 => ?_) (fun hc14 => ?_)
  · have hle : mn ≤ xs.length + ys.length := by rw [own_i32, own_0, hsb_] at hc14; omega
    exact k_return K17 d_jdk_68_method_9_code_38 rfl (fun sf ht => ⟨d, kd, cp, ys, rfl, KP, ⟨X_sb, F_sb_value, F_sb_coder, F_sb_count, V_d, X_d, hcp, hcb⟩, hle, Or.inl rfl, ht _ V_d.lt sf_d⟩) (by decide) (by decide)
  · have hlt : xs.length + ys.length < mn := by rw [own_i32, own_0, hsb_] at hc14; omega
    have hs1 := own_sub hmi hcp (Nat.le_of_lt hlt) (by omega)
    have hs2 := own_sum2 hcp own_2 (by omega)
    have hgr : ∃ r : Nat, (cp + (if mi - cp < cp + 2 then cp + 2 else mi - cp)).toInt = r ∧ xs.length + ys.length < r ∧ mn ≤ r ∧ r ≤ 142 := by
      by_cases q : mi - cp < cp + 2
      · rw [if_pos q]
        rw [own_i32, hs1, hs2] at q
        exact ⟨_, own_sum2 hcp hs2 (by omega), by omega, by omega, by omega⟩
      · rw [if_neg q]
        exact ⟨_, own_sum2 hcp hs1 (by omega), by omega, by omega, by omega⟩
    obtain ⟨r, hr, hr1, hr2, hr3⟩ := hgr
    refine k_aloadN K17 d_jdk_68_method_9_code_17 (pc' := 18) rfl rfl rfl ?_
    refine k_aloadN K17 d_jdk_68_method_9_code_18 (pc' := 19) rfl rfl rfl ?_
    refine k_getF K17 (w100 hw) Via.refl F_sb_value d_jdk_68_method_9_code_19 (pc' := 22) rfl ?_
    intro T18 K18
    refine k_aloadN K18 d_jdk_68_method_9_code_22 (pc' := 23) rfl rfl rfl ?_
    refine k_iloadN K18 d_jdk_68_method_9_code_23 (pc' := 24) rfl rfl ?_
    refine k_privateP K18 [(.int mi)] [(.ref d), (.ref sb)] 2 (w187 hw) (w188 hw) (own_priv2 K18 (w190 hw) (w188 hw) (w189 hw) (by decide)) (w189 hw) (w94 hw) (w191 hw) X_sb (by decide) pd__I_I_601 (c_newCap l Z a0 hw hEW n0 sb d kd cp xs ys mi r h0 K18.old B0 hr (by omega) (by omega)) d_jdk_68_method_9_code_24 nofun (pc' := 27) rfl rfl rfl rfl (Nat.le_of_eq rfl) (by decide) (by decide) (by decide) (by decide) ?_
    intro b19 T19 L19 K19 tr19
    show Goes p_.tables e_ below_ _ (T19.setTop (mkF m_ 27 #[.val (.ref sb), .val (.int mi), .val (.int cp)] [(.int (cp + (if mi - cp < cp + 2 then cp + 2 else mi - cp))), (.ref d), (.ref sb)]))
    replace sf_sb := tr19 sb X_sb.lt sf_sb
    replace sf_d := tr19 d V_d.lt sf_d
    generalize (cp + (if mi - cp < cp + 2 then cp + 2 else mi - cp)) = nw at hr ⊢
    refine k_aloadN K19 d_jdk_68_method_9_code_27 (pc' := 28) rfl rfl rfl ?_
    refine k_getF K19 (w102 hw) Via.refl F_sb_coder d_jdk_68_method_9_code_28 (pc' := 31) rfl ?_
    intro T20 K20
    refine k_ishl K20 d_jdk_68_method_9_code_31 (pc' := 32) rfl ?_
    rw [own_shl0]
    refine k_static K20 [(.ref d), (.int nw)] [(.ref sb)] 1 (w202 hw) (w203 hw) (w204 hw) (w205 hw) (by decide) pd___BI__B_1925 (c_copyOf l Z a0 hw hEW n0 d kd cp nw (xs.length + ys.length) r (xs.map Value.int ++ ys) h0 K20.old hcp (by simp) hr hr1 hr3 V_d) d_jdk_68_method_9_code_32 nofun (pc' := 35) rfl rfl rfl rfl (Nat.le_of_eq rfl) (by decide) (by decide) (by decide) (by decide) ?_
    intro b21 T21 h21 L21 v21 K21 tr21 q21
    obtain ⟨t, kt, rfl, hd, KQ, V_t, X_t, sf_t⟩ := q21
    have ga_t : n0 ≤ t := Nat.le_trans (own_n0 K20.old) hd
    have sz_t : h0.size ≤ t := Nat.le_trans KP.1 hd
    have ne_sb_t : sb ≠ t := own_ne2 X_sb.lt hd
    have ne_d_t : d ≠ t := own_ne2 V_d.lt hd
    replace sf_sb := tr21 sb X_sb.lt sf_sb
    replace sf_d := tr21 d V_d.lt sf_d
    replace X_sb := X_sb.keep KQ
    replace F_sb_value := F_sb_value.keep KQ nin0
    replace F_sb_coder := F_sb_coder.keep KQ nin0
    replace F_sb_count := F_sb_count.keep KQ nin0
    replace V_d := V_d.keep KQ nin0
    replace X_d := X_d.keep KQ
    replace KP := KP.trans KQ all0
    show Goes p_.tables e_ below_ _ (T21.setTop (mkF m_ 35 #[.val (.ref sb), .val (.int mi), .val (.int cp)] [(.ref t), (.ref sb)]))
    refine k_putF K21 (w100 hw) Via.refl F_sb_value X_sb (Or.inl (w101 hw)) (w85 hw) (ty := (.array .byte)) (by decide) rfl rfl ga_sb sf_sb d_jdk_68_method_9_code_35 (pc' := 38) rfl ?_
    intro T22 h22 K22 W22 tr22
    have F22 := F_sb_value.same W22
    replace sf_sb := tr22 sb X_sb.lt sf_sb
    replace sf_d := tr22 d V_d.lt sf_d
    replace sf_t := tr22 t V_t.lt sf_t
    replace X_sb := X_sb.wr W22
    replace F_sb_coder := F_sb_coder.other W22 (Or.inr (slot_ne (Or.inl (w103 hw)) (Or.inl (w101 hw)) (by decide) (t := .byte) (t' := (.array .byte)) (by decide) (by decide)))
    replace F_sb_count := F_sb_count.other W22 (Or.inr (slot_ne (Or.inl (w134 hw)) (Or.inl (w101 hw)) (by decide) (t := .int) (t' := (.array .byte)) (by decide) (by decide)))
    replace V_d := V_d.other W22 (Ne.symm ne_sb_d)
    replace X_d := X_d.wr W22
    replace V_t := V_t.other W22 (Ne.symm ne_sb_t)
    replace X_t := X_t.wr W22
    replace KP := KP.wr W22 (Or.inl (by simp))
    replace F_sb_value := F22
    rw [List.append_assoc] at V_t
    exact k_return K22 d_jdk_68_method_9_code_38 rfl (fun sf ht => ⟨t, kt, nw, ys ++ List.replicate (r - (xs.length + ys.length)) (.int 0), rfl, KP, ⟨X_sb, F_sb_value, F_sb_coder, F_sb_count, V_t, X_t, by rw [hr, List.length_append, List.length_replicate]; omega, by rw [List.length_append, List.length_replicate]; omega⟩, by rw [List.length_append, List.length_replicate]; omega, Or.inr sz_t, ht _ V_t.lt sf_t⟩) (by decide) (by decide)
theorem d_jdk_42_method_152_code_0 : decode jdk_42_method_152_code 0 = .ok (.getstatic 38, 3) := by decide +kernel
theorem w131 {Z : State} {a0 : Array Value} (hw : Tb a0 Z) : (Jvm.Cond.fieldLink "java/lang/String" (38 : Nat) "java/lang/String" "COMPACT_STRINGS" "Z").before a0 Z = true := hw _ (List.mem_of_getElem? (i := 131) rfl)
theorem d_jdk_42_method_152_code_3 : decode jdk_42_method_152_code 3 = .ok (.ifCond .eq 10, 3) := by decide +kernel
theorem d_jdk_42_method_152_code_6 : decode jdk_42_method_152_code 6 = .ok (.aload_n 0, 1) := by decide +kernel
theorem d_jdk_42_method_152_code_7 : decode jdk_42_method_152_code 7 = .ok (.getfield 15, 3) := by decide +kernel
theorem w132 {Z : State} {a0 : Array Value} (hw : Tb a0 Z) : (Jvm.Cond.fieldLink "java/lang/String" (15 : Nat) "java/lang/String" "coder" "B").before a0 Z = true := hw _ (List.mem_of_getElem? (i := 132) rfl)
theorem d_jdk_42_method_152_code_10 : decode jdk_42_method_152_code 10 = .ok (.goto 4, 3) := by decide +kernel
theorem d_jdk_42_method_152_code_14 : decode jdk_42_method_152_code 14 = .ok (.ireturn, 1) := by decide +kernel
theorem pl_java_lang_String : plainName "java/lang/String" = true := by first | (simp [plainName, overriddenIn]; done) | decide +kernel
set_option maxRecDepth 65536 in
set_option maxHeartbeats 40000000 in
theorem c_coder (l : Launch) (Z : State) (a0 : Array Value) (hw : Tb a0 Z) (hEW : EW Z a0 EL0) (n0 : Nat) (a b : Addr) (k : ClassId) (cd z : Int32) (vs : List Value) (cs0 : Int32) (h0 : Heap) (O : Old Z n0 h0) (S : Str Z h0 a b k cd z vs) (hcd : cd = 0 ∨ cd = 1) (SC : Sta Z Z.heap "java/lang/String" "COMPACT_STRINGS" "Z" (.int cs0)) (hcs : ¬ cs0 = 0) :
    Ct l Z EL0 n0 (⟨"java/lang/String", "coder", "()B"⟩ : MethodName) jdk_42_method_152_code 1 (some .byte) ({ frames := 0, cells := 0, slots := 0, locals := 0 } : Room) #[(.ref a)] h0 [] (Pu (some (.int cd)) h0) := by
  refine Ct.of (a0 := a0) #[.val (.ref a)] hEW O (plainFor_of_name pl_java_lang_String) (fun m => by first | (simp [entryFrame, mkF, argsToLocals, Value.category]; done) | rfl) ?_
  intro p_ e_ s_ m_ below_ meth_ c_ b_ T_ K hSP hsh
  refine k_getS K (w131 hw) Via.refl SC d_jdk_42_method_152_code_0 (pc' := 3) rfl ?_
  intro T23 K23
  refine k_if_eq K23 d_jdk_42_method_152_code_3 (by decide) (pc' := 13) (pc2 := 6) (by decide) rfl (fun q => absurd q hcs) (fun hc3 => ?_)
  refine k_aloadN K23 d_jdk_42_method_152_code_6 (pc' := 7) rfl rfl rfl ?_
  refine k_getF K23 (w132 hw) Via.refl S.2.1 d_jdk_42_method_152_code_7 (pc' := 10) rfl ?_
  intro T24 K24
  refine k_goto K24 d_jdk_42_method_152_code_10 (by decide) (pc' := 14) (by decide) ?_
  exact k_nret K24 d_jdk_42_method_152_code_14 rfl (by simp) (by rcases hcd with rfl | rfl <;> rfl) (fun sf ht => ⟨rfl, rfl⟩) (by decide) (by decide)
theorem d_jdk_42_method_54_code_0 : decode jdk_42_method_54_code 0 = .ok (.aload_n 0, 1) := by decide +kernel
theorem d_jdk_42_method_54_code_1 : decode jdk_42_method_54_code 1 = .ok (.getfield 9, 3) := by decide +kernel
theorem w125 {Z : State} {a0 : Array Value} (hw : Tb a0 Z) : (Jvm.Cond.fieldLink "java/lang/String" (9 : Nat) "java/lang/String" "value" "[B").before a0 Z = true := hw _ (List.mem_of_getElem? (i := 125) rfl)
theorem d_jdk_42_method_54_code_4 : decode jdk_42_method_54_code 4 = .ok (.arraylength, 1) := by decide +kernel
theorem d_jdk_42_method_54_code_5 : decode jdk_42_method_54_code 5 = .ok (.aload_n 0, 1) := by decide +kernel
theorem d_jdk_42_method_54_code_6 : decode jdk_42_method_54_code 6 = .ok (.invokevirtual 335, 3) := by decide +kernel
theorem w126 {Z : State} {a0 : Array Value} (hw : Tb a0 Z) : (Jvm.Cond.methodLink "java/lang/String" (335 : Nat) ({ cls := "java/lang/String", name := "coder", desc := "()B" } : Jvm.MethodName)).before a0 Z = true := hw _ (List.mem_of_getElem? (i := 126) rfl)
theorem w98 {Z : State} {a0 : Array Value} (hw : Tb a0 Z) : (Jvm.Cond.initialized "java/lang/String").before a0 Z = true := hw _ (List.mem_of_getElem? (i := 98) rfl)
theorem w130 {Z : State} {a0 : Array Value} (hw : Tb a0 Z) : (Jvm.Cond.code ({ cls := "java/lang/String", name := "coder", desc := "()B" } : Jvm.MethodName) jdk_42_method_152_code (1 : Nat) (Option.some Jvm.ClassFile.FieldType.byte)).before a0 Z = true := hw _ (List.mem_of_getElem? (i := 130) rfl)
theorem w129 {Z : State} {a0 : Array Value} (hw : Tb a0 Z) : (Jvm.Cond.selects "java/lang/String" ({ cls := "java/lang/String", name := "coder", desc := "()B" } : Jvm.MethodName) ({ cls := "java/lang/String", name := "coder", desc := "()B" } : Jvm.MethodName)).before a0 Z = true := hw _ (List.mem_of_getElem? (i := 129) rfl)
theorem w127 {Z : State} {a0 : Array Value} (hw : Tb a0 Z) : (Jvm.Cond.declares ({ cls := "java/lang/String", name := "coder", desc := "()B" } : Jvm.MethodName)).before a0 Z = true := hw _ (List.mem_of_getElem? (i := 127) rfl)
theorem w128 {Z : State} {a0 : Array Value} (hw : Tb a0 Z) : (Jvm.Cond.instanceMethod ({ cls := "java/lang/String", name := "coder", desc := "()B" } : Jvm.MethodName)).before a0 Z = true := hw _ (List.mem_of_getElem? (i := 128) rfl)
theorem pd___B_320 : parseMethodDescriptor "()B" = some ⟨[], some .byte⟩ := by decide +kernel
theorem d_jdk_42_method_54_code_9 : decode jdk_42_method_54_code 9 = .ok (.ishr, 1) := by decide +kernel
theorem d_jdk_42_method_54_code_10 : decode jdk_42_method_54_code 10 = .ok (.ireturn, 1) := by decide +kernel
set_option maxRecDepth 65536 in
set_option maxHeartbeats 40000000 in
theorem c_length (l : Launch) (Z : State) (a0 : Array Value) (hw : Tb a0 Z) (hEW : EW Z a0 EL0) (n0 : Nat) (a b : Addr) (k : ClassId) (cd z : Int32) (vs : List Value) (cs0 : Int32) (h0 : Heap) (O : Old Z n0 h0) (S : Str Z h0 a b k cd z vs) (hcd : cd = 0 ∨ cd = 1) (SC : Sta Z Z.heap "java/lang/String" "COMPACT_STRINGS" "Z" (.int cs0)) (hcs : ¬ cs0 = 0) :
    Ct l Z EL0 n0 (⟨"java/lang/String", "length", "()I"⟩ : MethodName) jdk_42_method_54_code 1 (some .int) ({ frames := 1, cells := 0, slots := 0, locals := 13 } : Room) #[(.ref a)] h0 [] (Pu (some (.int (z >>> (cd &&& 31)))) h0) := by
  refine Ct.of (a0 := a0) #[.val (.ref a)] hEW O (plainFor_of_name pl_java_lang_String) (fun m => by first | (simp [entryFrame, mkF, argsToLocals, Value.category]; done) | rfl) ?_
  intro p_ e_ s_ m_ below_ meth_ c_ b_ T_ K hSP hsh
  refine k_aloadN K d_jdk_42_method_54_code_0 (pc' := 1) rfl rfl rfl ?_
  refine k_getF K (w125 hw) Via.refl S.2.2.1 d_jdk_42_method_54_code_1 (pc' := 4) rfl ?_
  intro T25 K25
  refine k_len K25 S.2.2.2 d_jdk_42_method_54_code_4 (pc' := 5) rfl ?_
  refine k_aloadN K25 d_jdk_42_method_54_code_5 (pc' := 6) rfl rfl rfl ?_
  refine k_virtualP K25 [] [(.int z)] 1 (w126 hw) (w127 hw) (w128 hw) (w129 hw) (w98 hw) (w130 hw) (notFace_of_selects (args := #[]) (mvT K25.hZ (w129 hw))) rfl (by decide) S.1 (by decide) pd___B_320 (c_coder l Z a0 hw hEW n0 a b k cd z vs cs0 h0 K25.old S hcd SC hcs) d_jdk_42_method_54_code_6 nofun (pc' := 9) rfl rfl rfl rfl (Nat.le_of_eq rfl) (by decide) (by decide) (by decide) (by decide) ?_
  intro b26 T26 L26 K26 tr26
  show Goes p_.tables e_ below_ _ (T26.setTop (mkF m_ 9 #[.val (.ref a)] [(.int cd), (.int z)]))
  refine k_ishr K26 d_jdk_42_method_54_code_9 (pc' := 10) rfl ?_
  exact k_iret K26 d_jdk_42_method_54_code_10 rfl (fun sf ht => ⟨rfl, rfl⟩) (by decide) (by decide)
theorem d_jdk_42_method_147_code_0 : decode jdk_42_method_147_code 0 = .ok (.aload_n 0, 1) := by decide +kernel
theorem d_jdk_42_method_147_code_1 : decode jdk_42_method_147_code 1 = .ok (.invokevirtual 335, 3) := by decide +kernel
theorem d_jdk_42_method_147_code_4 : decode jdk_42_method_147_code 4 = .ok (.iload_n 3, 1) := by decide +kernel
theorem d_jdk_42_method_147_code_5 : decode jdk_42_method_147_code 5 = .ok (.if_icmp .ne 23, 3) := by decide +kernel
theorem d_jdk_42_method_147_code_8 : decode jdk_42_method_147_code 8 = .ok (.aload_n 0, 1) := by decide +kernel
theorem d_jdk_42_method_147_code_9 : decode jdk_42_method_147_code 9 = .ok (.getfield 9, 3) := by decide +kernel
theorem d_jdk_42_method_147_code_12 : decode jdk_42_method_147_code 12 = .ok (.iconst 0, 1) := by decide +kernel
theorem d_jdk_42_method_147_code_13 : decode jdk_42_method_147_code 13 = .ok (.aload_n 1, 1) := by decide +kernel
theorem d_jdk_42_method_147_code_14 : decode jdk_42_method_147_code 14 = .ok (.iload_n 2, 1) := by decide +kernel
theorem d_jdk_42_method_147_code_15 : decode jdk_42_method_147_code 15 = .ok (.iload_n 3, 1) := by decide +kernel
theorem d_jdk_42_method_147_code_16 : decode jdk_42_method_147_code 16 = .ok (.ishl, 1) := by decide +kernel
theorem d_jdk_42_method_147_code_17 : decode jdk_42_method_147_code 17 = .ok (.aload_n 0, 1) := by decide +kernel
theorem d_jdk_42_method_147_code_18 : decode jdk_42_method_147_code 18 = .ok (.getfield 9, 3) := by decide +kernel
theorem d_jdk_42_method_147_code_21 : decode jdk_42_method_147_code 21 = .ok (.arraylength, 1) := by decide +kernel
theorem d_jdk_42_method_147_code_22 : decode jdk_42_method_147_code 22 = .ok (.invokestatic 212, 3) := by decide +kernel
theorem w156 {Z : State} {a0 : Array Value} (hw : Tb a0 Z) : (Jvm.Cond.methodLink "java/lang/String" (212 : Nat) ({ cls := "java/lang/System", name := "arraycopy", desc := "(Ljava/lang/Object;ILjava/lang/Object;II)V" } : Jvm.MethodName)).before a0 Z = true := hw _ (List.mem_of_getElem? (i := 156) rfl)
theorem d_jdk_42_method_147_code_25 : decode jdk_42_method_147_code 25 = .ok (.goto 18, 3) := by decide +kernel
theorem d_jdk_42_method_147_code_43 : decode jdk_42_method_147_code 43 = .ok (.return_, 1) := by decide +kernel
set_option maxRecDepth 65536 in
set_option maxHeartbeats 40000000 in
theorem c_getBytes (l : Launch) (Z : State) (a0 : Array Value) (hw : Tb a0 Z) (hEW : EW Z a0 EL0) (n0 : Nat) (d : Addr) (kd : ClassId) (cp : Int32) (xs : List Int32) (ys : List Value) (s e : Addr) (ke : ClassId) (z : Int32) (bs : List Int32) (cs0 : Int32) (h0 : Heap) (O : Old Z n0 h0) (hz : z.toInt = bs.length) (S_s : Str Z h0 s e ke 0 z (bs.map Value.int)) (hfit : bs.length ≤ ys.length) (hcp : cp.toInt = (xs.length + ys.length : Nat)) (hcb : xs.length + ys.length ≤ 142) (V_d : Arv Z h0 d kd .byte cp (xs.map Value.int ++ ys) (.int 0)) (ga_d : n0 ≤ d) (ne_e_d : e ≠ d) (SC : Sta Z Z.heap "java/lang/String" "COMPACT_STRINGS" "Z" (.int cs0)) (hcs : ¬ cs0 = 0) :
    Ct l Z EL0 n0 (⟨"java/lang/String", "getBytes", "([BIB)V"⟩ : MethodName) jdk_42_method_147_code 4 none ({ frames := 1, cells := 0, slots := 0, locals := 18 } : Room) #[(.ref s), (.ref d), (.int (Int32.ofNat xs.length)), (.int (0 : Int32))] h0 [d] (fun v h sf => v = none ∧ Keep h0 h [d] ∧ Arv Z h d kd .byte cp ((xs ++ bs).map Value.int ++ ys.drop bs.length) (.int 0)) := by
  refine Ct.of (a0 := a0) #[.val (.ref s), .val (.ref d), .val (.int (Int32.ofNat xs.length)), .val (.int (0 : Int32))] hEW O (plainFor_of_name pl_java_lang_String) (fun m => by first | (simp [entryFrame, mkF, argsToLocals, Value.category]; done) | rfl) ?_
  intro p_ e_ s_ m_ below_ meth_ c_ b_ T_ K hSP hsh
  have KP := Keep.refl h0 [d]
  have V_e := S_s.2.2.2
  have sf_d := hSP d (by simp)
  refine k_aloadN K d_jdk_42_method_147_code_0 (pc' := 1) rfl rfl rfl ?_
  refine k_virtualP K [] [] 0 (w126 hw) (w127 hw) (w128 hw) (w129 hw) (w98 hw) (w130 hw) (notFace_of_selects (args := #[]) (mvT K.hZ (w129 hw))) rfl (by decide) S_s.1 (by decide) pd___B_320 (c_coder l Z a0 hw hEW n0 s e ke 0 z _ cs0 h0 K.old S_s (Or.inl rfl) SC hcs) d_jdk_42_method_147_code_1 nofun (pc' := 4) rfl rfl rfl rfl (Nat.le_of_eq rfl) (by decide) (by decide) (by decide) (by decide) ?_
  intro b27 T27 L27 K27 tr27
  show Goes p_.tables e_ below_ _ (T27.setTop (mkF m_ 4 #[.val (.ref s), .val (.ref d), .val (.int (Int32.ofNat xs.length)), .val (.int (0 : Int32))] [(.int (0 : Int32))]))
  replace sf_d := tr27 d V_d.lt sf_d
  refine k_iloadN K27 d_jdk_42_method_147_code_4 (pc' := 5) rfl rfl ?_
  refine k_icmp_ne K27 d_jdk_42_method_147_code_5 (by decide) (pc' := 28) (pc2 := 8) (by decide) rfl (fun q => absurd (by decide) q) (fun hc5 => ?_)
  refine k_aloadN K27 d_jdk_42_method_147_code_8 (pc' := 9) rfl rfl rfl ?_
  refine k_getF K27 (w125 hw) Via.refl S_s.2.2.1 d_jdk_42_method_147_code_9 (pc' := 12) rfl ?_
  intro T28 K28
  refine k_iconst K28 (0 : Int32) d_jdk_42_method_147_code_12 (pc' := 13) rfl rfl ?_
  refine k_aloadN K28 d_jdk_42_method_147_code_13 (pc' := 14) rfl rfl rfl ?_
  refine k_iloadN K28 d_jdk_42_method_147_code_14 (pc' := 15) rfl rfl ?_
  refine k_iloadN K28 d_jdk_42_method_147_code_15 (pc' := 16) rfl rfl ?_
  refine k_ishl K28 d_jdk_42_method_147_code_16 (pc' := 17) rfl ?_
  refine k_aloadN K28 d_jdk_42_method_147_code_17 (pc' := 18) rfl rfl rfl ?_
  refine k_getF K28 (w125 hw) Via.refl S_s.2.2.1 d_jdk_42_method_147_code_18 (pc' := 21) rfl ?_
  intro T29 K29
  refine k_len K29 V_e d_jdk_42_method_147_code_21 (pc' := 22) rfl ?_
  rw [own_shl0]
  have hn := own_of (n := xs.length) (by omega)
  have cn := own_clamp hn
  have cz := own_clamp hz
  have cc := own_clamp hcp
  refine k_arraycopy K29 (sp := (0 : Int32)) (dp := (Int32.ofNat xs.length)) (nn := z) (us := (bs.map Value.int)) (w156 hw) (w159 hw) (w157 hw) (w158 hw) V_e V_d rfl (by decide) (by rw [own_i32, hn, own_0]; omega) (by rw [own_i32, hz, own_0]; omega) (by rw [cz]; exact Nat.le_of_eq (Nat.zero_add _)) (by rw [cn, cz, cc]; omega) (by rw [cz, own_range0 (bs.map Value.int) bs.length (by rw [List.length_map]; exact Nat.le_refl _), List.take_of_length_le (by rw [List.length_map]; exact Nat.le_refl _)]) (by rw [cn, cz]; simp; omega) ga_d sf_d d_jdk_42_method_147_code_22 (pc' := 25) rfl rfl (by decide) 0 (Nat.le_of_eq rfl) (by decide) ?_
  intro T30 h30 L30 K30 KQ30 tr30 V30
  replace sf_d := tr30 d V_d.lt sf_d
  replace V_e := V_e.keep KQ30 (ninS ne_e_d nin0)
  replace KP := KP.trans KQ30 (allS (Or.inl (by simp)) all0)
  replace V_d := V30
  show Goes p_.tables e_ below_ _ (T30.setTop (mkF m_ 25 #[.val (.ref s), .val (.ref d), .val (.int (Int32.ofNat xs.length)), .val (.int (0 : Int32))] []))
  rw [cn, cz, own_put xs bs ys hfit] at V_d
  refine k_goto K30 d_jdk_42_method_147_code_25 (by decide) (pc' := 43) (by decide) ?_
  exact k_return K30 d_jdk_42_method_147_code_43 rfl (fun sf ht => ⟨rfl, KP, V_d⟩) (by decide) (by decide)
theorem d_jdk_68_method_71_code_0 : decode jdk_68_method_71_code 0 = .ok (.getstatic 18, 3) := by decide +kernel
theorem d_jdk_68_method_71_code_3 : decode jdk_68_method_71_code 3 = .ok (.ifCond .eq 18, 3) := by decide +kernel
theorem d_jdk_68_method_71_code_6 : decode jdk_68_method_71_code 6 = .ok (.aload_n 0, 1) := by decide +kernel
theorem d_jdk_68_method_71_code_7 : decode jdk_68_method_71_code 7 = .ok (.getfield 22, 3) := by decide +kernel
theorem d_jdk_68_method_71_code_10 : decode jdk_68_method_71_code 10 = .ok (.aload_n 1, 1) := by decide +kernel
theorem d_jdk_68_method_71_code_11 : decode jdk_68_method_71_code 11 = .ok (.invokevirtual 40, 3) := by decide +kernel
theorem w150 {Z : State} {a0 : Array Value} (hw : Tb a0 Z) : (Jvm.Cond.methodLink "java/lang/AbstractStringBuilder" (40 : Nat) ({ cls := "java/lang/String", name := "coder", desc := "()B" } : Jvm.MethodName)).before a0 Z = true := hw _ (List.mem_of_getElem? (i := 150) rfl)
theorem d_jdk_68_method_71_code_14 : decode jdk_68_method_71_code 14 = .ok (.if_icmp .eq 7, 3) := by decide +kernel
theorem d_jdk_68_method_71_code_21 : decode jdk_68_method_71_code 21 = .ok (.return_, 1) := by decide +kernel
set_option maxRecDepth 65536 in
set_option maxHeartbeats 40000000 in
theorem c_infl (l : Launch) (Z : State) (a0 : Array Value) (hw : Tb a0 Z) (hEW : EW Z a0 EL0) (n0 : Nat) (sb s e : Addr) (ke : ClassId) (z : Int32) (vs : List Value) (cs0 : Int32) (h0 : Heap) (O : Old Z n0 h0) (F_sb_coder : Fld Z h0 sb "java/lang/AbstractStringBuilder" "coder" "B" (.int 0)) (S_s : Str Z h0 s e ke 0 z vs) (SC : Sta Z Z.heap "java/lang/String" "COMPACT_STRINGS" "Z" (.int cs0)) (hcs : ¬ cs0 = 0) :
    Ct l Z EL0 n0 (⟨"java/lang/AbstractStringBuilder", "inflateIfNeededFor", "(Ljava/lang/String;)V"⟩ : MethodName) jdk_68_method_71_code 2 none ({ frames := 1, cells := 0, slots := 0, locals := 13 } : Room) #[(.ref sb), (.ref s)] h0 [] (Pu none h0) := by
  refine Ct.of (a0 := a0) #[.val (.ref sb), .val (.ref s)] hEW O (plainFor_of_name pl_java_lang_AbstractStringBuilder) (fun m => by first | (simp [entryFrame, mkF, argsToLocals, Value.category]; done) | rfl) ?_
  intro p_ e_ s_ m_ below_ meth_ c_ b_ T_ K hSP hsh
  refine k_getS K (w97 hw) Via.refl SC d_jdk_68_method_71_code_0 (pc' := 3) rfl ?_
  intro T31 K31
  refine k_if_eq K31 d_jdk_68_method_71_code_3 (by decide) (pc' := 21) (pc2 := 6) (by decide) rfl (fun q => absurd q hcs) (fun hc3 => ?_)
  refine k_aloadN K31 d_jdk_68_method_71_code_6 (pc' := 7) rfl rfl rfl ?_
  refine k_getF K31 (w102 hw) Via.refl F_sb_coder d_jdk_68_method_71_code_7 (pc' := 10) rfl ?_
  intro T32 K32
  refine k_aloadN K32 d_jdk_68_method_71_code_10 (pc' := 11) rfl rfl rfl ?_
  refine k_virtualP K32 [] [(.int (0 : Int32))] 1 (w150 hw) (w127 hw) (w128 hw) (w129 hw) (w98 hw) (w130 hw) (notFace_of_selects (args := #[]) (mvT K32.hZ (w129 hw))) rfl (by decide) S_s.1 (by decide) pd___B_320 (c_coder l Z a0 hw hEW n0 s e ke 0 z _ cs0 h0 K32.old S_s (Or.inl rfl) SC hcs) d_jdk_68_method_71_code_11 nofun (pc' := 14) rfl rfl rfl rfl (Nat.le_of_eq rfl) (by decide) (by decide) (by decide) (by decide) ?_
  intro b33 T33 L33 K33 tr33
  show Goes p_.tables e_ below_ _ (T33.setTop (mkF m_ 14 #[.val (.ref sb), .val (.ref s)] [(.int (0 : Int32)), (.int (0 : Int32))]))
  refine k_icmp_eq K33 d_jdk_68_method_71_code_14 (by decide) (pc' := 21) (pc2 := 17) (by decide) rfl (fun hc14 => ?_) (fun q => absurd (by decide) q)
  exact k_return K33 d_jdk_68_method_71_code_21 rfl (fun sf ht => ⟨rfl, rfl⟩) (by decide) (by decide)
theorem d_jdk_68_method_73_code_0 : decode jdk_68_method_73_code 0 = .ok (.aload_n 0, 1) := by decide +kernel
theorem d_jdk_68_method_73_code_1 : decode jdk_68_method_73_code 1 = .ok (.aload_n 2, 1) := by decide +kernel
theorem d_jdk_68_method_73_code_2 : decode jdk_68_method_73_code 2 = .ok (.invokevirtual 397, 3) := by decide +kernel
theorem w145 {Z : State} {a0 : Array Value} (hw : Tb a0 Z) : (Jvm.Cond.methodLink "java/lang/AbstractStringBuilder" (397 : Nat) ({ cls := "java/lang/AbstractStringBuilder", name := "inflateIfNeededFor", desc := "(Ljava/lang/String;)V" } : Jvm.MethodName)).before a0 Z = true := hw _ (List.mem_of_getElem? (i := 145) rfl)
theorem w149 {Z : State} {a0 : Array Value} (hw : Tb a0 Z) : (Jvm.Cond.code ({ cls := "java/lang/AbstractStringBuilder", name := "inflateIfNeededFor", desc := "(Ljava/lang/String;)V" } : Jvm.MethodName) jdk_68_method_71_code (2 : Nat) (Option.none : Option Jvm.ClassFile.FieldType)).before a0 Z = true := hw _ (List.mem_of_getElem? (i := 149) rfl)
theorem w147 {Z : State} {a0 : Array Value} (hw : Tb a0 Z) : (Jvm.Cond.privateMethod ({ cls := "java/lang/AbstractStringBuilder", name := "inflateIfNeededFor", desc := "(Ljava/lang/String;)V" } : Jvm.MethodName)).before a0 Z = true := hw _ (List.mem_of_getElem? (i := 147) rfl)
theorem w146 {Z : State} {a0 : Array Value} (hw : Tb a0 Z) : (Jvm.Cond.instanceMethod ({ cls := "java/lang/AbstractStringBuilder", name := "inflateIfNeededFor", desc := "(Ljava/lang/String;)V" } : Jvm.MethodName)).before a0 Z = true := hw _ (List.mem_of_getElem? (i := 146) rfl)
theorem w148 {Z : State} {a0 : Array Value} (hw : Tb a0 Z) : (Jvm.Cond.selects "java/lang/StringBuilder" ({ cls := "java/lang/AbstractStringBuilder", name := "inflateIfNeededFor", desc := "(Ljava/lang/String;)V" } : Jvm.MethodName) ({ cls := "java/lang/AbstractStringBuilder", name := "inflateIfNeededFor", desc := "(Ljava/lang/String;)V" } : Jvm.MethodName)).before a0 Z = true := hw _ (List.mem_of_getElem? (i := 148) rfl)
theorem pd__Ljava_lang_String__V_551 : parseMethodDescriptor "(Ljava/lang/String;)V" = some ⟨[(.object "java/lang/String")], none⟩ := by decide +kernel
theorem d_jdk_68_method_73_code_5 : decode jdk_68_method_73_code 5 = .ok (.aload_n 2, 1) := by decide +kernel
theorem d_jdk_68_method_73_code_6 : decode jdk_68_method_73_code 6 = .ok (.aload_n 0, 1) := by decide +kernel
theorem d_jdk_68_method_73_code_7 : decode jdk_68_method_73_code 7 = .ok (.getfield 15, 3) := by decide +kernel
theorem d_jdk_68_method_73_code_10 : decode jdk_68_method_73_code 10 = .ok (.iload_n 1, 1) := by decide +kernel
theorem d_jdk_68_method_73_code_11 : decode jdk_68_method_73_code 11 = .ok (.aload_n 0, 1) := by decide +kernel
theorem d_jdk_68_method_73_code_12 : decode jdk_68_method_73_code 12 = .ok (.getfield 22, 3) := by decide +kernel
theorem d_jdk_68_method_73_code_15 : decode jdk_68_method_73_code 15 = .ok (.invokevirtual 399, 3) := by decide +kernel
theorem w151 {Z : State} {a0 : Array Value} (hw : Tb a0 Z) : (Jvm.Cond.methodLink "java/lang/AbstractStringBuilder" (399 : Nat) ({ cls := "java/lang/String", name := "getBytes", desc := "([BIB)V" } : Jvm.MethodName)).before a0 Z = true := hw _ (List.mem_of_getElem? (i := 151) rfl)
theorem w155 {Z : State} {a0 : Array Value} (hw : Tb a0 Z) : (Jvm.Cond.code ({ cls := "java/lang/String", name := "getBytes", desc := "([BIB)V" } : Jvm.MethodName) jdk_42_method_147_code (4 : Nat) (Option.none : Option Jvm.ClassFile.FieldType)).before a0 Z = true := hw _ (List.mem_of_getElem? (i := 155) rfl)
theorem w154 {Z : State} {a0 : Array Value} (hw : Tb a0 Z) : (Jvm.Cond.selects "java/lang/String" ({ cls := "java/lang/String", name := "getBytes", desc := "([BIB)V" } : Jvm.MethodName) ({ cls := "java/lang/String", name := "getBytes", desc := "([BIB)V" } : Jvm.MethodName)).before a0 Z = true := hw _ (List.mem_of_getElem? (i := 154) rfl)
theorem w152 {Z : State} {a0 : Array Value} (hw : Tb a0 Z) : (Jvm.Cond.declares ({ cls := "java/lang/String", name := "getBytes", desc := "([BIB)V" } : Jvm.MethodName)).before a0 Z = true := hw _ (List.mem_of_getElem? (i := 152) rfl)
theorem w153 {Z : State} {a0 : Array Value} (hw : Tb a0 Z) : (Jvm.Cond.instanceMethod ({ cls := "java/lang/String", name := "getBytes", desc := "([BIB)V" } : Jvm.MethodName)).before a0 Z = true := hw _ (List.mem_of_getElem? (i := 153) rfl)
theorem pd___BIB_V_1890 : parseMethodDescriptor "([BIB)V" = some ⟨[(.array .byte), .int, .byte], none⟩ := by decide +kernel
theorem d_jdk_68_method_73_code_18 : decode jdk_68_method_73_code 18 = .ok (.return_, 1) := by decide +kernel
set_option maxRecDepth 65536 in
set_option maxHeartbeats 40000000 in
theorem c_psa (l : Launch) (Z : State) (a0 : Array Value) (hw : Tb a0 Z) (hEW : EW Z a0 EL0) (n0 : Nat) (sb d : Addr) (kd : ClassId) (cp : Int32) (xs : List Int32) (ys : List Value) (s e : Addr) (ke : ClassId) (z : Int32) (bs : List Int32) (cs0 : Int32) (h0 : Heap) (O : Old Z n0 h0) (B : Sbd Z h0 sb d kd cp xs ys) (hz : z.toInt = bs.length) (S_s : Str Z h0 s e ke 0 z (bs.map Value.int)) (hfit : bs.length ≤ ys.length) (ga_d : n0 ≤ d) (ne_e_d : e ≠ d) (SC : Sta Z Z.heap "java/lang/String" "COMPACT_STRINGS" "Z" (.int cs0)) (hcs : ¬ cs0 = 0) :
    Ct l Z EL0 n0 (⟨"java/lang/AbstractStringBuilder", "putStringAt", "(ILjava/lang/String;)V"⟩ : MethodName) jdk_68_method_73_code 3 none ({ frames := 2, cells := 0, slots := 0, locals := 33 } : Room) #[(.ref sb), (.int (Int32.ofNat xs.length)), (.ref s)] h0 [d] (fun v h sf => v = none ∧ Keep h0 h [d] ∧ Arv Z h d kd .byte cp ((xs ++ bs).map Value.int ++ ys.drop bs.length) (.int 0)) := by
  refine Ct.of (a0 := a0) #[.val (.ref sb), .val (.int (Int32.ofNat xs.length)), .val (.ref s)] hEW O (plainFor_of_name pl_java_lang_AbstractStringBuilder) (fun m => by first | (simp [entryFrame, mkF, argsToLocals, Value.category]; done) | rfl) ?_
  intro p_ e_ s_ m_ below_ meth_ c_ b_ T_ K hSP hsh
  obtain ⟨X_sb, F_sb_value, F_sb_coder, F_sb_count, V_d, X_d, hcp, hcb⟩ := B
  have sf_d := hSP d (by simp)
  refine k_aloadN K d_jdk_68_method_73_code_0 (pc' := 1) rfl rfl rfl ?_
  refine k_aloadN K d_jdk_68_method_73_code_1 (pc' := 2) rfl rfl rfl ?_
  refine k_privateP K [(.ref s)] [] 0 (w145 hw) (w146 hw) (own_priv2 K (w148 hw) (w146 hw) (w147 hw) (by decide)) (w147 hw) (w94 hw) (w149 hw) X_sb (by decide) pd__Ljava_lang_String__V_551 (c_infl l Z a0 hw hEW n0 sb s e ke z _ cs0 h0 K.old F_sb_coder S_s SC hcs) d_jdk_68_method_73_code_2 nofun (pc' := 5) rfl rfl rfl rfl (Nat.le_of_eq rfl) (by decide) (by decide) (by decide) (by decide) ?_
  intro b34 T34 L34 K34 tr34
  show Goes p_.tables e_ below_ _ (T34.setTop (mkF m_ 5 #[.val (.ref sb), .val (.int (Int32.ofNat xs.length)), .val (.ref s)] []))
  replace sf_d := tr34 d V_d.lt sf_d
  refine k_aloadN K34 d_jdk_68_method_73_code_5 (pc' := 6) rfl rfl rfl ?_
  refine k_aloadN K34 d_jdk_68_method_73_code_6 (pc' := 7) rfl rfl rfl ?_
  refine k_getF K34 (w100 hw) Via.refl F_sb_value d_jdk_68_method_73_code_7 (pc' := 10) rfl ?_
  intro T35 K35
  refine k_iloadN K35 d_jdk_68_method_73_code_10 (pc' := 11) rfl rfl ?_
  refine k_aloadN K35 d_jdk_68_method_73_code_11 (pc' := 12) rfl rfl rfl ?_
  refine k_getF K35 (w102 hw) Via.refl F_sb_coder d_jdk_68_method_73_code_12 (pc' := 15) rfl ?_
  intro T36 K36
  refine k_virtual K36 [(.ref d), (.int (Int32.ofNat xs.length)), (.int (0 : Int32))] [] 0 (w151 hw) (w152 hw) (w153 hw) (w154 hw) (w98 hw) (w155 hw) (notFace_of_selects (args := #[]) (mvT K36.hZ (w154 hw))) rfl (by decide) S_s.1 (by decide) pd___BIB_V_1890 (c_getBytes l Z a0 hw hEW n0 d kd cp xs ys s e ke z bs cs0 h0 K36.old hz S_s hfit hcp hcb V_d ga_d ne_e_d SC hcs) d_jdk_68_method_73_code_15 (fun x hx => by cases List.mem_singleton.mp hx; exact ⟨V_d.lt, sf_d⟩) (pc' := 18) rfl rfl rfl rfl (Nat.le_of_eq rfl) (by decide) (by decide) (by decide) (by decide) ?_
  intro b37 T37 h37 L37 v37 K37 tr37 q37
  obtain ⟨rfl, KQ, V2⟩ := q37
  show Goes p_.tables e_ below_ _ (T37.setTop (mkF m_ 18 #[.val (.ref sb), .val (.int (Int32.ofNat xs.length)), .val (.ref s)] []))
  exact k_return K37 d_jdk_68_method_73_code_18 rfl (fun sf ht => ⟨rfl, KQ, V2⟩) (by decide) (by decide)
theorem d_jdk_68_method_22_code_0 : decode jdk_68_method_22_code 0 = .ok (.aload_n 1, 1) := by decide +kernel
theorem d_jdk_68_method_22_code_1 : decode jdk_68_method_22_code 1 = .ok (.ifnonnull 8, 3) := by decide +kernel
theorem d_jdk_68_method_22_code_9 : decode jdk_68_method_22_code 9 = .ok (.aload_n 1, 1) := by decide +kernel
theorem d_jdk_68_method_22_code_10 : decode jdk_68_method_22_code 10 = .ok (.invokevirtual 32, 3) := by decide +kernel
theorem w120 {Z : State} {a0 : Array Value} (hw : Tb a0 Z) : (Jvm.Cond.methodLink "java/lang/AbstractStringBuilder" (32 : Nat) ({ cls := "java/lang/String", name := "length", desc := "()I" } : Jvm.MethodName)).before a0 Z = true := hw _ (List.mem_of_getElem? (i := 120) rfl)
theorem w124 {Z : State} {a0 : Array Value} (hw : Tb a0 Z) : (Jvm.Cond.code ({ cls := "java/lang/String", name := "length", desc := "()I" } : Jvm.MethodName) jdk_42_method_54_code (1 : Nat) (Option.some Jvm.ClassFile.FieldType.int)).before a0 Z = true := hw _ (List.mem_of_getElem? (i := 124) rfl)
theorem w123 {Z : State} {a0 : Array Value} (hw : Tb a0 Z) : (Jvm.Cond.selects "java/lang/String" ({ cls := "java/lang/String", name := "length", desc := "()I" } : Jvm.MethodName) ({ cls := "java/lang/String", name := "length", desc := "()I" } : Jvm.MethodName)).before a0 Z = true := hw _ (List.mem_of_getElem? (i := 123) rfl)
theorem w121 {Z : State} {a0 : Array Value} (hw : Tb a0 Z) : (Jvm.Cond.declares ({ cls := "java/lang/String", name := "length", desc := "()I" } : Jvm.MethodName)).before a0 Z = true := hw _ (List.mem_of_getElem? (i := 121) rfl)
theorem w122 {Z : State} {a0 : Array Value} (hw : Tb a0 Z) : (Jvm.Cond.instanceMethod ({ cls := "java/lang/String", name := "length", desc := "()I" } : Jvm.MethodName)).before a0 Z = true := hw _ (List.mem_of_getElem? (i := 122) rfl)
theorem pd___I_341 : parseMethodDescriptor "()I" = some ⟨[], some .int⟩ := by decide +kernel
theorem d_jdk_68_method_22_code_13 : decode jdk_68_method_22_code 13 = .ok (.istore_n 2, 1) := by decide +kernel
theorem d_jdk_68_method_22_code_14 : decode jdk_68_method_22_code 14 = .ok (.aload_n 0, 1) := by decide +kernel
theorem d_jdk_68_method_22_code_15 : decode jdk_68_method_22_code 15 = .ok (.aload_n 0, 1) := by decide +kernel
theorem d_jdk_68_method_22_code_16 : decode jdk_68_method_22_code 16 = .ok (.getfield 79, 3) := by decide +kernel
theorem w133 {Z : State} {a0 : Array Value} (hw : Tb a0 Z) : (Jvm.Cond.fieldLink "java/lang/AbstractStringBuilder" (79 : Nat) "java/lang/AbstractStringBuilder" "count" "I").before a0 Z = true := hw _ (List.mem_of_getElem? (i := 133) rfl)
theorem d_jdk_68_method_22_code_19 : decode jdk_68_method_22_code 19 = .ok (.iload_n 2, 1) := by decide +kernel
theorem d_jdk_68_method_22_code_20 : decode jdk_68_method_22_code 20 = .ok (.iadd, 1) := by decide +kernel
theorem d_jdk_68_method_22_code_21 : decode jdk_68_method_22_code 21 = .ok (.invokevirtual 100, 3) := by decide +kernel
theorem w135 {Z : State} {a0 : Array Value} (hw : Tb a0 Z) : (Jvm.Cond.methodLink "java/lang/AbstractStringBuilder" (100 : Nat) ({ cls := "java/lang/AbstractStringBuilder", name := "ensureCapacityInternal", desc := "(I)V" } : Jvm.MethodName)).before a0 Z = true := hw _ (List.mem_of_getElem? (i := 135) rfl)
theorem w139 {Z : State} {a0 : Array Value} (hw : Tb a0 Z) : (Jvm.Cond.code ({ cls := "java/lang/AbstractStringBuilder", name := "ensureCapacityInternal", desc := "(I)V" } : Jvm.MethodName) jdk_68_method_9_code (3 : Nat) (Option.none : Option Jvm.ClassFile.FieldType)).before a0 Z = true := hw _ (List.mem_of_getElem? (i := 139) rfl)
theorem w137 {Z : State} {a0 : Array Value} (hw : Tb a0 Z) : (Jvm.Cond.privateMethod ({ cls := "java/lang/AbstractStringBuilder", name := "ensureCapacityInternal", desc := "(I)V" } : Jvm.MethodName)).before a0 Z = true := hw _ (List.mem_of_getElem? (i := 137) rfl)
theorem w136 {Z : State} {a0 : Array Value} (hw : Tb a0 Z) : (Jvm.Cond.instanceMethod ({ cls := "java/lang/AbstractStringBuilder", name := "ensureCapacityInternal", desc := "(I)V" } : Jvm.MethodName)).before a0 Z = true := hw _ (List.mem_of_getElem? (i := 136) rfl)
theorem w138 {Z : State} {a0 : Array Value} (hw : Tb a0 Z) : (Jvm.Cond.selects "java/lang/StringBuilder" ({ cls := "java/lang/AbstractStringBuilder", name := "ensureCapacityInternal", desc := "(I)V" } : Jvm.MethodName) ({ cls := "java/lang/AbstractStringBuilder", name := "ensureCapacityInternal", desc := "(I)V" } : Jvm.MethodName)).before a0 Z = true := hw _ (List.mem_of_getElem? (i := 138) rfl)
theorem d_jdk_68_method_22_code_24 : decode jdk_68_method_22_code 24 = .ok (.aload_n 0, 1) := by decide +kernel
theorem d_jdk_68_method_22_code_25 : decode jdk_68_method_22_code 25 = .ok (.aload_n 0, 1) := by decide +kernel
theorem d_jdk_68_method_22_code_26 : decode jdk_68_method_22_code 26 = .ok (.getfield 79, 3) := by decide +kernel
theorem d_jdk_68_method_22_code_29 : decode jdk_68_method_22_code 29 = .ok (.aload_n 1, 1) := by decide +kernel
theorem d_jdk_68_method_22_code_30 : decode jdk_68_method_22_code 30 = .ok (.invokevirtual 208, 3) := by decide +kernel
theorem w140 {Z : State} {a0 : Array Value} (hw : Tb a0 Z) : (Jvm.Cond.methodLink "java/lang/AbstractStringBuilder" (208 : Nat) ({ cls := "java/lang/AbstractStringBuilder", name := "putStringAt", desc := "(ILjava/lang/String;)V" } : Jvm.MethodName)).before a0 Z = true := hw _ (List.mem_of_getElem? (i := 140) rfl)
theorem w144 {Z : State} {a0 : Array Value} (hw : Tb a0 Z) : (Jvm.Cond.code ({ cls := "java/lang/AbstractStringBuilder", name := "putStringAt", desc := "(ILjava/lang/String;)V" } : Jvm.MethodName) jdk_68_method_73_code (3 : Nat) (Option.none : Option Jvm.ClassFile.FieldType)).before a0 Z = true := hw _ (List.mem_of_getElem? (i := 144) rfl)
theorem w142 {Z : State} {a0 : Array Value} (hw : Tb a0 Z) : (Jvm.Cond.privateMethod ({ cls := "java/lang/AbstractStringBuilder", name := "putStringAt", desc := "(ILjava/lang/String;)V" } : Jvm.MethodName)).before a0 Z = true := hw _ (List.mem_of_getElem? (i := 142) rfl)
theorem w141 {Z : State} {a0 : Array Value} (hw : Tb a0 Z) : (Jvm.Cond.instanceMethod ({ cls := "java/lang/AbstractStringBuilder", name := "putStringAt", desc := "(ILjava/lang/String;)V" } : Jvm.MethodName)).before a0 Z = true := hw _ (List.mem_of_getElem? (i := 141) rfl)
theorem w143 {Z : State} {a0 : Array Value} (hw : Tb a0 Z) : (Jvm.Cond.selects "java/lang/StringBuilder" ({ cls := "java/lang/AbstractStringBuilder", name := "putStringAt", desc := "(ILjava/lang/String;)V" } : Jvm.MethodName) ({ cls := "java/lang/AbstractStringBuilder", name := "putStringAt", desc := "(ILjava/lang/String;)V" } : Jvm.MethodName)).before a0 Z = true := hw _ (List.mem_of_getElem? (i := 143) rfl)
theorem pd__ILjava_lang_String__V_2520 : parseMethodDescriptor "(ILjava/lang/String;)V" = some ⟨[.int, (.object "java/lang/String")], none⟩ := by decide +kernel
theorem d_jdk_68_method_22_code_33 : decode jdk_68_method_22_code 33 = .ok (.aload_n 0, 1) := by decide +kernel
theorem d_jdk_68_method_22_code_34 : decode jdk_68_method_22_code 34 = .ok (.dup, 1) := by decide +kernel
theorem d_jdk_68_method_22_code_35 : decode jdk_68_method_22_code 35 = .ok (.getfield 79, 3) := by decide +kernel
theorem d_jdk_68_method_22_code_38 : decode jdk_68_method_22_code 38 = .ok (.iload_n 2, 1) := by decide +kernel
theorem d_jdk_68_method_22_code_39 : decode jdk_68_method_22_code 39 = .ok (.iadd, 1) := by decide +kernel
theorem d_jdk_68_method_22_code_40 : decode jdk_68_method_22_code 40 = .ok (.putfield 79, 3) := by decide +kernel
theorem d_jdk_68_method_22_code_43 : decode jdk_68_method_22_code 43 = .ok (.aload_n 0, 1) := by decide +kernel
theorem d_jdk_68_method_22_code_44 : decode jdk_68_method_22_code 44 = .ok (.areturn, 1) := by decide +kernel
set_option maxRecDepth 65536 in
set_option maxHeartbeats 40000000 in
theorem c_app (l : Launch) (Z : State) (a0 : Array Value) (hw : Tb a0 Z) (hEW : EW Z a0 EL0) (n0 : Nat) (sb d : Addr) (kd : ClassId) (cp : Int32) (xs : List Int32) (ys : List Value) (s e : Addr) (ke : ClassId) (z : Int32) (bs : List Int32) (cs0 : Int32) (h0 : Heap) (O : Old Z n0 h0) (B : Sbd Z h0 sb d kd cp xs ys) (ga_sb : n0 ≤ sb) (ga_d : n0 ≤ d) (ne_sb_d : sb ≠ d) (hz : z.toInt = bs.length) (S_s : Str Z h0 s e ke 0 z (bs.map Value.int)) (htot : xs.length + bs.length ≤ 70) (ne_s_sb : s ≠ sb) (ne_e_sb : e ≠ sb) (ne_e_d : e ≠ d) (SC : Sta Z Z.heap "java/lang/String" "COMPACT_STRINGS" "Z" (.int cs0)) (hcs : ¬ cs0 = 0) :
    Ct l Z EL0 n0 (⟨"java/lang/AbstractStringBuilder", "append", "(Ljava/lang/String;)Ljava/lang/AbstractStringBuilder;"⟩ : MethodName) jdk_68_method_22_code 3 (some (.object "java/lang/AbstractStringBuilder")) ({ frames := 4, cells := 1, slots := 142, locals := 62 } : Room) #[(.ref sb), (.ref s)] h0 [sb, d] (fun v h sf => ∃ d' kd' cp' ys', v = some (.ref sb) ∧ Keep h0 h [sb, d] ∧ Sbd Z h sb d' kd' cp' (xs ++ bs) ys' ∧ (d' = d ∨ h0.size ≤ d') ∧ sf d') := by
  refine Ct.of (a0 := a0) #[.val (.ref sb), .val (.ref s), .unset] hEW O (plainFor_of_name pl_java_lang_AbstractStringBuilder) (fun m => by first | (simp [entryFrame, mkF, argsToLocals, Value.category]; done) | rfl) ?_
  intro p_ e_ s_ m_ below_ meth_ c_ b_ T_ K hSP hsh
  have B0 := B
  obtain ⟨X_sb, F_sb_value, F_sb_coder, F_sb_count, V_d, X_d, hcp, hcb⟩ := B
  have KP := Keep.refl h0 [sb, d]
  have sf_sb := hSP sb (by simp)
  have sf_d := hSP d (by simp)
  refine k_aloadN K d_jdk_68_method_22_code_0 (pc' := 1) rfl rfl rfl ?_
  refine k_ifnonnull K rfl d_jdk_68_method_22_code_1 (by decide) (pc' := 9) (pc2 := 4) (by decide) rfl (fun hc1 => ?_) (fun q => absurd q (by simp))
  refine k_aloadN K d_jdk_68_method_22_code_9 (pc' := 10) rfl rfl rfl ?_
  refine k_virtualP K [] [] 0 (w120 hw) (w121 hw) (w122 hw) (w123 hw) (w98 hw) (w124 hw) (notFace_of_selects (args := #[]) (mvT K.hZ (w123 hw))) rfl (by decide) S_s.1 (by decide) pd___I_341 (c_length l Z a0 hw hEW n0 s e ke 0 z _ cs0 h0 K.old S_s (Or.inl rfl) SC hcs) d_jdk_68_method_22_code_10 nofun (pc' := 13) rfl rfl rfl rfl (Nat.le_of_eq rfl) (by decide) (by decide) (by decide) (by decide) ?_
  intro b38 T38 L38 K38 tr38
  show Goes p_.tables e_ below_ _ (T38.setTop (mkF m_ 13 #[.val (.ref sb), .val (.ref s), .unset] [(.int (z >>> ((0 : Int32) &&& 31)))]))
  replace sf_sb := tr38 sb X_sb.lt sf_sb
  replace sf_d := tr38 d V_d.lt sf_d
  rw [own_shr0]
  refine k_istoreN K38 d_jdk_68_method_22_code_13 (pc' := 14) (L' := #[.val (.ref sb), .val (.ref s), .val (.int z)]) rfl rfl ?_
  refine k_aloadN K38 d_jdk_68_method_22_code_14 (pc' := 15) rfl rfl rfl ?_
  refine k_aloadN K38 d_jdk_68_method_22_code_15 (pc' := 16) rfl rfl rfl ?_
  refine k_getF K38 (w133 hw) Via.refl F_sb_count d_jdk_68_method_22_code_16 (pc' := 19) rfl ?_
  intro T39 K39
  refine k_iloadN K39 d_jdk_68_method_22_code_19 (pc' := 20) rfl rfl ?_
  refine k_iadd K39 d_jdk_68_method_22_code_20 (pc' := 21) rfl ?_
  rw [own_sumN hz (by omega)]
  refine k_private K39 [(.int (Int32.ofNat (xs.length + bs.length)))] [] 0 (w135 hw) (w136 hw) (own_priv2 K39 (w138 hw) (w136 hw) (w137 hw) (by decide)) (w137 hw) (w94 hw) (w139 hw) X_sb (by decide) pd__I_V_653 (c_ensure l Z a0 hw hEW n0 sb d kd cp xs ys (Int32.ofNat (xs.length + bs.length)) (xs.length + bs.length) h0 K39.old B0 ga_sb ga_d ne_sb_d (own_of (by omega)) htot) d_jdk_68_method_22_code_21 (fun x hx => by
    simp only [List.mem_cons, List.not_mem_nil, or_false] at hx
    rcases hx with rfl | rfl
    · exact ⟨X_sb.lt, sf_sb⟩
    · exact ⟨V_d.lt, sf_d⟩) (pc' := 24) rfl rfl rfl rfl (Nat.le_of_eq rfl) (by decide) (by decide) (by decide) (by decide) ?_
  intro b40 T40 h40 L40 v40 K40 tr40 q40
  obtain ⟨d', kd', cp', ys', rfl, KQ, B1, hroom, hd', sf_d'⟩ := q40
  have hd2 : d' = d ∨ h0.size ≤ d' := hd'
  have ga_d' : n0 ≤ d' := hd'.elim (fun q => q ▸ ga_d) fun q => Nat.le_trans (own_n0 K39.old) q
  have ne_sb_d' : sb ≠ d' := hd'.elim (fun q => q ▸ ne_sb_d) fun q => own_ne2 X_sb.lt q
  have ne_e_d' : e ≠ d' := hd'.elim (fun q => q ▸ ne_e_d) fun q => own_ne2 S_s.blt q
  replace sf_sb := tr40 sb X_sb.lt sf_sb
  replace S_s := S_s.keep KQ (ninS ne_s_sb nin0) (ninS ne_e_sb nin0)
  replace KP := KP.trans KQ (allS (Or.inl (by simp)) all0)
  have B1c := B1
  obtain ⟨X_sb, F_sb_value, F_sb_coder, F_sb_count, V_d', X_d', hcp', hcb'⟩ := B1c
  show Goes p_.tables e_ below_ _ (T40.setTop (mkF m_ 24 #[.val (.ref sb), .val (.ref s), .val (.int z)] []))
  refine k_aloadN K40 d_jdk_68_method_22_code_24 (pc' := 25) rfl rfl rfl ?_
  refine k_aloadN K40 d_jdk_68_method_22_code_25 (pc' := 26) rfl rfl rfl ?_
  refine k_getF K40 (w133 hw) Via.refl F_sb_count d_jdk_68_method_22_code_26 (pc' := 29) rfl ?_
  intro T41 K41
  refine k_aloadN K41 d_jdk_68_method_22_code_29 (pc' := 30) rfl rfl rfl ?_
  refine k_private K41 [(.int (Int32.ofNat xs.length)), (.ref s)] [] 0 (w140 hw) (w141 hw) (own_priv2 K41 (w143 hw) (w141 hw) (w142 hw) (by decide)) (w142 hw) (w94 hw) (w144 hw) X_sb (by decide) pd__ILjava_lang_String__V_2520 (c_psa l Z a0 hw hEW n0 sb d' kd' cp' xs ys' s e ke z bs cs0 h40 K41.old B1 hz S_s (by omega) ga_d' ne_e_d' SC hcs) d_jdk_68_method_22_code_30 (fun x hx => by cases List.mem_singleton.mp hx; exact ⟨V_d'.lt, sf_d'⟩) (pc' := 33) rfl rfl rfl rfl (Nat.le_of_eq rfl) (by decide) (by decide) (by decide) (by decide) ?_
  intro b42 T42 h42 L42 v42 K42 tr42 q42
  obtain ⟨rfl, KQ2, V2⟩ := q42
  replace sf_d' := tr42 d' V_d'.lt sf_d'
  replace sf_sb := tr42 sb X_sb.lt sf_sb
  replace X_sb := X_sb.keep KQ2
  replace F_sb_value := F_sb_value.keep KQ2 (ninS ne_sb_d' nin0)
  replace F_sb_coder := F_sb_coder.keep KQ2 (ninS ne_sb_d' nin0)
  replace F_sb_count := F_sb_count.keep KQ2 (ninS ne_sb_d' nin0)
  replace X_d' := X_d'.keep KQ2
  replace KP := KP.trans KQ2 (allS (hd2.imp (fun q => by rw [q]; simp) id) all0)
  replace V_d' := V2
  show Goes p_.tables e_ below_ _ (T42.setTop (mkF m_ 33 #[.val (.ref sb), .val (.ref s), .val (.int z)] []))
  refine k_aloadN K42 d_jdk_68_method_22_code_33 (pc' := 34) rfl rfl rfl ?_
  refine k_dup K42 d_jdk_68_method_22_code_34 (pc' := 35) rfl rfl ?_
  refine k_getF K42 (w133 hw) Via.refl F_sb_count d_jdk_68_method_22_code_35 (pc' := 38) rfl ?_
  intro T43 K43
  refine k_iloadN K43 d_jdk_68_method_22_code_38 (pc' := 39) rfl rfl ?_
  refine k_iadd K43 d_jdk_68_method_22_code_39 (pc' := 40) rfl ?_
  rw [own_sumN hz (by omega)]
  refine k_putF K43 (w133 hw) Via.refl F_sb_count X_sb (Or.inl (w134 hw)) (w85 hw) (ty := .int) (by decide) rfl rfl ga_sb sf_sb d_jdk_68_method_22_code_40 (pc' := 43) rfl ?_
  intro T44 h44 K44 W44 tr44
  have F44 := F_sb_count.same W44
  replace sf_sb := tr44 sb X_sb.lt sf_sb
  replace sf_d' := tr44 d' X_d'.lt sf_d'
  replace X_sb := X_sb.wr W44
  replace F_sb_value := F_sb_value.other W44 (Or.inr (slot_ne (Or.inl (w101 hw)) (Or.inl (w134 hw)) (by decide) (t := (.array .byte)) (t' := .int) (by decide) (by decide)))
  replace F_sb_coder := F_sb_coder.other W44 (Or.inr (slot_ne (Or.inl (w103 hw)) (Or.inl (w134 hw)) (by decide) (t := .byte) (t' := .int) (by decide) (by decide)))
  replace X_d' := X_d'.wr W44
  replace V_d' := V_d'.other W44 (Ne.symm ne_sb_d')
  replace KP := KP.wr W44 (Or.inl (by simp))
  replace F_sb_count := F44
  refine k_aloadN K44 d_jdk_68_method_22_code_43 (pc' := 44) rfl rfl rfl ?_
  rw [← List.length_append] at F_sb_count
  exact k_aret K44 d_jdk_68_method_22_code_44 rfl rfl rfl (fun sf ht => ⟨d', kd', cp', ys'.drop bs.length, rfl, KP, ⟨X_sb, F_sb_value, F_sb_coder, F_sb_count, V_d', X_d', by rw [hcp', List.length_append, List.length_drop]; omega, by rw [List.length_append, List.length_drop]; omega⟩, hd2, ht _ V_d'.lt sf_d'⟩) (by decide) (by decide)
theorem d_jdk_67_method_7_code_0 : decode jdk_67_method_7_code 0 = .ok (.aload_n 0, 1) := by decide +kernel
theorem d_jdk_67_method_7_code_1 : decode jdk_67_method_7_code 1 = .ok (.aload_n 1, 1) := by decide +kernel
theorem d_jdk_67_method_7_code_2 : decode jdk_67_method_7_code 2 = .ok (.invokespecial 29, 3) := by decide +kernel
theorem w115 {Z : State} {a0 : Array Value} (hw : Tb a0 Z) : (Jvm.Cond.methodLink "java/lang/StringBuilder" (29 : Nat) ({ cls := "java/lang/AbstractStringBuilder", name := "append", desc := "(Ljava/lang/String;)Ljava/lang/AbstractStringBuilder;" } : Jvm.MethodName)).before a0 Z = true := hw _ (List.mem_of_getElem? (i := 115) rfl)
theorem w119 {Z : State} {a0 : Array Value} (hw : Tb a0 Z) : (Jvm.Cond.code ({ cls := "java/lang/AbstractStringBuilder", name := "append", desc := "(Ljava/lang/String;)Ljava/lang/AbstractStringBuilder;" } : Jvm.MethodName) jdk_68_method_22_code (3 : Nat) (Option.some (Jvm.ClassFile.FieldType.object "java/lang/AbstractStringBuilder"))).before a0 Z = true := hw _ (List.mem_of_getElem? (i := 119) rfl)
theorem w116 {Z : State} {a0 : Array Value} (hw : Tb a0 Z) : (Jvm.Cond.instanceMethod ({ cls := "java/lang/AbstractStringBuilder", name := "append", desc := "(Ljava/lang/String;)Ljava/lang/AbstractStringBuilder;" } : Jvm.MethodName)).before a0 Z = true := hw _ (List.mem_of_getElem? (i := 116) rfl)
theorem w117 {Z : State} {a0 : Array Value} (hw : Tb a0 Z) : (Jvm.Cond.superclass "java/lang/StringBuilder" "java/lang/AbstractStringBuilder").before a0 Z = true := hw _ (List.mem_of_getElem? (i := 117) rfl)
theorem pd__Ljava_lang_String__Ljava_lang_AbstractStringBuilder__9239 : parseMethodDescriptor "(Ljava/lang/String;)Ljava/lang/AbstractStringBuilder;" = some ⟨[(.object "java/lang/String")], some (.object "java/lang/AbstractStringBuilder")⟩ := by decide +kernel
theorem d_jdk_67_method_7_code_5 : decode jdk_67_method_7_code 5 = .ok (.pop, 1) := by decide +kernel
theorem d_jdk_67_method_7_code_6 : decode jdk_67_method_7_code 6 = .ok (.aload_n 0, 1) := by decide +kernel
theorem d_jdk_67_method_7_code_7 : decode jdk_67_method_7_code 7 = .ok (.areturn, 1) := by decide +kernel
set_option maxRecDepth 65536 in
set_option maxHeartbeats 40000000 in
theorem c_sapp (l : Launch) (Z : State) (a0 : Array Value) (hw : Tb a0 Z) (hEW : EW Z a0 EL0) (n0 : Nat) (sb d : Addr) (kd : ClassId) (cp : Int32) (xs : List Int32) (ys : List Value) (s e : Addr) (ke : ClassId) (z : Int32) (bs : List Int32) (cs0 : Int32) (h0 : Heap) (O : Old Z n0 h0) (B : Sbd Z h0 sb d kd cp xs ys) (ga_sb : n0 ≤ sb) (ga_d : n0 ≤ d) (ne_sb_d : sb ≠ d) (hz : z.toInt = bs.length) (S_s : Str Z h0 s e ke 0 z (bs.map Value.int)) (htot : xs.length + bs.length ≤ 70) (ne_s_sb : s ≠ sb) (ne_e_sb : e ≠ sb) (ne_e_d : e ≠ d) (SC : Sta Z Z.heap "java/lang/String" "COMPACT_STRINGS" "Z" (.int cs0)) (hcs : ¬ cs0 = 0) :
    Ct l Z EL0 n0 (⟨"java/lang/StringBuilder", "append", "(Ljava/lang/String;)Ljava/lang/StringBuilder;"⟩ : MethodName) jdk_67_method_7_code 2 (some (.object "java/lang/StringBuilder")) ({ frames := 5, cells := 1, slots := 142, locals := 76 } : Room) #[(.ref sb), (.ref s)] h0 [sb, d] (fun v h sf => ∃ d' kd' cp' ys', v = some (.ref sb) ∧ Keep h0 h [sb, d] ∧ Sbd Z h sb d' kd' cp' (xs ++ bs) ys' ∧ (d' = d ∨ h0.size ≤ d') ∧ sf d') := by
  refine Ct.of (a0 := a0) #[.val (.ref sb), .val (.ref s)] hEW O (plainFor_of_name pl_java_lang_StringBuilder) (fun m => by first | (simp [entryFrame, mkF, argsToLocals, Value.category]; done) | rfl) ?_
  intro p_ e_ s_ m_ below_ meth_ c_ b_ T_ K hSP hsh
  have X_sb := B.1
  have V_d := B.2.2.2.2.1
  refine k_aloadN K d_jdk_67_method_7_code_0 (pc' := 1) rfl rfl rfl ?_
  refine k_aloadN K d_jdk_67_method_7_code_1 (pc' := 2) rfl rfl rfl ?_
  refine k_super K [(.ref s)] [] 0 (w115 hw) (own_same (y' := ({ cls := "java/lang/AbstractStringBuilder", name := "ensureCapacityInternal", desc := "(I)V" } : Jvm.MethodName)) rfl (w138 hw) (w116 hw) (by decide)) (w116 hw) (w117 hw) (by decide) (w94 hw) (w119 hw) (Ins.self X_sb) (by decide) pd__Ljava_lang_String__Ljava_lang_AbstractStringBuilder__9239 (c_app l Z a0 hw hEW n0 sb d kd cp xs ys s e ke z bs cs0 h0 K.old B ga_sb ga_d ne_sb_d hz S_s htot ne_s_sb ne_e_sb ne_e_d SC hcs) d_jdk_67_method_7_code_2 (fun x hx => by
    simp only [List.mem_cons, List.not_mem_nil, or_false] at hx
    rcases hx with rfl | rfl
    · exact ⟨X_sb.lt, hSP _ (by simp)⟩
    · exact ⟨V_d.lt, hSP _ (by simp)⟩) (pc' := 5) rfl rfl rfl rfl (Nat.le_of_eq rfl) (by decide) (by decide) (by decide) (by decide) ?_
  intro b45 T45 h45 L45 v45 K45 tr45 q45
  obtain ⟨d', kd', cp', ys', rfl, KQ, B2, hd', sf_d'⟩ := q45
  show Goes p_.tables e_ below_ _ (T45.setTop (mkF m_ 5 #[.val (.ref sb), .val (.ref s)] [(.ref sb)]))
  refine k_pop K45 d_jdk_67_method_7_code_5 (pc' := 6) rfl rfl ?_
  refine k_aloadN K45 d_jdk_67_method_7_code_6 (pc' := 7) rfl rfl rfl ?_
  exact k_aret K45 d_jdk_67_method_7_code_7 rfl rfl rfl (fun sf ht => ⟨d', kd', cp', ys', rfl, KQ, B2, hd', ht _ B2.2.2.2.2.1.lt sf_d'⟩) (by decide) (by decide)
theorem d_jdk_68_method_64_code_0 : decode jdk_68_method_64_code 0 = .ok (.aload_n 0, 1) := by decide +kernel
theorem d_jdk_68_method_64_code_1 : decode jdk_68_method_64_code 1 = .ok (.getfield 15, 3) := by decide +kernel
theorem d_jdk_68_method_64_code_4 : decode jdk_68_method_64_code 4 = .ok (.areturn, 1) := by decide +kernel
set_option maxRecDepth 65536 in
set_option maxHeartbeats 40000000 in
theorem c_gv (l : Launch) (Z : State) (a0 : Array Value) (hw : Tb a0 Z) (hEW : EW Z a0 EL0) (n0 : Nat) (sb d : Addr) (h0 : Heap) (O : Old Z n0 h0) (F : Fld Z h0 sb "java/lang/AbstractStringBuilder" "value" "[B" (.ref d)) :
    Ct l Z EL0 n0 (⟨"java/lang/AbstractStringBuilder", "getValue", "()[B"⟩ : MethodName) jdk_68_method_64_code 1 (some (.array .byte)) ({ frames := 0, cells := 0, slots := 0, locals := 0 } : Room) #[(.ref sb)] h0 [] (Pu (some (.ref d)) h0) := by
  refine Ct.of (a0 := a0) #[.val (.ref sb)] hEW O (plainFor_of_name pl_java_lang_AbstractStringBuilder) (fun m => by first | (simp [entryFrame, mkF, argsToLocals, Value.category]; done) | rfl) ?_
  intro p_ e_ s_ m_ below_ meth_ c_ b_ T_ K hSP hsh
  refine k_aloadN K d_jdk_68_method_64_code_0 (pc' := 1) rfl rfl rfl ?_
  refine k_getF K (w100 hw) Via.refl F d_jdk_68_method_64_code_1 (pc' := 4) rfl ?_
  intro T46 K46
  exact k_aret K46 d_jdk_68_method_64_code_4 rfl rfl rfl (fun sf ht => ⟨rfl, rfl⟩) (by decide) (by decide)
theorem d_jdk_68_method_6_code_0 : decode jdk_68_method_6_code 0 = .ok (.aload_n 0, 1) := by decide +kernel
theorem d_jdk_68_method_6_code_1 : decode jdk_68_method_6_code 1 = .ok (.getfield 79, 3) := by decide +kernel
theorem d_jdk_68_method_6_code_4 : decode jdk_68_method_6_code 4 = .ok (.ireturn, 1) := by decide +kernel
set_option maxRecDepth 65536 in
set_option maxHeartbeats 40000000 in
theorem c_al (l : Launch) (Z : State) (a0 : Array Value) (hw : Tb a0 Z) (hEW : EW Z a0 EL0) (n0 : Nat) (sb : Addr) (n : Int32) (h0 : Heap) (O : Old Z n0 h0) (F : Fld Z h0 sb "java/lang/AbstractStringBuilder" "count" "I" (.int n)) :
    Ct l Z EL0 n0 (⟨"java/lang/AbstractStringBuilder", "length", "()I"⟩ : MethodName) jdk_68_method_6_code 1 (some .int) ({ frames := 0, cells := 0, slots := 0, locals := 0 } : Room) #[(.ref sb)] h0 [] (Pu (some (.int n)) h0) := by
  refine Ct.of (a0 := a0) #[.val (.ref sb)] hEW O (plainFor_of_name pl_java_lang_AbstractStringBuilder) (fun m => by first | (simp [entryFrame, mkF, argsToLocals, Value.category]; done) | rfl) ?_
  intro p_ e_ s_ m_ below_ meth_ c_ b_ T_ K hSP hsh
  refine k_aloadN K d_jdk_68_method_6_code_0 (pc' := 1) rfl rfl rfl ?_
  refine k_getF K (w133 hw) Via.refl F d_jdk_68_method_6_code_1 (pc' := 4) rfl ?_
  intro T47 K47
  exact k_iret K47 d_jdk_68_method_6_code_4 rfl (fun sf ht => ⟨rfl, rfl⟩) (by decide) (by decide)
theorem d_jdk_67_method_93_code_0 : decode jdk_67_method_93_code 0 = .ok (.aload_n 0, 1) := by decide +kernel
theorem d_jdk_67_method_93_code_1 : decode jdk_67_method_93_code 1 = .ok (.invokespecial 343, 3) := by decide +kernel
theorem w236 {Z : State} {a0 : Array Value} (hw : Tb a0 Z) : (Jvm.Cond.methodLink "java/lang/StringBuilder" (343 : Nat) ({ cls := "java/lang/AbstractStringBuilder", name := "length", desc := "()I" } : Jvm.MethodName)).before a0 Z = true := hw _ (List.mem_of_getElem? (i := 236) rfl)
theorem w237 {Z : State} {a0 : Array Value} (hw : Tb a0 Z) : (Jvm.Cond.code ({ cls := "java/lang/AbstractStringBuilder", name := "length", desc := "()I" } : Jvm.MethodName) jdk_68_method_6_code (1 : Nat) (Option.some Jvm.ClassFile.FieldType.int)).before a0 Z = true := hw _ (List.mem_of_getElem? (i := 237) rfl)
theorem w232 {Z : State} {a0 : Array Value} (hw : Tb a0 Z) : (Jvm.Cond.instanceMethod ({ cls := "java/lang/AbstractStringBuilder", name := "length", desc := "()I" } : Jvm.MethodName)).before a0 Z = true := hw _ (List.mem_of_getElem? (i := 232) rfl)
theorem d_jdk_67_method_93_code_4 : decode jdk_67_method_93_code 4 = .ok (.ireturn, 1) := by decide +kernel
set_option maxRecDepth 65536 in
set_option maxHeartbeats 40000000 in
theorem c_sl (l : Launch) (Z : State) (a0 : Array Value) (hw : Tb a0 Z) (hEW : EW Z a0 EL0) (n0 : Nat) (sb : Addr) (n : Int32) (h0 : Heap) (O : Old Z n0 h0) (X_sb : Exa Z h0 sb "java/lang/StringBuilder") (F : Fld Z h0 sb "java/lang/AbstractStringBuilder" "count" "I" (.int n)) :
    Ct l Z EL0 n0 (⟨"java/lang/StringBuilder", "length", "()I"⟩ : MethodName) jdk_67_method_93_code 1 (some .int) ({ frames := 1, cells := 0, slots := 0, locals := 12 } : Room) #[(.ref sb)] h0 [] (Pu (some (.int n)) h0) := by
  refine Ct.of (a0 := a0) #[.val (.ref sb)] hEW O (plainFor_of_name pl_java_lang_StringBuilder) (fun m => by first | (simp [entryFrame, mkF, argsToLocals, Value.category]; done) | rfl) ?_
  intro p_ e_ s_ m_ below_ meth_ c_ b_ T_ K hSP hsh
  refine k_aloadN K d_jdk_67_method_93_code_0 (pc' := 1) rfl rfl rfl ?_
  refine k_superP K [] [] 0 (w236 hw) (own_same (y' := ({ cls := "java/lang/AbstractStringBuilder", name := "ensureCapacityInternal", desc := "(I)V" } : Jvm.MethodName)) rfl (w138 hw) (w232 hw) (by decide)) (w232 hw) (w117 hw) (by decide) (w94 hw) (w237 hw) (Ins.self X_sb) (by decide) pd___I_341 (c_al l Z a0 hw hEW n0 sb n h0 K.old F) d_jdk_67_method_93_code_1 nofun (pc' := 4) rfl rfl rfl rfl (Nat.le_of_eq rfl) (by decide) (by decide) (by decide) (by decide) ?_
  intro b48 T48 L48 K48 tr48
  show Goes p_.tables e_ below_ _ (T48.setTop (mkF m_ 4 #[.val (.ref sb)] [(.int n)]))
  exact k_iret K48 d_jdk_67_method_93_code_4 rfl (fun sf ht => ⟨rfl, rfl⟩) (by decide) (by decide)
theorem d_jdk_68_method_68_code_0 : decode jdk_68_method_68_code 0 = .ok (.getstatic 18, 3) := by decide +kernel
theorem d_jdk_68_method_68_code_3 : decode jdk_68_method_68_code 3 = .ok (.ifCond .eq 14, 3) := by decide +kernel
theorem d_jdk_68_method_68_code_6 : decode jdk_68_method_68_code 6 = .ok (.aload_n 0, 1) := by decide +kernel
theorem d_jdk_68_method_68_code_7 : decode jdk_68_method_68_code 7 = .ok (.getfield 22, 3) := by decide +kernel
theorem d_jdk_68_method_68_code_10 : decode jdk_68_method_68_code 10 = .ok (.ifCond .ne 7, 3) := by decide +kernel
theorem d_jdk_68_method_68_code_13 : decode jdk_68_method_68_code 13 = .ok (.iconst 1, 1) := by decide +kernel
theorem d_jdk_68_method_68_code_14 : decode jdk_68_method_68_code 14 = .ok (.goto 4, 3) := by decide +kernel
theorem d_jdk_68_method_68_code_18 : decode jdk_68_method_68_code 18 = .ok (.ireturn, 1) := by decide +kernel
set_option maxRecDepth 65536 in
set_option maxHeartbeats 40000000 in
theorem c_ail (l : Launch) (Z : State) (a0 : Array Value) (hw : Tb a0 Z) (hEW : EW Z a0 EL0) (n0 : Nat) (sb : Addr) (cs0 : Int32) (h0 : Heap) (O : Old Z n0 h0) (F : Fld Z h0 sb "java/lang/AbstractStringBuilder" "coder" "B" (.int 0)) (SC : Sta Z Z.heap "java/lang/String" "COMPACT_STRINGS" "Z" (.int cs0)) (hcs : ¬ cs0 = 0) :
    Ct l Z EL0 n0 (⟨"java/lang/AbstractStringBuilder", "isLatin1", "()Z"⟩ : MethodName) jdk_68_method_68_code 1 (some .boolean) ({ frames := 0, cells := 0, slots := 0, locals := 0 } : Room) #[(.ref sb)] h0 [] (Pu (some (.int 1)) h0) := by
  refine Ct.of (a0 := a0) #[.val (.ref sb)] hEW O (plainFor_of_name pl_java_lang_AbstractStringBuilder) (fun m => by first | (simp [entryFrame, mkF, argsToLocals, Value.category]; done) | rfl) ?_
  intro p_ e_ s_ m_ below_ meth_ c_ b_ T_ K hSP hsh
  refine k_getS K (w97 hw) Via.refl SC d_jdk_68_method_68_code_0 (pc' := 3) rfl ?_
  intro T49 K49
  refine k_if_eq K49 d_jdk_68_method_68_code_3 (by decide) (pc' := 17) (pc2 := 6) (by decide) rfl (fun q => absurd q hcs) (fun hc3 => ?_)
  refine k_aloadN K49 d_jdk_68_method_68_code_6 (pc' := 7) rfl rfl rfl ?_
  refine k_getF K49 (w102 hw) Via.refl F d_jdk_68_method_68_code_7 (pc' := 10) rfl ?_
  intro T50 K50
  refine k_if_ne K50 d_jdk_68_method_68_code_10 (by decide) (pc' := 17) (pc2 := 13) (by decide) rfl (fun q => absurd (by decide) q) (fun hc10 => ?_)
  refine k_iconst K50 (1 : Int32) d_jdk_68_method_68_code_13 (pc' := 14) rfl rfl ?_
  refine k_goto K50 d_jdk_68_method_68_code_14 (by decide) (pc' := 18) (by decide) ?_
  exact k_nret K50 d_jdk_68_method_68_code_18 rfl (by simp) rfl (fun sf ht => ⟨rfl, rfl⟩) (by decide) (by decide)
theorem d_jdk_65_method_131_code_0 : decode jdk_65_method_131_code 0 = .ok (.iload_n 1, 1) := by decide +kernel
theorem d_jdk_65_method_131_code_1 : decode jdk_65_method_131_code 1 = .ok (.iload_n 0, 1) := by decide +kernel
theorem d_jdk_65_method_131_code_2 : decode jdk_65_method_131_code 2 = .ok (.if_icmp .ge 35, 3) := by decide +kernel
theorem d_jdk_65_method_131_code_37 : decode jdk_65_method_131_code 37 = .ok (.return_, 1) := by decide +kernel
set_option maxRecDepth 65536 in
set_option maxHeartbeats 40000000 in
theorem c_ckl (l : Launch) (Z : State) (a0 : Array Value) (hw : Tb a0 Z) (hEW : EW Z a0 EL0) (n0 : Nat) (i j : Int32) (h0 : Heap) (O : Old Z n0 h0) (h : ¬ j < i) :
    Ct l Z EL0 n0 (⟨"java/util/Arrays", "checkLength", "(II)V"⟩ : MethodName) jdk_65_method_131_code 2 none ({ frames := 0, cells := 0, slots := 0, locals := 0 } : Room) #[(.int i), (.int j)] h0 [] (Pu none h0) := by
  refine Ct.of (a0 := a0) #[.val (.int i), .val (.int j)] hEW O (plainFor_of_name pl_java_util_Arrays) (fun m => by first | (simp [entryFrame, mkF, argsToLocals, Value.category]; done) | rfl) ?_
  intro p_ e_ s_ m_ below_ meth_ c_ b_ T_ K hSP hsh
  refine k_iloadN K d_jdk_65_method_131_code_0 (pc' := 1) rfl rfl ?_
  refine k_iloadN K d_jdk_65_method_131_code_1 (pc' := 2) rfl rfl ?_
  refine k_icmp_ge K d_jdk_65_method_131_code_2 (by decide) (pc' := 37) (pc2 := 5) (by decide) rfl (fun hc2 => ?_) (fun q => absurd q h)
  exact k_return K d_jdk_65_method_131_code_37 rfl (fun sf ht => ⟨rfl, rfl⟩) (by decide) (by decide)
theorem d_jdk_65_method_133_code_0 : decode jdk_65_method_133_code 0 = .ok (.iload_n 1, 1) := by decide +kernel
theorem d_jdk_65_method_133_code_1 : decode jdk_65_method_133_code 1 = .ok (.iload_n 2, 1) := by decide +kernel
theorem d_jdk_65_method_133_code_2 : decode jdk_65_method_133_code 2 = .ok (.invokestatic 343, 3) := by decide +kernel
theorem w245 {Z : State} {a0 : Array Value} (hw : Tb a0 Z) : (Jvm.Cond.methodLink "java/util/Arrays" (343 : Nat) ({ cls := "java/util/Arrays", name := "checkLength", desc := "(II)V" } : Jvm.MethodName)).before a0 Z = true := hw _ (List.mem_of_getElem? (i := 245) rfl)
theorem w247 {Z : State} {a0 : Array Value} (hw : Tb a0 Z) : (Jvm.Cond.code ({ cls := "java/util/Arrays", name := "checkLength", desc := "(II)V" } : Jvm.MethodName) jdk_65_method_131_code (2 : Nat) (Option.none : Option Jvm.ClassFile.FieldType)).before a0 Z = true := hw _ (List.mem_of_getElem? (i := 247) rfl)
theorem w246 {Z : State} {a0 : Array Value} (hw : Tb a0 Z) : (Jvm.Cond.static ({ cls := "java/util/Arrays", name := "checkLength", desc := "(II)V" } : Jvm.MethodName)).before a0 Z = true := hw _ (List.mem_of_getElem? (i := 246) rfl)
theorem pd__II_V_999 : parseMethodDescriptor "(II)V" = some ⟨[.int, .int], none⟩ := by decide +kernel
theorem d_jdk_65_method_133_code_5 : decode jdk_65_method_133_code 5 = .ok (.iload_n 2, 1) := by decide +kernel
theorem d_jdk_65_method_133_code_6 : decode jdk_65_method_133_code 6 = .ok (.iload_n 1, 1) := by decide +kernel
theorem d_jdk_65_method_133_code_7 : decode jdk_65_method_133_code 7 = .ok (.isub, 1) := by decide +kernel
theorem d_jdk_65_method_133_code_8 : decode jdk_65_method_133_code 8 = .ok (.istore_n 3, 1) := by decide +kernel
theorem d_jdk_65_method_133_code_9 : decode jdk_65_method_133_code 9 = .ok (.iload_n 3, 1) := by decide +kernel
theorem d_jdk_65_method_133_code_10 : decode jdk_65_method_133_code 10 = .ok (.newarray .byte, 2) := by decide +kernel
theorem d_jdk_65_method_133_code_12 : decode jdk_65_method_133_code 12 = .ok (.astore 4, 2) := by decide +kernel
theorem d_jdk_65_method_133_code_14 : decode jdk_65_method_133_code 14 = .ok (.aload_n 0, 1) := by decide +kernel
theorem d_jdk_65_method_133_code_15 : decode jdk_65_method_133_code 15 = .ok (.iload_n 1, 1) := by decide +kernel
theorem d_jdk_65_method_133_code_16 : decode jdk_65_method_133_code 16 = .ok (.aload 4, 2) := by decide +kernel
theorem d_jdk_65_method_133_code_18 : decode jdk_65_method_133_code 18 = .ok (.iconst 0, 1) := by decide +kernel
theorem d_jdk_65_method_133_code_19 : decode jdk_65_method_133_code 19 = .ok (.aload_n 0, 1) := by decide +kernel
theorem d_jdk_65_method_133_code_20 : decode jdk_65_method_133_code 20 = .ok (.arraylength, 1) := by decide +kernel
theorem d_jdk_65_method_133_code_21 : decode jdk_65_method_133_code 21 = .ok (.iload_n 1, 1) := by decide +kernel
theorem d_jdk_65_method_133_code_22 : decode jdk_65_method_133_code 22 = .ok (.isub, 1) := by decide +kernel
theorem d_jdk_65_method_133_code_23 : decode jdk_65_method_133_code 23 = .ok (.iload_n 3, 1) := by decide +kernel
theorem d_jdk_65_method_133_code_24 : decode jdk_65_method_133_code 24 = .ok (.invokestatic 304, 3) := by decide +kernel
theorem d_jdk_65_method_133_code_27 : decode jdk_65_method_133_code 27 = .ok (.invokestatic 150, 3) := by decide +kernel
theorem d_jdk_65_method_133_code_30 : decode jdk_65_method_133_code 30 = .ok (.aload 4, 2) := by decide +kernel
theorem d_jdk_65_method_133_code_32 : decode jdk_65_method_133_code 32 = .ok (.areturn, 1) := by decide +kernel
set_option maxRecDepth 65536 in
set_option maxHeartbeats 40000000 in
theorem c_crb (l : Launch) (Z : State) (a0 : Array Value) (hw : Tb a0 Z) (hEW : EW Z a0 EL0) (n0 : Nat) (d : Addr) (kd : ClassId) (cp : Int32) (xs : List Int32) (ys : List Value) (h0 : Heap) (O : Old Z n0 h0) (hcp : cp.toInt = (xs.length + ys.length : Nat)) (hcb : xs.length + ys.length ≤ 142) (hx : xs.length ≤ 70) (V_d : Arv Z h0 d kd .byte cp (xs.map Value.int ++ ys) (.int 0)) (X_d : Exa Z h0 d "[B") :
    Ct l Z EL0 n0 (⟨"java/util/Arrays", "copyOfRangeByte", "([BII)[B"⟩ : MethodName) jdk_65_method_133_code 5 (some (.array .byte)) ({ frames := 1, cells := 1, slots := 70, locals := 18 } : Room) #[(.ref d), (.int (0 : Int32)), (.int (Int32.ofNat xs.length))] h0 [] (fun v h sf => ∃ t kt, v = some (.ref t) ∧ h0.size ≤ t ∧ Keep h0 h [] ∧ Arv Z h t kt .byte (Int32.ofNat xs.length) (xs.map Value.int) (.int 0) ∧ sf t) := by
  refine Ct.of (a0 := a0) #[.val (.ref d), .val (.int (0 : Int32)), .val (.int (Int32.ofNat xs.length)), .unset, .unset] hEW O (plainFor_of_name pl_java_util_Arrays) (fun m => by first | (simp [entryFrame, mkF, argsToLocals, Value.category]; done) | rfl) ?_
  intro p_ e_ s_ m_ below_ meth_ c_ b_ T_ K hSP hsh
  have KP := Keep.refl h0 []
  have hn := own_of (n := xs.length) (by omega)
  have cn := own_clamp hn
  have cc := own_clamp hcp
  have hn0 : ¬ (Int32.ofNat xs.length) < 0 := by rw [own_i32, hn, own_0]; omega
  refine k_iloadN K d_jdk_65_method_133_code_0 (pc' := 1) rfl rfl ?_
  refine k_iloadN K d_jdk_65_method_133_code_1 (pc' := 2) rfl rfl ?_
  refine k_staticP K [(.int (0 : Int32)), (.int (Int32.ofNat xs.length))] [] 0 (w245 hw) (w246 hw) (w204 hw) (w247 hw) (by decide) pd__II_V_999 (c_ckl l Z a0 hw hEW n0 0 (Int32.ofNat xs.length) h0 K.old hn0) d_jdk_65_method_133_code_2 nofun (pc' := 5) rfl rfl rfl rfl (Nat.le_of_eq rfl) (by decide) (by decide) (by decide) (by decide) ?_
  intro b51 T51 L51 K51 tr51
  show Goes p_.tables e_ below_ _ (T51.setTop (mkF m_ 5 #[.val (.ref d), .val (.int (0 : Int32)), .val (.int (Int32.ofNat xs.length)), .unset, .unset] []))
  refine k_iloadN K51 d_jdk_65_method_133_code_5 (pc' := 6) rfl rfl ?_
  refine k_iloadN K51 d_jdk_65_method_133_code_6 (pc' := 7) rfl rfl ?_
  refine k_isub K51 d_jdk_65_method_133_code_7 (pc' := 8) rfl ?_
  refine k_istoreN K51 d_jdk_65_method_133_code_8 (pc' := 9) (L' := #[.val (.ref d), .val (.int (0 : Int32)), .val (.int (Int32.ofNat xs.length)), .val (.int ((Int32.ofNat xs.length) - (0 : Int32))), .unset]) rfl rfl ?_
  refine k_iloadN K51 d_jdk_65_method_133_code_9 (pc' := 10) rfl rfl ?_
  rw [show (Int32.ofNat xs.length) - 0 = (Int32.ofNat xs.length) by simp]
  refine k_newarray K51 (aty := .byte) (z := (Int32.ofNat xs.length)) (w99 hw) hn0 (cap := 70) (by rw [cn]; exact hx) (by decide) d_jdk_65_method_133_code_10 (pc' := 12) rfl (by decide) (by decide) ?_
  intro T52 h52 a52 ka52 g52 K52 E52 tr52 sf_a52 V_a52
  have ga_a52 : n0 ≤ a52 := own_old K51.old g52
  have sz_a52 : h0.size ≤ a52 := g52 ▸ KP.1
  have ne_d_a52 : d ≠ a52 := own_ne V_d.lt g52
  replace V_d := V_d.ext E52
  replace KP := KP.ext E52
  replace V_a52 : Arv Z h52 a52 ka52 .byte (Int32.ofNat xs.length) (List.replicate xs.length (.int (0 : Int32))) (.int (0 : Int32)) := V_a52.pad (pad_rep [] (.int (0 : Int32)) xs.length)
  refine k_astore K52 d_jdk_65_method_133_code_12 (pc' := 14) (L' := #[.val (.ref d), .val (.int (0 : Int32)), .val (.int (Int32.ofNat xs.length)), .val (.int (Int32.ofNat xs.length)), .val (.ref a52)]) rfl rfl rfl ?_
  refine k_aloadN K52 d_jdk_65_method_133_code_14 (pc' := 15) rfl rfl rfl ?_
  refine k_iloadN K52 d_jdk_65_method_133_code_15 (pc' := 16) rfl rfl ?_
  refine k_aload K52 d_jdk_65_method_133_code_16 (pc' := 18) rfl rfl rfl ?_
  refine k_iconst K52 (0 : Int32) d_jdk_65_method_133_code_18 (pc' := 19) rfl rfl ?_
  refine k_aloadN K52 d_jdk_65_method_133_code_19 (pc' := 20) rfl rfl rfl ?_
  refine k_len K52 V_d d_jdk_65_method_133_code_20 (pc' := 21) rfl ?_
  refine k_iloadN K52 d_jdk_65_method_133_code_21 (pc' := 22) rfl rfl ?_
  refine k_isub K52 d_jdk_65_method_133_code_22 (pc' := 23) rfl ?_
  rw [show cp - 0 = cp by simp]
  refine k_iloadN K52 d_jdk_65_method_133_code_23 (pc' := 24) rfl rfl ?_
  refine k_staticP K52 [(.int cp), (.int (Int32.ofNat xs.length))] [(.int (0 : Int32)), (.ref a52), (.int (0 : Int32)), (.ref d)] 4 (w206 hw) (w207 hw) (w198 hw) (w208 hw) (by decide) pd__II_I_934 (c_mmin l Z a0 hw hEW n0 cp (Int32.ofNat xs.length) h52 K52.old ) d_jdk_65_method_133_code_24 nofun (pc' := 27) rfl rfl rfl rfl (Nat.le_of_eq rfl) (by decide) (by decide) (by decide) (by decide) ?_
  intro b53 T53 L53 K53 tr53
  show Goes p_.tables e_ below_ _ (T53.setTop (mkF m_ 27 #[.val (.ref d), .val (.int (0 : Int32)), .val (.int (Int32.ofNat xs.length)), .val (.int (Int32.ofNat xs.length)), .val (.ref a52)] [(.int (if (Int32.ofNat xs.length) < cp then (Int32.ofNat xs.length) else cp)), (.int (0 : Int32)), (.ref a52), (.int (0 : Int32)), (.ref d)]))
  replace sf_a52 := tr53 a52 V_a52.lt sf_a52
  have hmn : (if (Int32.ofNat xs.length) < cp then (Int32.ofNat xs.length) else cp) = (Int32.ofNat xs.length) := by
    split
    · rfl
    · rename_i q
      exact own_i32e (by rw [own_i32, hn, hcp] at q; rw [hn, hcp]; omega)
  rw [hmn]
  refine k_arraycopy K53 (sp := (0 : Int32)) (dp := (0 : Int32)) (nn := (Int32.ofNat xs.length)) (us := (xs.map Value.int)) (w209 hw) (w159 hw) (w157 hw) (w158 hw) V_d V_a52 rfl (by decide) (by decide) hn0 (by rw [cn, cc]; exact Nat.le_trans (Nat.le_of_eq (Nat.zero_add _)) (Nat.le_add_right _ _)) (by rw [cn]; exact Nat.le_of_eq (Nat.zero_add _)) (by rw [cn, own_range0 _ xs.length (by rw [List.length_append, List.length_map]; omega), List.take_append_of_le_length (by rw [List.length_map]; exact Nat.le_refl _), List.take_of_length_le (by rw [List.length_map]; exact Nat.le_refl _)]) (by rw [cn, List.length_replicate]; exact Nat.le_of_eq (Nat.zero_add _)) ga_a52 sf_a52 d_jdk_65_method_133_code_27 (pc' := 30) rfl rfl (by decide) 0 (Nat.le_of_eq rfl) (by decide) ?_
  intro T54 h54 L54 K54 KQ54 tr54 V54
  replace sf_a52 := tr54 a52 V_a52.lt sf_a52
  replace V_d := V_d.keep KQ54 (ninS ne_d_a52 nin0)
  replace KP := KP.trans KQ54 (allS (Or.inr sz_a52) all0)
  replace V_a52 := V54
  show Goes p_.tables e_ below_ _ (T54.setTop (mkF m_ 30 #[.val (.ref d), .val (.int (0 : Int32)), .val (.int (Int32.ofNat xs.length)), .val (.int (Int32.ofNat xs.length)), .val (.ref a52)] []))
  replace V_a52 : Arv Z h54 a52 ka52 .byte (Int32.ofNat xs.length) (xs.map Value.int) (.int 0) := by
    have e1 : List.take (0 : Int32).toNatClampNeg (List.replicate xs.length (Value.int 0)) ++ xs.map Value.int ++ List.drop ((0 : Int32).toNatClampNeg + (Int32.ofNat xs.length).toNatClampNeg) (List.replicate xs.length (Value.int 0)) = xs.map Value.int := by
      rw [cn, show (0 : Int32).toNatClampNeg = 0 by decide]; simp
    rw [e1] at V_a52; exact V_a52
  refine k_aload K54 d_jdk_65_method_133_code_30 (pc' := 32) rfl rfl rfl ?_
  exact k_aret K54 d_jdk_65_method_133_code_32 rfl rfl rfl (fun sf ht => ⟨a52, ka52, rfl, sz_a52, KP, V_a52, ht _ V_a52.lt sf_a52⟩) (by decide) (by decide)
theorem d_jdk_65_method_132_code_0 : decode jdk_65_method_132_code 0 = .ok (.iload_n 1, 1) := by decide +kernel
theorem d_jdk_65_method_132_code_1 : decode jdk_65_method_132_code 1 = .ok (.ifCond .ne 9, 3) := by decide +kernel
theorem d_jdk_65_method_132_code_4 : decode jdk_65_method_132_code 4 = .ok (.iload_n 2, 1) := by decide +kernel
theorem d_jdk_65_method_132_code_5 : decode jdk_65_method_132_code 5 = .ok (.aload_n 0, 1) := by decide +kernel
theorem d_jdk_65_method_132_code_6 : decode jdk_65_method_132_code 6 = .ok (.arraylength, 1) := by decide +kernel
theorem d_jdk_65_method_132_code_7 : decode jdk_65_method_132_code 7 = .ok (.if_icmp .eq 10, 3) := by decide +kernel
theorem w326 {Z : State} {a0 : Array Value} (hw : Tb a0 Z) : (Jvm.Cond.sameMethod "[B" "java/lang/Object" "clone" "()Ljava/lang/Object;").before a0 Z = true := hw _ (List.mem_of_getElem? (i := 326) rfl)
theorem d_jdk_65_method_132_code_17 : decode jdk_65_method_132_code 17 = .ok (.aload_n 0, 1) := by decide +kernel
theorem d_jdk_65_method_132_code_18 : decode jdk_65_method_132_code 18 = .ok (.invokevirtual 310, 3) := by decide +kernel
theorem w325 {Z : State} {a0 : Array Value} (hw : Tb a0 Z) : (Jvm.Cond.methodLink "java/util/Arrays" (310 : Nat) ({ cls := "[B", name := "clone", desc := "()Ljava/lang/Object;" } : Jvm.MethodName)).before a0 Z = true := hw _ (List.mem_of_getElem? (i := 325) rfl)
theorem w330 {Z : State} {a0 : Array Value} (hw : Tb a0 Z) : (Jvm.Cond.native ({ cls := "java/lang/Object", name := "clone", desc := "()Ljava/lang/Object;" } : Jvm.MethodName)).before a0 Z = true := hw _ (List.mem_of_getElem? (i := 330) rfl)
theorem w328 {Z : State} {a0 : Array Value} (hw : Tb a0 Z) : (Jvm.Cond.instanceMethod ({ cls := "java/lang/Object", name := "clone", desc := "()Ljava/lang/Object;" } : Jvm.MethodName)).before a0 Z = true := hw _ (List.mem_of_getElem? (i := 328) rfl)
theorem w329 {Z : State} {a0 : Array Value} (hw : Tb a0 Z) : (Jvm.Cond.selects "[B" ({ cls := "[B", name := "clone", desc := "()Ljava/lang/Object;" } : Jvm.MethodName) ({ cls := "java/lang/Object", name := "clone", desc := "()Ljava/lang/Object;" } : Jvm.MethodName)).before a0 Z = true := hw _ (List.mem_of_getElem? (i := 329) rfl)
theorem w331 {Z : State} {a0 : Array Value} (hw : Tb a0 Z) : (Jvm.Cond.castable "[B" "java/lang/Cloneable").before a0 Z = true := hw _ (List.mem_of_getElem? (i := 331) rfl)
theorem d_jdk_65_method_132_code_21 : decode jdk_65_method_132_code 21 = .ok (.checkcast 311, 3) := by decide +kernel
theorem w332 {Z : State} {a0 : Array Value} (hw : Tb a0 Z) : (Jvm.Cond.classLink "java/util/Arrays" (311 : Nat) "[B").before a0 Z = true := hw _ (List.mem_of_getElem? (i := 332) rfl)
theorem d_jdk_65_method_132_code_24 : decode jdk_65_method_132_code 24 = .ok (.areturn, 1) := by decide +kernel
theorem d_jdk_65_method_132_code_10 : decode jdk_65_method_132_code 10 = .ok (.aload_n 0, 1) := by decide +kernel
theorem d_jdk_65_method_132_code_11 : decode jdk_65_method_132_code 11 = .ok (.iload_n 1, 1) := by decide +kernel
theorem d_jdk_65_method_132_code_12 : decode jdk_65_method_132_code 12 = .ok (.iload_n 2, 1) := by decide +kernel
theorem d_jdk_65_method_132_code_13 : decode jdk_65_method_132_code 13 = .ok (.invokestatic 339, 3) := by decide +kernel
theorem w242 {Z : State} {a0 : Array Value} (hw : Tb a0 Z) : (Jvm.Cond.methodLink "java/util/Arrays" (339 : Nat) ({ cls := "java/util/Arrays", name := "copyOfRangeByte", desc := "([BII)[B" } : Jvm.MethodName)).before a0 Z = true := hw _ (List.mem_of_getElem? (i := 242) rfl)
theorem w244 {Z : State} {a0 : Array Value} (hw : Tb a0 Z) : (Jvm.Cond.code ({ cls := "java/util/Arrays", name := "copyOfRangeByte", desc := "([BII)[B" } : Jvm.MethodName) jdk_65_method_133_code (5 : Nat) (Option.some (Jvm.ClassFile.FieldType.array Jvm.ClassFile.FieldType.byte))).before a0 Z = true := hw _ (List.mem_of_getElem? (i := 244) rfl)
theorem w243 {Z : State} {a0 : Array Value} (hw : Tb a0 Z) : (Jvm.Cond.static ({ cls := "java/util/Arrays", name := "copyOfRangeByte", desc := "([BII)[B" } : Jvm.MethodName)).before a0 Z = true := hw _ (List.mem_of_getElem? (i := 243) rfl)
theorem pd___BII__B_2488 : parseMethodDescriptor "([BII)[B" = some ⟨[(.array .byte), .int, .int], some (.array .byte)⟩ := by decide +kernel
theorem d_jdk_65_method_132_code_16 : decode jdk_65_method_132_code 16 = .ok (.areturn, 1) := by decide +kernel
set_option maxRecDepth 65536 in
set_option maxHeartbeats 40000000 in
theorem c_cr (l : Launch) (Z : State) (a0 : Array Value) (hw : Tb a0 Z) (hEW : EW Z a0 EL0) (n0 : Nat) (d : Addr) (kd : ClassId) (cp : Int32) (xs : List Int32) (ys : List Value) (h0 : Heap) (O : Old Z n0 h0) (hcp : cp.toInt = (xs.length + ys.length : Nat)) (hcb : xs.length + ys.length ≤ 142) (hx : xs.length ≤ 70) (V_d : Arv Z h0 d kd .byte cp (xs.map Value.int ++ ys) (.int 0)) (X_d : Exa Z h0 d "[B") :
    Ct l Z EL0 n0 (⟨"java/util/Arrays", "copyOfRange", "([BII)[B"⟩ : MethodName) jdk_65_method_132_code 3 (some (.array .byte)) ({ frames := 2, cells := 1, slots := 142, locals := 34 } : Room) #[(.ref d), (.int (0 : Int32)), (.int (Int32.ofNat xs.length))] h0 [] (fun v h sf => ∃ t kt, v = some (.ref t) ∧ h0.size ≤ t ∧ Keep h0 h [] ∧ Arv Z h t kt .byte (Int32.ofNat xs.length) (xs.map Value.int) (.int 0) ∧ sf t) := by
  refine Ct.of (a0 := a0) #[.val (.ref d), .val (.int (0 : Int32)), .val (.int (Int32.ofNat xs.length))] hEW O (plainFor_of_name pl_java_util_Arrays) (fun m => by first | (simp [entryFrame, mkF, argsToLocals, Value.category]; done) | rfl) ?_
  intro p_ e_ s_ m_ below_ meth_ c_ b_ T_ K hSP hsh
  have KP := Keep.refl h0 []
  have hn := own_of (n := xs.length) (by omega)
  refine k_iloadN K d_jdk_65_method_132_code_0 (pc' := 1) rfl rfl ?_
  refine k_if_ne K d_jdk_65_method_132_code_1 (by decide) (pc' := 10) (pc2 := 4) (by decide) rfl (fun q => absurd (by decide) q) (fun hc1 => ?_)
  refine k_iloadN K d_jdk_65_method_132_code_4 (pc' := 5) rfl rfl ?_
  refine k_aloadN K d_jdk_65_method_132_code_5 (pc' := 6) rfl rfl rfl ?_
  refine k_len K V_d d_jdk_65_method_132_code_6 (pc' := 7) rfl ?_
  refine k_icmp_eq K d_jdk_65_method_132_code_7 (by decide) (pc' := 17) (pc2 := 10) (by decide) rfl (fun hc7 => ?_) (fun hc7 => ?_)
  · have hy : ys = [] := List.eq_nil_of_length_eq_zero (by have q := congrArg Int32.toInt hc7; rw [hn, hcp] at q; omega)
    subst hy
    rw [List.append_nil] at V_d
    refine k_aloadN K d_jdk_65_method_132_code_17 (pc' := 18) rfl rfl rfl ?_
    refine k_cloneH K (w325 hw) (w326 hw) (w330 hw) (w328 hw) (w329 hw) (w331 hw) V_d X_d d_jdk_65_method_132_code_18 (pc' := 21) rfl rfl (by decide) 0 (Nat.le_of_eq rfl) (by decide) (cap := 142) (by rw [own_clamp hcp]; exact hcb) (by decide) (by decide) ?_
    intro T55 h55 a55 g55 K55 E55 tr55 sf_a55 V_a55 X_a55
    have ga_a55 : n0 ≤ a55 := own_old K.old g55
    have sz_a55 : h0.size ≤ a55 := g55 ▸ KP.1
    have ne_d_a55 : d ≠ a55 := own_ne V_d.lt g55
    replace V_d := V_d.ext E55
    replace X_d := X_d.ext E55
    replace KP := KP.ext E55
    refine k_castY K55 (w332 hw) (Ins.self X_a55) d_jdk_65_method_132_code_21 (pc' := 24) rfl ?_
    intro T56 K56
    exact k_aret K56 d_jdk_65_method_132_code_24 rfl rfl rfl (fun sf ht => ⟨a55, kd, rfl, sz_a55, KP, by rw [hc7]; exact V_a55, ht _ V_a55.lt sf_a55⟩) (by decide) (by decide)
  · refine k_aloadN K d_jdk_65_method_132_code_10 (pc' := 11) rfl rfl rfl ?_
    refine k_iloadN K d_jdk_65_method_132_code_11 (pc' := 12) rfl rfl ?_
    refine k_iloadN K d_jdk_65_method_132_code_12 (pc' := 13) rfl rfl ?_
    refine k_static K [(.ref d), (.int (0 : Int32)), (.int (Int32.ofNat xs.length))] [] 0 (w242 hw) (w243 hw) (w204 hw) (w244 hw) (by decide) pd___BII__B_2488 (c_crb l Z a0 hw hEW n0 d kd cp xs ys h0 K.old hcp hcb hx V_d X_d) d_jdk_65_method_132_code_13 nofun (pc' := 16) rfl rfl rfl rfl (Nat.le_of_eq rfl) (by decide) (by decide) (by decide) (by decide) ?_
    intro b57 T57 h57 L57 v57 K57 tr57 q57
    obtain ⟨t, kt, rfl, r1, r2, r3, r4⟩ := q57
    show Goes p_.tables e_ below_ _ (T57.setTop (mkF m_ 16 #[.val (.ref d), .val (.int (0 : Int32)), .val (.int (Int32.ofNat xs.length))] [(.ref t)]))
    exact k_aret K57 d_jdk_65_method_132_code_16 rfl rfl rfl (fun sf ht => ⟨t, kt, rfl, r1, r2, r3, ht _ r3.lt r4⟩) (by decide) (by decide)
theorem d_jdk_42_method_150_code_0 : decode jdk_42_method_150_code 0 = .ok (.aload_n 0, 1) := by decide +kernel
theorem d_jdk_42_method_150_code_1 : decode jdk_42_method_150_code 1 = .ok (.invokespecial 1, 3) := by decide +kernel
theorem w224 {Z : State} {a0 : Array Value} (hw : Tb a0 Z) : (Jvm.Cond.methodLink "java/lang/String" (1 : Nat) ({ cls := "java/lang/Object", name := "<init>", desc := "()V" } : Jvm.MethodName)).before a0 Z = true := hw _ (List.mem_of_getElem? (i := 224) rfl)
theorem d_jdk_42_method_150_code_4 : decode jdk_42_method_150_code 4 = .ok (.aload_n 1, 1) := by decide +kernel
theorem d_jdk_42_method_150_code_5 : decode jdk_42_method_150_code 5 = .ok (.invokevirtual 552, 3) := by decide +kernel
theorem w225 {Z : State} {a0 : Array Value} (hw : Tb a0 Z) : (Jvm.Cond.methodLink "java/lang/String" (552 : Nat) ({ cls := "java/lang/AbstractStringBuilder", name := "getValue", desc := "()[B" } : Jvm.MethodName)).before a0 Z = true := hw _ (List.mem_of_getElem? (i := 225) rfl)
theorem w229 {Z : State} {a0 : Array Value} (hw : Tb a0 Z) : (Jvm.Cond.code ({ cls := "java/lang/AbstractStringBuilder", name := "getValue", desc := "()[B" } : Jvm.MethodName) jdk_68_method_64_code (1 : Nat) (Option.some (Jvm.ClassFile.FieldType.array Jvm.ClassFile.FieldType.byte))).before a0 Z = true := hw _ (List.mem_of_getElem? (i := 229) rfl)
theorem w228 {Z : State} {a0 : Array Value} (hw : Tb a0 Z) : (Jvm.Cond.selects "java/lang/StringBuilder" ({ cls := "java/lang/AbstractStringBuilder", name := "getValue", desc := "()[B" } : Jvm.MethodName) ({ cls := "java/lang/AbstractStringBuilder", name := "getValue", desc := "()[B" } : Jvm.MethodName)).before a0 Z = true := hw _ (List.mem_of_getElem? (i := 228) rfl)
theorem w226 {Z : State} {a0 : Array Value} (hw : Tb a0 Z) : (Jvm.Cond.declares ({ cls := "java/lang/AbstractStringBuilder", name := "getValue", desc := "()[B" } : Jvm.MethodName)).before a0 Z = true := hw _ (List.mem_of_getElem? (i := 226) rfl)
theorem w227 {Z : State} {a0 : Array Value} (hw : Tb a0 Z) : (Jvm.Cond.instanceMethod ({ cls := "java/lang/AbstractStringBuilder", name := "getValue", desc := "()[B" } : Jvm.MethodName)).before a0 Z = true := hw _ (List.mem_of_getElem? (i := 227) rfl)
theorem pd____B_659 : parseMethodDescriptor "()[B" = some ⟨[], some (.array .byte)⟩ := by decide +kernel
theorem d_jdk_42_method_150_code_8 : decode jdk_42_method_150_code 8 = .ok (.astore_n 3, 1) := by decide +kernel
theorem d_jdk_42_method_150_code_9 : decode jdk_42_method_150_code 9 = .ok (.aload_n 1, 1) := by decide +kernel
theorem d_jdk_42_method_150_code_10 : decode jdk_42_method_150_code 10 = .ok (.invokevirtual 549, 3) := by decide +kernel
theorem w230 {Z : State} {a0 : Array Value} (hw : Tb a0 Z) : (Jvm.Cond.methodLink "java/lang/String" (549 : Nat) ({ cls := "java/lang/AbstractStringBuilder", name := "length", desc := "()I" } : Jvm.MethodName)).before a0 Z = true := hw _ (List.mem_of_getElem? (i := 230) rfl)
theorem w86 {Z : State} {a0 : Array Value} (hw : Tb a0 Z) : (Jvm.Cond.initialized "java/lang/StringBuilder").before a0 Z = true := hw _ (List.mem_of_getElem? (i := 86) rfl)
theorem w235 {Z : State} {a0 : Array Value} (hw : Tb a0 Z) : (Jvm.Cond.code ({ cls := "java/lang/StringBuilder", name := "length", desc := "()I" } : Jvm.MethodName) jdk_67_method_93_code (1 : Nat) (Option.some Jvm.ClassFile.FieldType.int)).before a0 Z = true := hw _ (List.mem_of_getElem? (i := 235) rfl)
theorem w233 {Z : State} {a0 : Array Value} (hw : Tb a0 Z) : (Jvm.Cond.selects "java/lang/StringBuilder" ({ cls := "java/lang/AbstractStringBuilder", name := "length", desc := "()I" } : Jvm.MethodName) ({ cls := "java/lang/StringBuilder", name := "length", desc := "()I" } : Jvm.MethodName)).before a0 Z = true := hw _ (List.mem_of_getElem? (i := 233) rfl)
theorem w231 {Z : State} {a0 : Array Value} (hw : Tb a0 Z) : (Jvm.Cond.declares ({ cls := "java/lang/AbstractStringBuilder", name := "length", desc := "()I" } : Jvm.MethodName)).before a0 Z = true := hw _ (List.mem_of_getElem? (i := 231) rfl)
theorem w234 {Z : State} {a0 : Array Value} (hw : Tb a0 Z) : (Jvm.Cond.instanceMethod ({ cls := "java/lang/StringBuilder", name := "length", desc := "()I" } : Jvm.MethodName)).before a0 Z = true := hw _ (List.mem_of_getElem? (i := 234) rfl)
theorem d_jdk_42_method_150_code_13 : decode jdk_42_method_150_code 13 = .ok (.istore 4, 2) := by decide +kernel
theorem d_jdk_42_method_150_code_15 : decode jdk_42_method_150_code 15 = .ok (.aload_n 1, 1) := by decide +kernel
theorem d_jdk_42_method_150_code_16 : decode jdk_42_method_150_code 16 = .ok (.invokevirtual 1047, 3) := by decide +kernel
theorem w238 {Z : State} {a0 : Array Value} (hw : Tb a0 Z) : (Jvm.Cond.methodLink "java/lang/String" (1047 : Nat) ({ cls := "java/lang/AbstractStringBuilder", name := "isLatin1", desc := "()Z" } : Jvm.MethodName)).before a0 Z = true := hw _ (List.mem_of_getElem? (i := 238) rfl)
theorem w178 {Z : State} {a0 : Array Value} (hw : Tb a0 Z) : (Jvm.Cond.code ({ cls := "java/lang/AbstractStringBuilder", name := "isLatin1", desc := "()Z" } : Jvm.MethodName) jdk_68_method_68_code (1 : Nat) (Option.some Jvm.ClassFile.FieldType.boolean)).before a0 Z = true := hw _ (List.mem_of_getElem? (i := 178) rfl)
theorem w177 {Z : State} {a0 : Array Value} (hw : Tb a0 Z) : (Jvm.Cond.selects "java/lang/StringBuilder" ({ cls := "java/lang/AbstractStringBuilder", name := "isLatin1", desc := "()Z" } : Jvm.MethodName) ({ cls := "java/lang/AbstractStringBuilder", name := "isLatin1", desc := "()Z" } : Jvm.MethodName)).before a0 Z = true := hw _ (List.mem_of_getElem? (i := 177) rfl)
theorem w175 {Z : State} {a0 : Array Value} (hw : Tb a0 Z) : (Jvm.Cond.declares ({ cls := "java/lang/AbstractStringBuilder", name := "isLatin1", desc := "()Z" } : Jvm.MethodName)).before a0 Z = true := hw _ (List.mem_of_getElem? (i := 175) rfl)
theorem w176 {Z : State} {a0 : Array Value} (hw : Tb a0 Z) : (Jvm.Cond.instanceMethod ({ cls := "java/lang/AbstractStringBuilder", name := "isLatin1", desc := "()Z" } : Jvm.MethodName)).before a0 Z = true := hw _ (List.mem_of_getElem? (i := 176) rfl)
theorem pd___Z_392 : parseMethodDescriptor "()Z" = some ⟨[], some .boolean⟩ := by decide +kernel
theorem d_jdk_42_method_150_code_19 : decode jdk_42_method_150_code 19 = .ok (.ifCond .eq 22, 3) := by decide +kernel
theorem d_jdk_42_method_150_code_22 : decode jdk_42_method_150_code 22 = .ok (.aload_n 0, 1) := by decide +kernel
theorem d_jdk_42_method_150_code_23 : decode jdk_42_method_150_code 23 = .ok (.iconst 0, 1) := by decide +kernel
theorem d_jdk_42_method_150_code_24 : decode jdk_42_method_150_code 24 = .ok (.putfield 15, 3) := by decide +kernel
theorem w107 {Z : State} {a0 : Array Value} (hw : Tb a0 Z) : (Jvm.Cond.laysFinal "java/lang/String" "java/lang/String" "coder" "B").before a0 Z = true := hw _ (List.mem_of_getElem? (i := 107) rfl)
theorem w105 {Z : State} {a0 : Array Value} (hw : Tb a0 Z) : (Jvm.Cond.instantiable "java/lang/String" (4 : Nat)).before a0 Z = true := hw _ (List.mem_of_getElem? (i := 105) rfl)
theorem w106 {Z : State} {a0 : Array Value} (hw : Tb a0 Z) : (Jvm.Cond.laysFinal "java/lang/String" "java/lang/String" "value" "[B").before a0 Z = true := hw _ (List.mem_of_getElem? (i := 106) rfl)
theorem d_jdk_42_method_150_code_27 : decode jdk_42_method_150_code 27 = .ok (.aload_n 0, 1) := by decide +kernel
theorem d_jdk_42_method_150_code_28 : decode jdk_42_method_150_code 28 = .ok (.aload_n 3, 1) := by decide +kernel
theorem d_jdk_42_method_150_code_29 : decode jdk_42_method_150_code 29 = .ok (.iconst 0, 1) := by decide +kernel
theorem d_jdk_42_method_150_code_30 : decode jdk_42_method_150_code 30 = .ok (.iload 4, 2) := by decide +kernel
theorem d_jdk_42_method_150_code_32 : decode jdk_42_method_150_code 32 = .ok (.invokestatic 54, 3) := by decide +kernel
theorem w239 {Z : State} {a0 : Array Value} (hw : Tb a0 Z) : (Jvm.Cond.methodLink "java/lang/String" (54 : Nat) ({ cls := "java/util/Arrays", name := "copyOfRange", desc := "([BII)[B" } : Jvm.MethodName)).before a0 Z = true := hw _ (List.mem_of_getElem? (i := 239) rfl)
theorem w241 {Z : State} {a0 : Array Value} (hw : Tb a0 Z) : (Jvm.Cond.code ({ cls := "java/util/Arrays", name := "copyOfRange", desc := "([BII)[B" } : Jvm.MethodName) jdk_65_method_132_code (3 : Nat) (Option.some (Jvm.ClassFile.FieldType.array Jvm.ClassFile.FieldType.byte))).before a0 Z = true := hw _ (List.mem_of_getElem? (i := 241) rfl)
theorem w240 {Z : State} {a0 : Array Value} (hw : Tb a0 Z) : (Jvm.Cond.static ({ cls := "java/util/Arrays", name := "copyOfRange", desc := "([BII)[B" } : Jvm.MethodName)).before a0 Z = true := hw _ (List.mem_of_getElem? (i := 240) rfl)
theorem d_jdk_42_method_150_code_35 : decode jdk_42_method_150_code 35 = .ok (.putfield 9, 3) := by decide +kernel
theorem d_jdk_42_method_150_code_38 : decode jdk_42_method_150_code 38 = .ok (.goto 59, 3) := by decide +kernel
theorem d_jdk_42_method_150_code_97 : decode jdk_42_method_150_code 97 = .ok (.return_, 1) := by decide +kernel
set_option maxRecDepth 65536 in
set_option maxHeartbeats 40000000 in
theorem c_si (l : Launch) (Z : State) (a0 : Array Value) (hw : Tb a0 Z) (hEW : EW Z a0 EL0) (n0 : Nat) (sb d : Addr) (kd : ClassId) (cp : Int32) (xs : List Int32) (ys : List Value) (a : Addr) (u1 u2 : Value) (cs0 : Int32) (h0 : Heap) (O : Old Z n0 h0) (B : Sbd Z h0 sb d kd cp xs ys) (hx : xs.length ≤ 70) (X_a : Exa Z h0 a "java/lang/String") (F_a_value : Fld Z h0 a "java/lang/String" "value" "[B" u1) (F_a_coder : Fld Z h0 a "java/lang/String" "coder" "B" u2) (ga_a : n0 ≤ a) (ne_d_a : d ≠ a) (SC : Sta Z Z.heap "java/lang/String" "COMPACT_STRINGS" "Z" (.int cs0)) (hcs : ¬ cs0 = 0) :
    Ct l Z EL0 n0 (⟨"java/lang/String", "<init>", "(Ljava/lang/AbstractStringBuilder;Ljava/lang/Void;)V"⟩ : MethodName) jdk_42_method_150_code 5 none ({ frames := 3, cells := 1, slots := 142, locals := 49 } : Room) #[(.ref a), (.ref sb), .null] h0 [a] (fun v h sf => v = none ∧ Keep h0 h [a] ∧ ∃ t kt, Str Z h a t kt 0 (Int32.ofNat xs.length) (xs.map Value.int)) := by
  refine Ct.of (a0 := a0) #[.val (.ref a), .val (.ref sb), .val .null, .unset, .unset] hEW O (plainFor_of_name pl_java_lang_String) (fun m => by first | (simp [entryFrame, mkF, argsToLocals, Value.category]; done) | rfl) ?_
  intro p_ e_ s_ m_ below_ meth_ c_ b_ T_ K hSP hsh
  obtain ⟨X_sb, F_sb_value, F_sb_coder, F_sb_count, V_d, X_d, hcp, hcb⟩ := B
  have KP := Keep.refl h0 [a]
  have sf_a := hSP a (by simp)
  refine k_aloadN K d_jdk_42_method_150_code_0 (pc' := 1) rfl rfl rfl ?_
  refine k_initO K (w224 hw) (w41 hw) (w42 hw) d_jdk_42_method_150_code_1 (pc' := 4) rfl rfl (by decide) 0 (Nat.le_of_eq rfl) (by decide) ?_
  intro T58 K58
  refine k_aloadN K58 d_jdk_42_method_150_code_4 (pc' := 5) rfl rfl rfl ?_
  refine k_virtualP K58 [] [] 0 (w225 hw) (w226 hw) (w227 hw) (w228 hw) (w94 hw) (w229 hw) (notFace_of_selects (args := #[]) (mvT K58.hZ (w228 hw))) rfl (by decide) X_sb (by decide) pd____B_659 (c_gv l Z a0 hw hEW n0 sb d h0 K58.old F_sb_value) d_jdk_42_method_150_code_5 nofun (pc' := 8) rfl rfl rfl rfl (Nat.le_of_eq rfl) (by decide) (by decide) (by decide) (by decide) ?_
  intro b59 T59 L59 K59 tr59
  show Goes p_.tables e_ below_ _ (T59.setTop (mkF m_ 8 #[.val (.ref a), .val (.ref sb), .val .null, .unset, .unset] [(.ref d)]))
  replace sf_a := tr59 a X_a.lt sf_a
  refine k_astoreN K59 d_jdk_42_method_150_code_8 (pc' := 9) (L' := #[.val (.ref a), .val (.ref sb), .val .null, .val (.ref d), .unset]) rfl rfl rfl ?_
  refine k_aloadN K59 d_jdk_42_method_150_code_9 (pc' := 10) rfl rfl rfl ?_
  refine k_virtualP K59 [] [] 0 (w230 hw) (w231 hw) (w234 hw) (w233 hw) (w86 hw) (w235 hw) (own_nf (args := #[]) (y' := ({ cls := "java/lang/AbstractStringBuilder", name := "ensureCapacityInternal", desc := "(I)V" } : Jvm.MethodName)) rfl (mvT K59.hZ (w138 hw))) rfl (by decide) X_sb (by decide) pd___I_341 (c_sl l Z a0 hw hEW n0 sb (Int32.ofNat xs.length) h0 K59.old X_sb F_sb_count) d_jdk_42_method_150_code_10 nofun (pc' := 13) rfl rfl rfl rfl (Nat.le_of_eq rfl) (by decide) (by decide) (by decide) (by decide) ?_
  intro b60 T60 L60 K60 tr60
  show Goes p_.tables e_ below_ _ (T60.setTop (mkF m_ 13 #[.val (.ref a), .val (.ref sb), .val .null, .val (.ref d), .unset] [(.int (Int32.ofNat xs.length))]))
  replace sf_a := tr60 a X_a.lt sf_a
  refine k_istore K60 d_jdk_42_method_150_code_13 (pc' := 15) (L' := #[.val (.ref a), .val (.ref sb), .val .null, .val (.ref d), .val (.int (Int32.ofNat xs.length))]) rfl rfl ?_
  refine k_aloadN K60 d_jdk_42_method_150_code_15 (pc' := 16) rfl rfl rfl ?_
  refine k_virtualP K60 [] [] 0 (w238 hw) (w175 hw) (w176 hw) (w177 hw) (w94 hw) (w178 hw) (notFace_of_selects (args := #[]) (mvT K60.hZ (w177 hw))) rfl (by decide) X_sb (by decide) pd___Z_392 (c_ail l Z a0 hw hEW n0 sb cs0 h0 K60.old F_sb_coder SC hcs) d_jdk_42_method_150_code_16 nofun (pc' := 19) rfl rfl rfl rfl (Nat.le_of_eq rfl) (by decide) (by decide) (by decide) (by decide) ?_
  intro b61 T61 L61 K61 tr61
  show Goes p_.tables e_ below_ _ (T61.setTop (mkF m_ 19 #[.val (.ref a), .val (.ref sb), .val .null, .val (.ref d), .val (.int (Int32.ofNat xs.length))] [(.int (1 : Int32))]))
  replace sf_a := tr61 a X_a.lt sf_a
  refine k_if_eq K61 d_jdk_42_method_150_code_19 (by decide) (pc' := 41) (pc2 := 22) (by decide) rfl (fun q => absurd q (by decide)) (fun hc19 => ?_)
  refine k_aloadN K61 d_jdk_42_method_150_code_22 (pc' := 23) rfl rfl rfl ?_
  refine k_iconst K61 (0 : Int32) d_jdk_42_method_150_code_23 (pc' := 24) rfl rfl ?_
  refine k_putF K61 (w132 hw) Via.refl F_a_coder X_a (Or.inr ⟨(w107 hw), rfl, rfl⟩) (w105 hw) (ty := .byte) (by decide) rfl rfl ga_a sf_a d_jdk_42_method_150_code_24 (pc' := 27) rfl ?_
  intro T62 h62 K62 W62 tr62
  have F62 := F_a_coder.same W62
  replace sf_a := tr62 a X_a.lt sf_a
  replace X_a := X_a.wr W62
  replace F_a_value := F_a_value.other W62 (Or.inr (slot_ne (Or.inr (w106 hw)) (Or.inr (w107 hw)) (by decide) (t := (.array .byte)) (t' := .byte) (by decide) (by decide)))
  replace V_d := V_d.other W62 ne_d_a
  replace X_d := X_d.wr W62
  replace KP := KP.wr W62 (Or.inl (by simp))
  replace F_a_coder := F62
  refine k_aloadN K62 d_jdk_42_method_150_code_27 (pc' := 28) rfl rfl rfl ?_
  refine k_aloadN K62 d_jdk_42_method_150_code_28 (pc' := 29) rfl rfl rfl ?_
  refine k_iconst K62 (0 : Int32) d_jdk_42_method_150_code_29 (pc' := 30) rfl rfl ?_
  refine k_iload K62 d_jdk_42_method_150_code_30 (pc' := 32) rfl rfl ?_
  refine k_static K62 [(.ref d), (.int (0 : Int32)), (.int (Int32.ofNat xs.length))] [(.ref a)] 1 (w239 hw) (w240 hw) (w204 hw) (w241 hw) (by decide) pd___BII__B_2488 (c_cr l Z a0 hw hEW n0 d kd cp xs ys h62 K62.old hcp hcb hx V_d X_d) d_jdk_42_method_150_code_32 nofun (pc' := 35) rfl rfl rfl rfl (Nat.le_of_eq rfl) (by decide) (by decide) (by decide) (by decide) ?_
  intro b63 T63 h63 L63 v63 K63 tr63 q63
  obtain ⟨t, kt, rfl, r1, KQ, V_t, sf_t⟩ := q63
  have ga_t : n0 ≤ t := Nat.le_trans (own_n0 K62.old) r1
  have sz_t : h0.size ≤ t := Nat.le_trans KP.1 r1
  have ne_a_t : a ≠ t := own_ne2 X_a.lt r1
  have ne_d_t : d ≠ t := own_ne2 V_d.lt r1
  replace sf_a := tr63 a X_a.lt sf_a
  replace X_a := X_a.keep KQ
  replace F_a_value := F_a_value.keep KQ nin0
  replace F_a_coder := F_a_coder.keep KQ nin0
  replace V_d := V_d.keep KQ nin0
  replace X_d := X_d.keep KQ
  replace KP := KP.trans KQ all0
  show Goes p_.tables e_ below_ _ (T63.setTop (mkF m_ 35 #[.val (.ref a), .val (.ref sb), .val .null, .val (.ref d), .val (.int (Int32.ofNat xs.length))] [(.ref t), (.ref a)]))
  refine k_putF K63 (w125 hw) Via.refl F_a_value X_a (Or.inr ⟨(w106 hw), rfl, rfl⟩) (w105 hw) (ty := (.array .byte)) (by decide) rfl rfl ga_a sf_a d_jdk_42_method_150_code_35 (pc' := 38) rfl ?_
  intro T64 h64 K64 W64 tr64
  have F64 := F_a_value.same W64
  replace sf_a := tr64 a X_a.lt sf_a
  replace X_a := X_a.wr W64
  replace F_a_coder := F_a_coder.other W64 (Or.inr (slot_ne (Or.inr (w107 hw)) (Or.inr (w106 hw)) (by decide) (t := .byte) (t' := (.array .byte)) (by decide) (by decide)))
  replace V_d := V_d.other W64 ne_d_a
  replace X_d := X_d.wr W64
  replace V_t := V_t.other W64 (Ne.symm ne_a_t)
  replace KP := KP.wr W64 (Or.inl (by simp))
  replace F_a_value := F64
  refine k_goto K64 d_jdk_42_method_150_code_38 (by decide) (pc' := 97) (by decide) ?_
  exact k_return K64 d_jdk_42_method_150_code_97 rfl (fun sf ht => ⟨rfl, KP, t, kt, X_a, F_a_coder, F_a_value, V_t⟩) (by decide) (by decide)
theorem d_jdk_42_method_53_code_0 : decode jdk_42_method_53_code 0 = .ok (.aload_n 0, 1) := by decide +kernel
theorem d_jdk_42_method_53_code_1 : decode jdk_42_method_53_code 1 = .ok (.aload_n 1, 1) := by decide +kernel
theorem d_jdk_42_method_53_code_2 : decode jdk_42_method_53_code 2 = .ok (.aconst_null, 1) := by decide +kernel
theorem d_jdk_42_method_53_code_3 : decode jdk_42_method_53_code 3 = .ok (.invokespecial 489, 3) := by decide +kernel
theorem w221 {Z : State} {a0 : Array Value} (hw : Tb a0 Z) : (Jvm.Cond.methodLink "java/lang/String" (489 : Nat) ({ cls := "java/lang/String", name := "<init>", desc := "(Ljava/lang/AbstractStringBuilder;Ljava/lang/Void;)V" } : Jvm.MethodName)).before a0 Z = true := hw _ (List.mem_of_getElem? (i := 221) rfl)
theorem w223 {Z : State} {a0 : Array Value} (hw : Tb a0 Z) : (Jvm.Cond.code ({ cls := "java/lang/String", name := "<init>", desc := "(Ljava/lang/AbstractStringBuilder;Ljava/lang/Void;)V" } : Jvm.MethodName) jdk_42_method_150_code (5 : Nat) (Option.none : Option Jvm.ClassFile.FieldType)).before a0 Z = true := hw _ (List.mem_of_getElem? (i := 223) rfl)
theorem w222 {Z : State} {a0 : Array Value} (hw : Tb a0 Z) : (Jvm.Cond.instanceMethod ({ cls := "java/lang/String", name := "<init>", desc := "(Ljava/lang/AbstractStringBuilder;Ljava/lang/Void;)V" } : Jvm.MethodName)).before a0 Z = true := hw _ (List.mem_of_getElem? (i := 222) rfl)
theorem pd__Ljava_lang_AbstractStringBuilder_Ljava_lang_Void__V_7965 : parseMethodDescriptor "(Ljava/lang/AbstractStringBuilder;Ljava/lang/Void;)V" = some ⟨[(.object "java/lang/AbstractStringBuilder"), (.object "java/lang/Void")], none⟩ := by decide +kernel
theorem d_jdk_42_method_53_code_6 : decode jdk_42_method_53_code 6 = .ok (.return_, 1) := by decide +kernel
set_option maxRecDepth 65536 in
set_option maxHeartbeats 40000000 in
theorem c_si2 (l : Launch) (Z : State) (a0 : Array Value) (hw : Tb a0 Z) (hEW : EW Z a0 EL0) (n0 : Nat) (sb d : Addr) (kd : ClassId) (cp : Int32) (xs : List Int32) (ys : List Value) (a : Addr) (u1 u2 : Value) (cs0 : Int32) (h0 : Heap) (O : Old Z n0 h0) (B : Sbd Z h0 sb d kd cp xs ys) (hx : xs.length ≤ 70) (X_a : Exa Z h0 a "java/lang/String") (F_a_value : Fld Z h0 a "java/lang/String" "value" "[B" u1) (F_a_coder : Fld Z h0 a "java/lang/String" "coder" "B" u2) (ga_a : n0 ≤ a) (ne_d_a : d ≠ a) (SC : Sta Z Z.heap "java/lang/String" "COMPACT_STRINGS" "Z" (.int cs0)) (hcs : ¬ cs0 = 0) :
    Ct l Z EL0 n0 (⟨"java/lang/String", "<init>", "(Ljava/lang/StringBuilder;)V"⟩ : MethodName) jdk_42_method_53_code 2 none ({ frames := 4, cells := 1, slots := 142, locals := 65 } : Room) #[(.ref a), (.ref sb)] h0 [a] (fun v h sf => v = none ∧ Keep h0 h [a] ∧ ∃ t kt, Str Z h a t kt 0 (Int32.ofNat xs.length) (xs.map Value.int)) := by
  refine Ct.of (a0 := a0) #[.val (.ref a), .val (.ref sb)] hEW O (plainFor_of_name pl_java_lang_String) (fun m => by first | (simp [entryFrame, mkF, argsToLocals, Value.category]; done) | rfl) ?_
  intro p_ e_ s_ m_ below_ meth_ c_ b_ T_ K hSP hsh
  refine k_aloadN K d_jdk_42_method_53_code_0 (pc' := 1) rfl rfl rfl ?_
  refine k_aloadN K d_jdk_42_method_53_code_1 (pc' := 2) rfl rfl rfl ?_
  refine k_aconst_null K d_jdk_42_method_53_code_2 (pc' := 3) rfl ?_
  refine k_special K [(.ref sb), .null] [] 0 (w221 hw) (w222 hw) (w98 hw) (w223 hw) rfl rfl (by decide) pd__Ljava_lang_AbstractStringBuilder_Ljava_lang_Void__V_7965 (c_si l Z a0 hw hEW n0 sb d kd cp xs ys a u1 u2 cs0 h0 K.old B hx X_a F_a_value F_a_coder ga_a ne_d_a SC hcs) d_jdk_42_method_53_code_3 (fun x hx => by cases List.mem_singleton.mp hx; exact ⟨X_a.lt, hSP _ (by simp)⟩) (pc' := 6) rfl rfl rfl rfl (Nat.le_of_eq rfl) (by decide) (by decide) (by decide) (by decide) ?_
  intro b65 T65 h65 L65 v65 K65 tr65 q65
  obtain ⟨rfl, KQ, t, kt, S⟩ := q65
  show Goes p_.tables e_ below_ _ (T65.setTop (mkF m_ 6 #[.val (.ref a), .val (.ref sb)] []))
  exact k_return K65 d_jdk_42_method_53_code_6 rfl (fun sf ht => ⟨rfl, KQ, t, kt, S⟩) (by decide) (by decide)
theorem d_jdk_67_method_42_code_0 : decode jdk_67_method_42_code 0 = .ok (.new 18, 3) := by decide +kernel
theorem w216 {Z : State} {a0 : Array Value} (hw : Tb a0 Z) : (Jvm.Cond.classLink "java/lang/StringBuilder" (18 : Nat) "java/lang/String").before a0 Z = true := hw _ (List.mem_of_getElem? (i := 216) rfl)
theorem d_jdk_67_method_42_code_3 : decode jdk_67_method_42_code 3 = .ok (.dup, 1) := by decide +kernel
theorem d_jdk_67_method_42_code_4 : decode jdk_67_method_42_code 4 = .ok (.aload_n 0, 1) := by decide +kernel
theorem d_jdk_67_method_42_code_5 : decode jdk_67_method_42_code 5 = .ok (.invokespecial 137, 3) := by decide +kernel
theorem w217 {Z : State} {a0 : Array Value} (hw : Tb a0 Z) : (Jvm.Cond.methodLink "java/lang/StringBuilder" (137 : Nat) ({ cls := "java/lang/String", name := "<init>", desc := "(Ljava/lang/StringBuilder;)V" } : Jvm.MethodName)).before a0 Z = true := hw _ (List.mem_of_getElem? (i := 217) rfl)
theorem w220 {Z : State} {a0 : Array Value} (hw : Tb a0 Z) : (Jvm.Cond.code ({ cls := "java/lang/String", name := "<init>", desc := "(Ljava/lang/StringBuilder;)V" } : Jvm.MethodName) jdk_42_method_53_code (2 : Nat) (Option.none : Option Jvm.ClassFile.FieldType)).before a0 Z = true := hw _ (List.mem_of_getElem? (i := 220) rfl)
theorem w218 {Z : State} {a0 : Array Value} (hw : Tb a0 Z) : (Jvm.Cond.instanceMethod ({ cls := "java/lang/String", name := "<init>", desc := "(Ljava/lang/StringBuilder;)V" } : Jvm.MethodName)).before a0 Z = true := hw _ (List.mem_of_getElem? (i := 218) rfl)
theorem pd__Ljava_lang_StringBuilder__V_7629 : parseMethodDescriptor "(Ljava/lang/StringBuilder;)V" = some ⟨[(.object "java/lang/StringBuilder")], none⟩ := by decide +kernel
theorem d_jdk_67_method_42_code_8 : decode jdk_67_method_42_code 8 = .ok (.areturn, 1) := by decide +kernel
set_option maxRecDepth 65536 in
set_option maxHeartbeats 40000000 in
theorem c_ts (l : Launch) (Z : State) (a0 : Array Value) (hw : Tb a0 Z) (hEW : EW Z a0 EL0) (n0 : Nat) (sb d : Addr) (kd : ClassId) (cp : Int32) (xs : List Int32) (ys : List Value) (cs0 : Int32) (h0 : Heap) (O : Old Z n0 h0) (B : Sbd Z h0 sb d kd cp xs ys) (hx : xs.length ≤ 70) (SC : Sta Z Z.heap "java/lang/String" "COMPACT_STRINGS" "Z" (.int cs0)) (hcs : ¬ cs0 = 0) :
    Ct l Z EL0 n0 (⟨"java/lang/StringBuilder", "toString", "()Ljava/lang/String;"⟩ : MethodName) jdk_67_method_42_code 1 (some (.object "java/lang/String")) ({ frames := 5, cells := 2, slots := 146, locals := 79 } : Room) #[(.ref sb)] h0 [] (fun v h sf => ∃ a t kt, v = some (.ref a) ∧ Keep h0 h [] ∧ Str Z h a t kt 0 (Int32.ofNat xs.length) (xs.map Value.int)) := by
  refine Ct.of (a0 := a0) #[.val (.ref sb)] hEW O (plainFor_of_name pl_java_lang_StringBuilder) (fun m => by first | (simp [entryFrame, mkF, argsToLocals, Value.category]; done) | rfl) ?_
  intro p_ e_ s_ m_ below_ meth_ c_ b_ T_ K hSP hsh
  obtain ⟨X_sb, F_sb_value, F_sb_coder, F_sb_count, V_d, X_d, hcp, hcb⟩ := B
  have KP := Keep.refl h0 []
  refine k_new K (w216 hw) (w105 hw) (w98 hw) d_jdk_67_method_42_code_0 (pc' := 3) rfl (by decide) (by decide) ?_
  intro T66 h66 a66 g66 K66 E66 tr66 sf_a66 X_a66 D66 U66
  have ga_a66 : n0 ≤ a66 := own_old K.old g66
  have sz_a66 : h0.size ≤ a66 := g66 ▸ KP.1
  have ne_sb_a66 : sb ≠ a66 := own_ne X_sb.lt g66
  have ne_d_a66 : d ≠ a66 := own_ne V_d.lt g66
  replace X_sb := X_sb.ext E66
  replace F_sb_value := F_sb_value.ext E66
  replace F_sb_coder := F_sb_coder.ext E66
  replace F_sb_count := F_sb_count.ext E66
  replace V_d := V_d.ext E66
  replace X_d := X_d.ext E66
  replace KP := KP.ext E66
  have F_a66_value : Fld Z h66 a66 "java/lang/String" "value" "[B" .null := D66 (Or.inr (w106 hw)) (ty := (.array .byte)) (by decide)
  have F_a66_coder : Fld Z h66 a66 "java/lang/String" "coder" "B" (.int (0 : Int32)) := D66 (Or.inr (w107 hw)) (ty := .byte) (by decide)
  refine k_dup K66 d_jdk_67_method_42_code_3 (pc' := 4) rfl rfl ?_
  refine k_aloadN K66 d_jdk_67_method_42_code_4 (pc' := 5) rfl rfl rfl ?_
  refine k_special K66 [(.ref sb)] [(.ref a66)] 1 (w217 hw) (w218 hw) (w98 hw) (w220 hw) rfl rfl (by decide) pd__Ljava_lang_StringBuilder__V_7629 (c_si2 l Z a0 hw hEW n0 sb d kd cp xs ys a66 _ _ cs0 h66 K66.old ⟨X_sb, F_sb_value, F_sb_coder, F_sb_count, V_d, X_d, hcp, hcb⟩ hx X_a66 F_a66_value F_a66_coder ga_a66 ne_d_a66 SC hcs) d_jdk_67_method_42_code_5 (fun x hx => by cases List.mem_singleton.mp hx; exact ⟨X_a66.lt, sf_a66⟩) (pc' := 8) rfl rfl rfl rfl (Nat.le_of_eq rfl) (by decide) (by decide) (by decide) (by decide) ?_
  intro b67 T67 h67 L67 v67 K67 tr67 q67
  obtain ⟨rfl, KQ, t, kt, S⟩ := q67
  replace KP := KP.trans KQ (allS (Or.inr sz_a66) all0)
  show Goes p_.tables e_ below_ _ (T67.setTop (mkF m_ 8 #[.val (.ref sb)] [(.ref a66)]))
  exact k_aret K67 d_jdk_67_method_42_code_8 rfl rfl rfl (fun sf ht => ⟨a66, t, kt, rfl, KP, S⟩) (by decide) (by decide)
def szF : Nat → Nat → Nat → Nat
  | 0, k, _ => k
  | f + 1, k, n => if n < 10 ^ k then k else szF f (k + 1) n
def szL (n : Nat) : Nat := szF 18 1 n
theorem szF_b : ∀ f k n : Nat, k ≤ szF f k n ∧ szF f k n ≤ k + f
  | 0, k, n => ⟨Nat.le_refl _, Nat.le_refl _⟩
  | f + 1, k, n => by
    have h := szF_b f (k + 1) n
    unfold szF; split <;> omega
theorem szF_gt {n j : Nat} : ∀ f k : Nat, k ≤ j → j < k + f → 10 ^ j ≤ n → j < szF f k n
  | 0, k, h1, h2, _ => by omega
  | f + 1, k, h1, h2, h3 => by
    have hp : 10 ^ k ≤ 10 ^ j := Nat.pow_le_pow_right (by decide) h1
    unfold szF
    rw [if_neg (by omega)]
    by_cases q : j = k
    · have := (szF_b f (k + 1) n).1; omega
    · exact szF_gt f (k + 1) (by omega) (by omega) h3
theorem szF_le {n j : Nat} : ∀ f k : Nat, k ≤ j → n < 10 ^ j → szF f k n ≤ j
  | 0, k, h1, _ => h1
  | f + 1, k, h1, h2 => by
    unfold szF
    split
    · exact h1
    · rename_i q
      have : k ≠ j := fun e => q (e ▸ h2)
      exact szF_le f (k + 1) (by omega) h2
theorem szL_b (n : Nat) : 1 ≤ szL n ∧ szL n ≤ 19 := szF_b 18 1 n
theorem szL_gt {n j : Nat} (h : j ≤ 18) (hj : 10 ^ j ≤ n) : j < szL n := by
  by_cases q : j = 0
  · have := (szL_b n).1; omega
  · exact szF_gt 18 1 (by omega) (by omega) hj
theorem szL_le {n j : Nat} (h : 1 ≤ j) (hj : n < 10 ^ j) : szL n ≤ j := szF_le 18 1 h hj
theorem own_pd {n c m : Nat} (h : m = n / 10 ^ c) (j : Nat) : n / 10 ^ (c + j) = m / 10 ^ j := by
  rw [h, Nat.pow_add, Nat.div_div_eq_div_mul]
theorem own_szc {n c m j : Nat} (h : m = n / 10 ^ c) (hj : 10 ^ j ≤ m) (hn : n < 10 ^ 19) : c + j < szL n := by
  have h2 : 10 ^ (c + j) ≤ n := by
    rw [Nat.pow_add]
    calc 10 ^ c * 10 ^ j ≤ 10 ^ c * m := Nat.mul_le_mul_left _ hj
      _ = 10 ^ c * (n / 10 ^ c) := by rw [h]
      _ ≤ n := Nat.mul_div_le _ _
  have h3 : c + j < 19 := (Nat.pow_lt_pow_iff_right (by decide : 1 < 10)).mp (Nat.lt_of_le_of_lt h2 hn)
  exact szL_gt (by omega) h2
theorem own_szl {n c m j : Nat} (h : m = n / 10 ^ c) (hj : m < 10 ^ j) (h1 : 1 ≤ c + j) : szL n ≤ c + j := by
  refine szL_le h1 ?_
  rw [Nat.pow_add, Nat.mul_comm]
  exact (Nat.div_lt_iff_lt_mul (Nat.pow_pos (by decide))).mp (h ▸ hj)
theorem own_cnt (n k : Nat) (h1 : 1 ≤ k) (h2 : k ≤ 18) : min (szL n) k + (if n < 10 ^ k then 0 else 1) = min (szL n) (k + 1) := by
  by_cases q : n < 10 ^ k
  · rw [if_pos q]; have := szL_le h1 q; omega
  · rw [if_neg q]; have := szL_gt h2 (by omega : 10 ^ k ≤ n); omega
def Sg (x : Int64) (n sg : Nat) : Prop := (x.toInt = -(n : Int) ∧ sg = 1 ∧ 1 ≤ n) ∨ (x.toInt = (n : Int) ∧ sg = 0)
theorem sg_ex (x : Int64) : ∃ n sg, Sg x n sg := by
  by_cases q : x.toInt < 0
  · exact ⟨(-x.toInt).toNat, 1, Or.inl ⟨by omega, rfl, by omega⟩⟩
  · exact ⟨x.toInt.toNat, 0, Or.inr ⟨by omega, rfl⟩⟩
theorem sg_b {x : Int64} {n sg : Nat} (h : Sg x n sg) : n ≤ 9223372036854775808 ∧ sg ≤ 1 := by
  have h1 : -2 ^ 63 ≤ x.toInt := Int64.le_toInt x
  have h2 : x.toInt < 2 ^ 63 := Int64.toInt_lt x
  rcases h with ⟨h, r, -⟩ | ⟨h, r⟩
  · rw [h] at h1; omega
  · rw [h] at h2; omega
theorem own_i64 {a b : Int64} : a < b ↔ a.toInt < b.toInt := Int64.lt_iff_toInt_lt
theorem own_00 : (0 : Int64).toInt = 0 := by decide
theorem own_neg64 {x : Int64} {n : Nat} (h : x.toInt = n) : (-x).toInt = -(n : Int) := by
  have hl : x.toInt < 2 ^ 63 := Int64.toInt_lt x
  rw [Int64.toInt_neg, h]
  rw [h] at hl
  exact Int.bmod_eq_of_le (by omega) (by omega)
theorem own_dv64 {x : Int64} {m : Nat} (h : x.toInt = -(m : Int)) : (x / 100).toInt = -((m / 100 : Nat) : Int) := by
  have hl : -2 ^ 63 ≤ x.toInt := Int64.le_toInt x
  rw [Int64.toInt_div, h, show (100 : Int64).toInt = ((100 : Nat) : Int) by decide, Int.neg_tdiv, ← Int.ofNat_tdiv]
  rw [h] at hl
  have hm : m ≤ 9223372036854775808 := by omega
  exact Int.bmod_eq_of_le (by omega) (by omega)
theorem own_r64 {x : Int64} {m : Nat} (h : x.toInt = -(m : Int)) : (x / 100 * 100 - x).toInt32.toInt = ((m % 100 : Nat) : Int) := by
  have hl : -2 ^ 63 ≤ x.toInt := Int64.le_toInt x
  have e := own_dv64 h
  rw [h] at hl
  have e2 : (x / 100 * 100).toInt = -((100 * (m / 100) : Nat) : Int) := by
    rw [Int64.toInt_mul, e, show (100 : Int64).toInt = 100 by decide, Int.bmod_eq_of_le (by omega) (by omega)]; omega
  rw [Int64.toInt_toInt32, Int64.toInt_sub, e2, h, Int.bmod_eq_of_le (n := _) (m := 2 ^ 64) (by omega) (by omega)]
  rw [Int.bmod_eq_of_le (by omega) (by omega)]; omega
theorem own_l2i {x : Int64} {m : Nat} (h : x.toInt = -(m : Int)) (hm : m < 2147483648) : x.toInt32.toInt = -(m : Int) := by
  rw [Int64.toInt_toInt32, h]; exact Int.bmod_eq_of_le (by omega) (by omega)
theorem own_q64 {x P : Int64} {n sg k : Nat} (h : Sg x n sg) (hP : P.toInt = (10 ^ k : Nat)) : (x / P).toInt = -((n / 10 ^ k : Nat) : Int) ∨ (x / P).toInt = ((n / 10 ^ k : Nat) : Int) := by
  have h1 : -2 ^ 63 ≤ x.toInt := Int64.le_toInt x
  have h2 : x.toInt < 2 ^ 63 := Int64.toInt_lt x
  have hq : n / 10 ^ k ≤ n := Nat.div_le_self _ _
  rcases h with ⟨h, -, -⟩ | ⟨h, -⟩
  · left
    rw [h] at h1
    rw [Int64.toInt_div, h, hP, Int.neg_tdiv, ← Int.ofNat_tdiv]
    generalize n / 10 ^ k = u at hq ⊢
    exact Int.bmod_eq_of_le (by omega) (by omega)
  · right
    rw [h] at h2
    rw [Int64.toInt_div, h, hP, ← Int.ofNat_tdiv]
    generalize n / 10 ^ k = u at hq ⊢
    exact Int.bmod_eq_of_le (by omega) (by omega)
theorem own_rm64 {w : Int64} {u : Nat} (h : w.toInt = -(u : Int) ∨ w.toInt = (u : Int)) : (w - (w / 10) * 10).toInt = -((u % 10 : Nat) : Int) ∨ (w - (w / 10) * 10).toInt = ((u % 10 : Nat) : Int) := by
  have h1 : -2 ^ 63 ≤ w.toInt := Int64.le_toInt w
  have h2 : w.toInt < 2 ^ 63 := Int64.toInt_lt w
  rcases h with h | h
  · left
    rw [h] at h1
    have e : (w / 10).toInt = -((u / 10 : Nat) : Int) := by
      rw [Int64.toInt_div, h, show (10 : Int64).toInt = ((10 : Nat) : Int) by decide, Int.neg_tdiv, ← Int.ofNat_tdiv]
      exact Int.bmod_eq_of_le (by omega) (by omega)
    have e2 : (w / 10 * 10).toInt = -((10 * (u / 10) : Nat) : Int) := by
      rw [Int64.toInt_mul, e, show (10 : Int64).toInt = 10 by decide, Int.bmod_eq_of_le (by omega) (by omega)]; omega
    rw [Int64.toInt_sub, e2, h, Int.bmod_eq_of_le (by omega) (by omega)]; omega
  · right
    rw [h] at h2
    have e : (w / 10).toInt = ((u / 10 : Nat) : Int) := by
      rw [Int64.toInt_div, h, show (10 : Int64).toInt = ((10 : Nat) : Int) by decide, ← Int.ofNat_tdiv]
      exact Int.bmod_eq_of_le (by omega) (by omega)
    have e2 : (w / 10 * 10).toInt = ((10 * (u / 10) : Nat) : Int) := by
      rw [Int64.toInt_mul, e, show (10 : Int64).toInt = 10 by decide, Int.bmod_eq_of_le (by omega) (by omega)]; omega
    rw [Int64.toInt_sub, e2, h, Int.bmod_eq_of_le (by omega) (by omega)]; omega
theorem own_ab64 {r : Int64} {u : Nat} (h : r.toInt = -(u : Int) ∨ r.toInt = (u : Int)) (hu : u < 10) : (if r < 0 then -r else r).toInt32.toInt = (u : Int) := by
  have e : (if r < 0 then -r else r).toInt = (u : Int) := by
    by_cases q : r < 0
    · rw [if_pos q]; rw [own_i64, own_00] at q
      rcases h with h | h
      · rw [Int64.toInt_neg, h, Int.neg_neg]; exact Int.bmod_eq_of_le (by omega) (by omega)
      · omega
    · rw [if_neg q]; rw [own_i64, own_00] at q; omega
  rw [Int64.toInt_toInt32, e]; exact Int.bmod_eq_of_le (by omega) (by omega)
theorem own_more {x P : Int64} {n sg k : Nat} (h : Sg x n sg) (hP : P.toInt = (10 ^ k : Nat)) : x / P = 0 ↔ n < 10 ^ k := by
  have hp : 0 < 10 ^ k := Nat.pow_pos (by decide)
  have e := own_q64 h hP
  have h2 : n / 10 ^ k = 0 ↔ n < 10 ^ k := by rw [Nat.div_eq_zero_iff]; omega
  rw [← h2, ← Int64.toInt_inj, own_00]; omega
theorem szF_p {f k n : Nat} (h : n < 10 ^ k) : szF (f + 1) k n = k := if_pos h
theorem szF_s {f k n : Nat} (h : ¬ n < 10 ^ k) : szF (f + 1) k n = szF f (k + 1) n := if_neg h
theorem own_p10 {p : Int64} {i : Nat} (hp : p.toInt = -((10 ^ i : Nat) : Int)) (q : i + 1 ≤ 18) : ((10 : Int64) * p).toInt = -((10 ^ (i + 1) : Nat) : Int) := by
  have h9 : 10 ^ (i + 1) ≤ 10 ^ 18 := Nat.pow_le_pow_right (by decide) q
  obtain ⟨t, ht⟩ : ∃ t, t = 10 ^ i := ⟨_, rfl⟩
  rw [Nat.pow_succ, ← ht] at h9 ⊢
  rw [← ht] at hp
  rw [Int64.toInt_mul, hp, show (10 : Int64).toInt = 10 by decide, Int.bmod_eq_of_le (by omega) (by omega)]; omega
def dig (n k : Nat) : Int32 := Int32.ofNat (48 + n / 10 ^ k % 10)
def dgL (n : Nat) : List Int32 := (List.range (szL n)).map fun i => dig n (szL n - 1 - i)
def num (sg n : Nat) : List Int32 := List.replicate sg 45 ++ dgL n
theorem dig_b (n k : Nat) : 0 ≤ (dig n k).toInt ∧ (dig n k).toInt < 128 := by
  unfold dig; rw [Int32.toInt_ofNat_of_lt (by omega)]; omega
theorem dgL_l (n : Nat) : (dgL n).length = szL n := by simp [dgL]
theorem num_l (sg n : Nat) : (num sg n).length = sg + szL n := by simp [num, dgL_l]
theorem own_gl {xs ys : List Int32} {j : Nat} (h : j < xs.length) : (xs ++ ys).getD j 0 = xs.getD j 0 := by simp [List.getD_eq_getElem?_getD, List.getElem?_append_left h]
theorem own_gr {xs ys : List Int32} {i j : Nat} (h : i = xs.length + j) : (xs ++ ys).getD i 0 = ys.getD j 0 := by subst h; rw [List.getD_eq_getElem?_getD, List.getD_eq_getElem?_getD, List.getElem?_append_right (Nat.le_add_right _ _), Nat.add_sub_cancel_left]
theorem own_get {xs : List Int32} {j : Nat} {v : Int32} (h : j < xs.length) (e : xs.getD j 0 = v) : xs[j] = v := by rw [← e]; simp [List.getD_eq_getElem?_getD, h]
theorem dgL_at {n j : Nat} (h : j < szL n) : (dgL n).getD j 0 = dig n (szL n - 1 - j) := by simp [dgL, List.getD_eq_getElem?_getD, h]
theorem num_s {sg n j : Nat} (h : j < sg) : (num sg n).getD j 0 = 45 := by
  unfold num; rw [own_gl (by simpa using h)]; simp [List.getD_eq_getElem?_getD, h]
theorem num_d {sg n k : Nat} (h : k < szL n) : (num sg n).getD (sg + szL n - 1 - k) 0 = dig n k := by
  unfold num; rw [own_gr (j := szL n - 1 - k) (by simp; omega), dgL_at (by omega)]; congr 1; omega
theorem num_a (sg n : Nat) : ∀ x ∈ num sg n, 0 ≤ x.toInt ∧ x.toInt < 128 := by
  intro x hx
  rcases List.mem_append.mp hx with hx | hx
  · rw [List.eq_of_mem_replicate hx]; decide
  · obtain ⟨i, -, rfl⟩ := List.mem_map.mp hx
    exact dig_b _ _
theorem own_split {vs : List Value} {xs : List Int32} {ys : List Value} {n sg cn : Nat} (l : vs.length = cn) (hf : xs.length + (sg + szL n) ≤ cn) (h1 : ∀ j, j < xs.length → vs.getD j (.int 0) = (xs.map Value.int ++ ys).getD j (.int 0)) (h3 : ∀ j, j < sg → vs.getD (xs.length + j) (.int 0) = .int 45) (h2 : ∀ k, k < szL n → vs.getD (xs.length + (sg + szL n) - 1 - k) (.int 0) = .int (dig n k)) : vs = (xs ++ num sg n).map Value.int ++ vs.drop (xs.length + (sg + szL n)) := by
  have e : vs.take (xs.length + (sg + szL n)) = (xs ++ num sg n).map Value.int := by
    apply List.ext_getElem
    · rw [List.length_take, List.length_map, List.length_append, num_l]; omega
    · intro j hj hj2
      have hj3 : j < xs.length + (sg + szL n) := by rw [List.length_map, List.length_append, num_l] at hj2; exact hj2
      have hv : vs.getD j (.int 0) = vs[j]'(by omega) := by simp [List.getD_eq_getElem?_getD, show j < vs.length by omega]
      rw [List.getElem_take, ← hv, List.getElem_map]
      by_cases q : j < xs.length
      · rw [h1 j q]; simp [List.getD_eq_getElem?_getD, q, List.getElem?_append_left, List.getElem_append_left]
      · rw [List.getElem_append_right (by omega)]
        have hg : ∀ (i : Nat) (hi : i < (num sg n).length), (num sg n)[i] = (num sg n).getD i 0 := fun i hi => (own_get hi rfl)
        rw [hg]
        by_cases q2 : j - xs.length < sg
        · rw [num_s q2, ← h3 _ q2, show xs.length + (j - xs.length) = j by omega]
        · have hk := h2 (xs.length + (sg + szL n) - 1 - j) (by omega)
          rw [show xs.length + (sg + szL n) - 1 - (xs.length + (sg + szL n) - 1 - j) = j by omega] at hk
          rw [hk, ← num_d (sg := sg) (n := n) (by omega), show sg + szL n - 1 - (xs.length + (sg + szL n) - 1 - j) = j - xs.length by omega]
  rw [← e, List.take_append_drop]
def msg (sg n : Nat) (ns : List Int32) : List Int32 := (((([108, 105, 110, 101, 32] : List Int32) ++ num sg n) ++ [58, 32, 110, 111, 116, 32]) ++ ns) ++ [32, 116, 101, 120, 116]
theorem msg_l (sg n : Nat) (ns : List Int32) : (msg sg n ns).length = 16 + (sg + szL n) + ns.length := by simp only [msg, List.length_append, num_l, List.length_cons, List.length_nil]; omega
theorem msg_a {sg n : Nat} {ns : List Int32} (h : ∀ x ∈ ns, 0 ≤ x.toInt ∧ x.toInt < 128) : ∀ x ∈ msg sg n ns, 0 ≤ x.toInt ∧ x.toInt < 128 := by
  intro x hx
  unfold msg at hx
  rcases List.mem_append.mp hx with hx | hx
  · rcases List.mem_append.mp hx with hx | hx
    · rcases List.mem_append.mp hx with hx | hx
      · rcases List.mem_append.mp hx with hx | hx
        · exact (by decide : ∀ x ∈ ([108, 105, 110, 101, 32] : List Int32), 0 ≤ x.toInt ∧ x.toInt < 128) x hx
        · exact num_a _ _ x hx
      · exact (by decide : ∀ x ∈ ([58, 32, 110, 111, 116, 32] : List Int32), 0 ≤ x.toInt ∧ x.toInt < 128) x hx
    · exact h x hx
  · exact (by decide : ∀ x ∈ ([32, 116, 101, 120, 116] : List Int32), 0 ≤ x.toInt ∧ x.toInt < 128) x hx
theorem msg_0 (sg n : Nat) (ns : List Int32) (j : Nat) (h : j < 5) : (msg sg n ns).getD (0 + j) 0 = ([108, 105, 110, 101, 32] : List Int32).getD j 0 := by
  unfold msg
  rw [Nat.zero_add, own_gl (by simp only [List.length_append, num_l, List.length_cons, List.length_nil]; omega), own_gl (by simp only [List.length_append, num_l, List.length_cons, List.length_nil]; omega), own_gl (by simp only [List.length_append, num_l, List.length_cons, List.length_nil]; omega), own_gl (by simp only [List.length_cons, List.length_nil]; omega)]
theorem msg_num (sg n : Nat) (ns : List Int32) (j : Nat) (h : j < sg + szL n) : (msg sg n ns).getD (5 + j) 0 = (num sg n).getD j 0 := by
  unfold msg
  rw [own_gl (by simp only [List.length_append, num_l, List.length_cons, List.length_nil]; omega), own_gl (by simp only [List.length_append, num_l, List.length_cons, List.length_nil]; omega), own_gl (by simp only [List.length_append, num_l, List.length_cons, List.length_nil]; omega), own_gr (show 5 + j = ([108, 105, 110, 101, 32] : List Int32).length + j from rfl)]
theorem msg_s (n : Nat) (ns : List Int32) : (msg 1 n ns).getD 5 0 = 45 := by
  rw [show 5 = 5 + 0 from rfl, msg_num _ _ _ 0 (by omega), num_s (by decide)]
theorem msg_d (sg n : Nat) (ns : List Int32) (k : Nat) (h : k < szL n) : (msg sg n ns).getD (5 + sg + szL n - 1 - k) 0 = dig n k := by
  rw [show 5 + sg + szL n - 1 - k = 5 + (sg + szL n - 1 - k) by omega, msg_num _ _ _ _ (by omega), num_d h]
theorem msg_not (sg n : Nat) (ns : List Int32) (j : Nat) (h : j < 6) : (msg sg n ns).getD (5 + sg + szL n + j) 0 = ([58, 32, 110, 111, 116, 32] : List Int32).getD j 0 := by
  unfold msg
  rw [own_gl (by simp only [List.length_append, num_l, List.length_cons, List.length_nil]; omega), own_gl (by simp only [List.length_append, num_l, List.length_cons, List.length_nil]; omega), own_gr (j := j) (by simp only [List.length_append, num_l, List.length_cons, List.length_nil]; omega)]
theorem msg_nm (sg n : Nat) (ns : List Int32) (j : Nat) (h : j < ns.length) : (msg sg n ns).getD (5 + sg + szL n + 6 + j) 0 = ns.getD j 0 := by
  unfold msg
  rw [own_gl (by simp only [List.length_append, num_l, List.length_cons, List.length_nil]; omega), own_gr (j := j) (by simp only [List.length_append, num_l, List.length_cons, List.length_nil]; omega)]
theorem msg_tx (sg n : Nat) (ns : List Int32) (j : Nat) (h : j < 5) : (msg sg n ns).getD (5 + sg + szL n + 6 + ns.length + j) 0 = ([32, 116, 101, 120, 116] : List Int32).getD j 0 := by
  unfold msg
  rw [own_gr (j := j) (by simp only [List.length_append, num_l, List.length_cons, List.length_nil]; omega)]
theorem d_jdk_35_method_15_code_13 : decode jdk_35_method_15_code 13 = .ok (.ldc2_w 140, 3) := by decide +kernel
theorem w173 {Z : State} {a0 : Array Value} (hw : Tb a0 Z) : (Jvm.Cond.constantLong "java/lang/Long" (140 : Nat) (-10 : Int64)).before a0 Z = true := hw _ (List.mem_of_getElem? (i := 173) rfl)
theorem d_jdk_35_method_15_code_16 : decode jdk_35_method_15_code 16 = .ok (.lstore_n 3, 1) := by decide +kernel
theorem d_jdk_35_method_15_code_17 : decode jdk_35_method_15_code 17 = .ok (.iconst 1, 1) := by decide +kernel
theorem d_jdk_35_method_15_code_18 : decode jdk_35_method_15_code 18 = .ok (.istore 5, 2) := by decide +kernel
theorem d_jdk_35_method_15_code_20 : decode jdk_35_method_15_code 20 = .ok (.iload 5, 2) := by decide +kernel
theorem d_jdk_35_method_15_code_22 : decode jdk_35_method_15_code 22 = .ok (.bipush 19, 2) := by decide +kernel
theorem d_jdk_35_method_15_code_24 : decode jdk_35_method_15_code 24 = .ok (.if_icmp .ge 26, 3) := by decide +kernel
theorem d_jdk_35_method_15_code_50 : decode jdk_35_method_15_code 50 = .ok (.bipush 19, 2) := by decide +kernel
theorem d_jdk_35_method_15_code_52 : decode jdk_35_method_15_code 52 = .ok (.iload_n 2, 1) := by decide +kernel
theorem d_jdk_35_method_15_code_53 : decode jdk_35_method_15_code 53 = .ok (.iadd, 1) := by decide +kernel
theorem d_jdk_35_method_15_code_54 : decode jdk_35_method_15_code 54 = .ok (.ireturn, 1) := by decide +kernel
theorem d_jdk_35_method_15_code_27 : decode jdk_35_method_15_code 27 = .ok (.lload_n 0, 1) := by decide +kernel
theorem d_jdk_35_method_15_code_28 : decode jdk_35_method_15_code 28 = .ok (.lload_n 3, 1) := by decide +kernel
theorem d_jdk_35_method_15_code_29 : decode jdk_35_method_15_code 29 = .ok (.lcmp, 1) := by decide +kernel
theorem d_jdk_35_method_15_code_30 : decode jdk_35_method_15_code 30 = .ok (.ifCond .le 8, 3) := by decide +kernel
theorem d_jdk_35_method_15_code_38 : decode jdk_35_method_15_code 38 = .ok (.ldc2_w 53, 3) := by decide +kernel
theorem w320 {Z : State} {a0 : Array Value} (hw : Tb a0 Z) : (Jvm.Cond.constantLong "java/lang/Long" (53 : Nat) (10 : Int64)).before a0 Z = true := hw _ (List.mem_of_getElem? (i := 320) rfl)
theorem d_jdk_35_method_15_code_41 : decode jdk_35_method_15_code 41 = .ok (.lload_n 3, 1) := by decide +kernel
theorem d_jdk_35_method_15_code_42 : decode jdk_35_method_15_code 42 = .ok (.lmul, 1) := by decide +kernel
theorem d_jdk_35_method_15_code_43 : decode jdk_35_method_15_code 43 = .ok (.lstore_n 3, 1) := by decide +kernel
theorem d_jdk_35_method_15_code_44 : decode jdk_35_method_15_code 44 = .ok (.iinc 5 1, 3) := by decide +kernel
theorem d_jdk_35_method_15_code_47 : decode jdk_35_method_15_code 47 = .ok (.goto (-27), 3) := by decide +kernel
theorem d_jdk_35_method_15_code_33 : decode jdk_35_method_15_code 33 = .ok (.iload 5, 2) := by decide +kernel
theorem d_jdk_35_method_15_code_35 : decode jdk_35_method_15_code 35 = .ok (.iload_n 2, 1) := by decide +kernel
theorem d_jdk_35_method_15_code_36 : decode jdk_35_method_15_code 36 = .ok (.iadd, 1) := by decide +kernel
theorem d_jdk_35_method_15_code_37 : decode jdk_35_method_15_code 37 = .ok (.ireturn, 1) := by decide +kernel
theorem d_jdk_35_method_15_code_0 : decode jdk_35_method_15_code 0 = .ok (.iconst 1, 1) := by decide +kernel
theorem d_jdk_35_method_15_code_1 : decode jdk_35_method_15_code 1 = .ok (.istore_n 2, 1) := by decide +kernel
theorem d_jdk_35_method_15_code_2 : decode jdk_35_method_15_code 2 = .ok (.lload_n 0, 1) := by decide +kernel
theorem d_jdk_35_method_15_code_3 : decode jdk_35_method_15_code 3 = .ok (.lconst 0, 1) := by decide +kernel
theorem d_jdk_35_method_15_code_4 : decode jdk_35_method_15_code 4 = .ok (.lcmp, 1) := by decide +kernel
theorem d_jdk_35_method_15_code_5 : decode jdk_35_method_15_code 5 = .ok (.ifCond .lt 8, 3) := by decide +kernel
theorem d_jdk_35_method_15_code_8 : decode jdk_35_method_15_code 8 = .ok (.iconst 0, 1) := by decide +kernel
theorem d_jdk_35_method_15_code_9 : decode jdk_35_method_15_code 9 = .ok (.istore_n 2, 1) := by decide +kernel
theorem d_jdk_35_method_15_code_10 : decode jdk_35_method_15_code 10 = .ok (.lload_n 0, 1) := by decide +kernel
theorem d_jdk_35_method_15_code_11 : decode jdk_35_method_15_code 11 = .ok (.lneg, 1) := by decide +kernel
theorem d_jdk_35_method_15_code_12 : decode jdk_35_method_15_code 12 = .ok (.lstore_n 0, 1) := by decide +kernel
theorem pl_java_lang_Long : plainName "java/lang/Long" = true := by first | (simp [plainName, overriddenIn]; done) | decide +kernel
set_option maxRecDepth 65536 in
set_option maxHeartbeats 40000000 in
theorem c_lssize (l : Launch) (Z : State) (a0 : Array Value) (hw : Tb a0 Z) (hEW : EW Z a0 EL0) (n0 : Nat) (x : Int64) (n sg : Nat) (h0 : Heap) (O : Old Z n0 h0) (hx : Sg x n sg) :
    Ct l Z EL0 n0 (⟨"java/lang/Long", "stringSize", "(J)I"⟩ : MethodName) jdk_35_method_15_code 6 (some .int) ({ frames := 0, cells := 0, slots := 0, locals := 0 } : Room) #[(.long x)] h0 [] (Pu (some (.int (Int32.ofNat (szL n + sg)))) h0) := by
  refine Ct.of (a0 := a0) #[.val (.long x), .second, .unset, .unset, .unset, .unset] hEW O (plainFor_of_name pl_java_lang_Long) (fun m => by first | (simp [entryFrame, mkF, argsToLocals, Value.category]; done) | rfl) ?_
  intro p_ e_ s_ m_ below_ meth_ c_ b_ T_ K hSP hsh
  have hb := sg_b hx
  have hso := own_of (n := sg) (by omega)
  have J13 : ∀ (xm : Int64) (hm : xm.toInt = -(n : Int)) (b68 T68 : State) (L68 : List Loc), Wk p_ l e_ ({ frames := 0, cells := 0, slots := 0, locals := 0 } : Room) s_ m_ #[(.long x)] below_ meth_ c_ Z a0 EL0 n0 (⟨"java/lang/Long", "stringSize", "(J)I"⟩ : MethodName) jdk_35_method_15_code 6 (some .int) b68 T68 h0 L68 0 0 → Goes p_.tables e_ below_ (FinW Z EL0 s_ n0 ({ frames := 0, cells := 0, slots := 0, locals := 0 } : Room) (Pu (some (.int (Int32.ofNat (szL n + sg)))) h0)) (T68.setTop (mkF m_ 13 #[.val (.long xm), .second, .val (.int (Int32.ofNat sg)), .unset, .unset, .unset] [])) := by
    intro xm hm b68 T68 L68 K68
    refine k_ldcJ K68 (w173 hw) d_jdk_35_method_15_code_13 (pc' := 16) rfl ?_
    refine k_lstoreN K68 d_jdk_35_method_15_code_16 (pc' := 17) (L' := #[.val (.long xm), .second, .val (.int (Int32.ofNat sg)), .val (.long (-10 : Int64)), .second, .unset]) rfl rfl ?_
    refine k_iconst K68 (1 : Int32) d_jdk_35_method_15_code_17 (pc' := 18) rfl rfl ?_
    refine k_istore K68 d_jdk_35_method_15_code_18 (pc' := 20) (L' := #[.val (.long xm), .second, .val (.int (Int32.ofNat sg)), .val (.long (-10 : Int64)), .second, .val (.int (1 : Int32))]) rfl rfl ?_
    have LOOP : ∀ (k : Nat) (iN : Nat) (p : Int64) (hk : iN + k = 19) (h1 : 1 ≤ iN) (hp : iN ≤ 18 → p.toInt = -((10 ^ iN : Nat) : Int)) (hsz : szL n = szF k iN n) (bl Tl : State) (hl : Heap) (Ll : List Loc), Wk p_ l e_ ({ frames := 0, cells := 0, slots := 0, locals := 0 } : Room) s_ m_ #[(.long x)] below_ meth_ c_ Z a0 EL0 n0 (⟨"java/lang/Long", "stringSize", "(J)I"⟩ : MethodName) jdk_35_method_15_code 6 (some .int) bl Tl hl Ll 0 0 → (hl = h0) → Goes p_.tables e_ below_ (FinW Z EL0 s_ n0 ({ frames := 0, cells := 0, slots := 0, locals := 0 } : Room) (Pu (some (.int (Int32.ofNat (szL n + sg)))) h0)) (Tl.setTop (mkF m_ 20 #[.val (.long xm), .second, .val (.int (Int32.ofNat sg)), .val (.long p), .second, .val (.int (Int32.ofNat iN))] [])) := by
      intro k
      induction k with
      | zero =>
        intro iN p hk h1 hp hsz bl Tl hl Ll Kl ehl
        subst ehl
        have hN : iN = 19 := by omega
        refine k_iload Kl d_jdk_35_method_15_code_20 (pc' := 22) rfl rfl ?_
        refine k_bipush Kl (19 : Int32) d_jdk_35_method_15_code_22 (pc' := 24) rfl rfl ?_
        refine k_icmp_ge Kl d_jdk_35_method_15_code_24 (by decide) (pc' := 50) (pc2 := 27) (by decide) rfl (fun hc24 => ?_) (fun q => absurd q (by rw [hN]; decide))
        have e : szL n = 19 := by rw [hsz, ← hN]; rfl
        refine k_bipush Kl (19 : Int32) d_jdk_35_method_15_code_50 (pc' := 52) rfl rfl ?_
        refine k_iloadN Kl d_jdk_35_method_15_code_52 (pc' := 53) rfl rfl ?_
        refine k_iadd Kl d_jdk_35_method_15_code_53 (pc' := 54) rfl ?_
        exact k_iret Kl d_jdk_35_method_15_code_54 rfl (fun sf ht => ⟨by rw [show (19 : Int32) + Int32.ofNat sg = Int32.ofNat (szL n + sg) from by rw [e]; exact own_sumN (a := 19) hso (by omega)], rfl⟩) (by decide) (by decide)
      | succ k ih =>
        intro iN p hk h1 hp hsz bl Tl hl Ll Kl ehl
        subst ehl
        have hi18 : iN ≤ 18 := by omega
        refine k_iload Kl d_jdk_35_method_15_code_20 (pc' := 22) rfl rfl ?_
        refine k_bipush Kl (19 : Int32) d_jdk_35_method_15_code_22 (pc' := 24) rfl rfl ?_
        refine k_icmp_ge Kl d_jdk_35_method_15_code_24 (by decide) (pc' := 50) (pc2 := 27) (by decide) rfl (fun q => absurd (by rw [own_i32, own_of (by omega), show (19 : Int32).toInt = 19 by decide]; omega) q) (fun hc24 => ?_)
        refine k_lloadN Kl d_jdk_35_method_15_code_27 (pc' := 28) rfl rfl ?_
        refine k_lloadN Kl d_jdk_35_method_15_code_28 (pc' := 29) rfl rfl ?_
        refine k_lcmp Kl d_jdk_35_method_15_code_29 (pc' := 30) rfl ?_
        refine k_lif_le Kl d_jdk_35_method_15_code_30 (by decide) (pc' := 38) (pc2 := 33) (by decide) rfl (fun hc30 => ?_) (fun hc30 => ?_)
        · have hge : ¬ n < 10 ^ iN := fun q => hc30 (by rw [own_i64, hp hi18, hm]; exact Int.neg_lt_neg (Int.ofNat_lt.mpr q))
          refine k_ldcJ Kl (w320 hw) d_jdk_35_method_15_code_38 (pc' := 41) rfl ?_
          refine k_lloadN Kl d_jdk_35_method_15_code_41 (pc' := 42) rfl rfl ?_
          refine k_lmul Kl d_jdk_35_method_15_code_42 (pc' := 43) rfl ?_
          refine k_lstoreN Kl d_jdk_35_method_15_code_43 (pc' := 44) (L' := #[.val (.long xm), .second, .val (.int (Int32.ofNat sg)), .val (.long ((10 : Int64) * p)), .second, .val (.int (Int32.ofNat iN))]) rfl rfl ?_
          refine k_iinc Kl (1 : Int32) d_jdk_35_method_15_code_44 (pc' := 47) (L' := #[.val (.long xm), .second, .val (.int (Int32.ofNat sg)), .val (.long ((10 : Int64) * p)), .second, .val (.int ((Int32.ofNat iN) + (1 : Int32)))]) rfl rfl rfl rfl ?_
          refine k_goto Kl d_jdk_35_method_15_code_47 (by decide) (pc' := 20) (by decide) ?_
          rw [own_sumN (a := iN) (b := 1) (show (1 : Int32).toInt = (1 : Nat) by decide) (by omega)]
          exact ih (iN + 1) _ (by omega) (by omega) (fun q => own_p10 (hp hi18) q) (by rw [hsz, szF_s hge]) _ _ _ _ Kl rfl
        · have hlt : n < 10 ^ iN := by rw [own_i64, hp hi18, hm] at hc30; exact Int.ofNat_lt.mp (Int.lt_of_neg_lt_neg hc30)
          have e : szL n = iN := by rw [hsz, szF_p hlt]
          refine k_iload Kl d_jdk_35_method_15_code_33 (pc' := 35) rfl rfl ?_
          refine k_iloadN Kl d_jdk_35_method_15_code_35 (pc' := 36) rfl rfl ?_
          refine k_iadd Kl d_jdk_35_method_15_code_36 (pc' := 37) rfl ?_
          exact k_iret Kl d_jdk_35_method_15_code_37 rfl (fun sf ht => ⟨by rw [show Int32.ofNat iN + Int32.ofNat sg = Int32.ofNat (szL n + sg) from by rw [e]; exact own_sumN hso (by omega)], rfl⟩) (by decide) (by decide)
    exact LOOP 18 1 (-10) rfl (by decide) (fun _ => by decide) rfl _ _ _ _ K68 rfl
  refine k_iconst K (1 : Int32) d_jdk_35_method_15_code_0 (pc' := 1) rfl rfl ?_
  refine k_istoreN K d_jdk_35_method_15_code_1 (pc' := 2) (L' := #[.val (.long x), .second, .val (.int (1 : Int32)), .unset, .unset, .unset]) rfl rfl ?_
  refine k_lloadN K d_jdk_35_method_15_code_2 (pc' := 3) rfl rfl ?_
  refine k_lconst K (0 : Int64) d_jdk_35_method_15_code_3 (pc' := 4) rfl rfl ?_
  refine k_lcmp K d_jdk_35_method_15_code_4 (pc' := 5) rfl ?_
  refine k_lif_lt K d_jdk_35_method_15_code_5 (by decide) (pc' := 13) (pc2 := 8) (by decide) rfl (fun hc5 => ?_) (fun hc5 => ?_)
  · obtain ⟨hm, rfl⟩ : x.toInt = -(n : Int) ∧ sg = 1 := by
      rcases hx with ⟨h, h2, -⟩ | ⟨h, h2⟩
      · exact ⟨h, h2⟩
      · rw [own_i64, own_00] at hc5; omega
    exact J13 x hm _ _ _ K
  · refine k_iconst K (0 : Int32) d_jdk_35_method_15_code_8 (pc' := 9) rfl rfl ?_
    refine k_istoreN K d_jdk_35_method_15_code_9 (pc' := 10) (L' := #[.val (.long x), .second, .val (.int (0 : Int32)), .unset, .unset, .unset]) rfl rfl ?_
    refine k_lloadN K d_jdk_35_method_15_code_10 (pc' := 11) rfl rfl ?_
    refine k_lneg K d_jdk_35_method_15_code_11 (pc' := 12) rfl ?_
    refine k_lstoreN K d_jdk_35_method_15_code_12 (pc' := 13) (L' := #[.val (.long (-x)), .second, .val (.int (0 : Int32)), .unset, .unset, .unset]) rfl rfl ?_
    obtain ⟨hm, rfl⟩ : (-x).toInt = -(n : Int) ∧ sg = 0 := by
      rcases hx with ⟨h, h2, h3⟩ | ⟨h, h2⟩
      · rw [own_i64, own_00] at hc5; omega
      · exact ⟨own_neg64 h, h2⟩
    exact J13 (-x) hm _ _ _ K
theorem own_div100 {x : Int32} {m : Nat} (h : x.toInt = -(m : Int)) : (x / 100).toInt = -((m / 100 : Nat) : Int) := by
  have hl : -2 ^ 31 ≤ x.toInt := Int32.le_toInt x
  rw [Int32.toInt_div, h, show (100 : Int32).toInt = ((100 : Nat) : Int) by decide, Int.neg_tdiv, ← Int.ofNat_tdiv]
  rw [h] at hl
  have hm : m ≤ 2147483648 := by omega
  exact Int.bmod_eq_of_le (by omega) (by omega)
theorem own_r100 {x : Int32} {m : Nat} (h : x.toInt = -(m : Int)) : (x / 100 * 100 - x).toInt = ((m % 100 : Nat) : Int) := by
  have hl : -2 ^ 31 ≤ x.toInt := Int32.le_toInt x
  have e := own_div100 h
  rw [h] at hl
  have e2 : (x / 100 * 100).toInt = -((100 * (m / 100) : Nat) : Int) := by
    rw [Int32.toInt_mul, e, show (100 : Int32).toInt = 100 by decide, Int.bmod_eq_of_le (by omega) (by omega)]; omega
  rw [Int32.toInt_sub, e2, h, Int.bmod_eq_of_le (by omega) (by omega)]; omega
theorem own_nb {v : Nat} (h : v < 128) : nar .byte (Int32.ofNat v) = Int32.ofNat v := by
  have := (by decide : ∀ v : Fin 128, nar .byte (Int32.ofNat v.val) = Int32.ofNat v.val) ⟨v, h⟩
  exact this
theorem own_gs {vs : List Value} {i j : Nat} {v d : Value} (h : i < vs.length) : (vs.set i v).getD j d = if j = i then v else vs.getD j d := by
  by_cases q : j = i
  · subst q; simp [List.getD_eq_getElem?_getD, h]
  · rw [if_neg q]; simp [List.getD_eq_getElem?_getD, List.getElem?_set, Ne.symm q, show ¬ i = j from fun e => q e.symm]
theorem d_jdk_35_method_14_code_178 : decode jdk_35_method_14_code 178 = .ok (.iload 8, 2) := by decide +kernel
theorem d_jdk_35_method_14_code_180 : decode jdk_35_method_14_code 180 = .ok (.ifCond .eq 12, 3) := by decide +kernel
theorem d_jdk_35_method_14_code_192 : decode jdk_35_method_14_code 192 = .ok (.iload 7, 2) := by decide +kernel
theorem d_jdk_35_method_14_code_194 : decode jdk_35_method_14_code 194 = .ok (.ireturn, 1) := by decide +kernel
theorem d_jdk_35_method_14_code_183 : decode jdk_35_method_14_code 183 = .ok (.aload_n 3, 1) := by decide +kernel
theorem d_jdk_35_method_14_code_184 : decode jdk_35_method_14_code 184 = .ok (.iinc 7 (-1), 3) := by decide +kernel
theorem d_jdk_35_method_14_code_187 : decode jdk_35_method_14_code 187 = .ok (.iload 7, 2) := by decide +kernel
theorem d_jdk_35_method_14_code_189 : decode jdk_35_method_14_code 189 = .ok (.bipush 45, 2) := by decide +kernel
theorem d_jdk_35_method_14_code_191 : decode jdk_35_method_14_code 191 = .ok (.bastore, 1) := by decide +kernel
theorem d_jdk_35_method_14_code_86 : decode jdk_35_method_14_code 86 = .ok (.iload 10, 2) := by decide +kernel
theorem d_jdk_35_method_14_code_88 : decode jdk_35_method_14_code 88 = .ok (.bipush (-100), 2) := by decide +kernel
theorem d_jdk_35_method_14_code_90 : decode jdk_35_method_14_code 90 = .ok (.if_icmp .gt 53, 3) := by decide +kernel
theorem d_jdk_35_method_14_code_143 : decode jdk_35_method_14_code 143 = .ok (.aload_n 3, 1) := by decide +kernel
theorem d_jdk_35_method_14_code_144 : decode jdk_35_method_14_code 144 = .ok (.iinc 7 (-1), 3) := by decide +kernel
theorem d_jdk_35_method_14_code_147 : decode jdk_35_method_14_code 147 = .ok (.iload 7, 2) := by decide +kernel
theorem d_jdk_35_method_14_code_149 : decode jdk_35_method_14_code 149 = .ok (.getstatic 133, 3) := by decide +kernel
theorem w183 {Z : State} {a0 : Array Value} (hw : Tb a0 Z) : (Jvm.Cond.fieldLink "java/lang/Long" (133 : Nat) "java/lang/Integer" "DigitOnes" "[B").before a0 Z = true := hw _ (List.mem_of_getElem? (i := 183) rfl)
theorem d_jdk_35_method_14_code_152 : decode jdk_35_method_14_code 152 = .ok (.iload 10, 2) := by decide +kernel
theorem d_jdk_35_method_14_code_154 : decode jdk_35_method_14_code 154 = .ok (.ineg, 1) := by decide +kernel
theorem d_jdk_35_method_14_code_155 : decode jdk_35_method_14_code 155 = .ok (.baload, 1) := by decide +kernel
theorem d_jdk_35_method_14_code_156 : decode jdk_35_method_14_code 156 = .ok (.bastore, 1) := by decide +kernel
theorem d_jdk_35_method_14_code_157 : decode jdk_35_method_14_code 157 = .ok (.iload 10, 2) := by decide +kernel
theorem d_jdk_35_method_14_code_159 : decode jdk_35_method_14_code 159 = .ok (.bipush (-9), 2) := by decide +kernel
theorem d_jdk_35_method_14_code_161 : decode jdk_35_method_14_code 161 = .ok (.if_icmp .ge 17, 3) := by decide +kernel
theorem d_jdk_35_method_14_code_164 : decode jdk_35_method_14_code 164 = .ok (.aload_n 3, 1) := by decide +kernel
theorem d_jdk_35_method_14_code_165 : decode jdk_35_method_14_code 165 = .ok (.iinc 7 (-1), 3) := by decide +kernel
theorem d_jdk_35_method_14_code_168 : decode jdk_35_method_14_code 168 = .ok (.iload 7, 2) := by decide +kernel
theorem d_jdk_35_method_14_code_170 : decode jdk_35_method_14_code 170 = .ok (.getstatic 137, 3) := by decide +kernel
theorem w322 {Z : State} {a0 : Array Value} (hw : Tb a0 Z) : (Jvm.Cond.fieldLink "java/lang/Long" (137 : Nat) "java/lang/Integer" "DigitTens" "[B").before a0 Z = true := hw _ (List.mem_of_getElem? (i := 322) rfl)
theorem d_jdk_35_method_14_code_173 : decode jdk_35_method_14_code 173 = .ok (.iload 10, 2) := by decide +kernel
theorem d_jdk_35_method_14_code_175 : decode jdk_35_method_14_code 175 = .ok (.ineg, 1) := by decide +kernel
theorem d_jdk_35_method_14_code_176 : decode jdk_35_method_14_code 176 = .ok (.baload, 1) := by decide +kernel
theorem d_jdk_35_method_14_code_177 : decode jdk_35_method_14_code 177 = .ok (.bastore, 1) := by decide +kernel
theorem d_jdk_35_method_14_code_93 : decode jdk_35_method_14_code 93 = .ok (.iload 10, 2) := by decide +kernel
theorem d_jdk_35_method_14_code_95 : decode jdk_35_method_14_code 95 = .ok (.bipush 100, 2) := by decide +kernel
theorem d_jdk_35_method_14_code_97 : decode jdk_35_method_14_code 97 = .ok (.idiv, 1) := by decide +kernel
theorem d_jdk_35_method_14_code_98 : decode jdk_35_method_14_code 98 = .ok (.istore 9, 2) := by decide +kernel
theorem d_jdk_35_method_14_code_100 : decode jdk_35_method_14_code 100 = .ok (.iload 9, 2) := by decide +kernel
theorem d_jdk_35_method_14_code_102 : decode jdk_35_method_14_code 102 = .ok (.bipush 100, 2) := by decide +kernel
theorem d_jdk_35_method_14_code_104 : decode jdk_35_method_14_code 104 = .ok (.imul, 1) := by decide +kernel
theorem d_jdk_35_method_14_code_105 : decode jdk_35_method_14_code 105 = .ok (.iload 10, 2) := by decide +kernel
theorem d_jdk_35_method_14_code_107 : decode jdk_35_method_14_code 107 = .ok (.isub, 1) := by decide +kernel
theorem d_jdk_35_method_14_code_108 : decode jdk_35_method_14_code 108 = .ok (.istore 6, 2) := by decide +kernel
theorem d_jdk_35_method_14_code_110 : decode jdk_35_method_14_code 110 = .ok (.iload 9, 2) := by decide +kernel
theorem d_jdk_35_method_14_code_112 : decode jdk_35_method_14_code 112 = .ok (.istore 10, 2) := by decide +kernel
theorem d_jdk_35_method_14_code_114 : decode jdk_35_method_14_code 114 = .ok (.aload_n 3, 1) := by decide +kernel
theorem d_jdk_35_method_14_code_115 : decode jdk_35_method_14_code 115 = .ok (.iinc 7 (-1), 3) := by decide +kernel
theorem d_jdk_35_method_14_code_118 : decode jdk_35_method_14_code 118 = .ok (.iload 7, 2) := by decide +kernel
theorem d_jdk_35_method_14_code_120 : decode jdk_35_method_14_code 120 = .ok (.getstatic 133, 3) := by decide +kernel
theorem d_jdk_35_method_14_code_123 : decode jdk_35_method_14_code 123 = .ok (.iload 6, 2) := by decide +kernel
theorem d_jdk_35_method_14_code_125 : decode jdk_35_method_14_code 125 = .ok (.baload, 1) := by decide +kernel
theorem d_jdk_35_method_14_code_126 : decode jdk_35_method_14_code 126 = .ok (.bastore, 1) := by decide +kernel
theorem d_jdk_35_method_14_code_127 : decode jdk_35_method_14_code 127 = .ok (.aload_n 3, 1) := by decide +kernel
theorem d_jdk_35_method_14_code_128 : decode jdk_35_method_14_code 128 = .ok (.iinc 7 (-1), 3) := by decide +kernel
theorem d_jdk_35_method_14_code_131 : decode jdk_35_method_14_code 131 = .ok (.iload 7, 2) := by decide +kernel
theorem d_jdk_35_method_14_code_133 : decode jdk_35_method_14_code 133 = .ok (.getstatic 137, 3) := by decide +kernel
theorem d_jdk_35_method_14_code_136 : decode jdk_35_method_14_code 136 = .ok (.iload 6, 2) := by decide +kernel
theorem d_jdk_35_method_14_code_138 : decode jdk_35_method_14_code 138 = .ok (.baload, 1) := by decide +kernel
theorem d_jdk_35_method_14_code_139 : decode jdk_35_method_14_code 139 = .ok (.bastore, 1) := by decide +kernel
theorem d_jdk_35_method_14_code_140 : decode jdk_35_method_14_code 140 = .ok (.goto (-54), 3) := by decide +kernel
theorem d_jdk_35_method_14_code_24 : decode jdk_35_method_14_code 24 = .ok (.lload_n 0, 1) := by decide +kernel
theorem d_jdk_35_method_14_code_25 : decode jdk_35_method_14_code 25 = .ok (.ldc2_w 129, 3) := by decide +kernel
theorem w182 {Z : State} {a0 : Array Value} (hw : Tb a0 Z) : (Jvm.Cond.constantLong "java/lang/Long" (129 : Nat) (-2147483648 : Int64)).before a0 Z = true := hw _ (List.mem_of_getElem? (i := 182) rfl)
theorem d_jdk_35_method_14_code_28 : decode jdk_35_method_14_code 28 = .ok (.lcmp, 1) := by decide +kernel
theorem d_jdk_35_method_14_code_29 : decode jdk_35_method_14_code 29 = .ok (.ifCond .gt 53, 3) := by decide +kernel
theorem d_jdk_35_method_14_code_82 : decode jdk_35_method_14_code 82 = .ok (.lload_n 0, 1) := by decide +kernel
theorem d_jdk_35_method_14_code_83 : decode jdk_35_method_14_code 83 = .ok (.l2i, 1) := by decide +kernel
theorem d_jdk_35_method_14_code_84 : decode jdk_35_method_14_code 84 = .ok (.istore 10, 2) := by decide +kernel
theorem d_jdk_35_method_14_code_32 : decode jdk_35_method_14_code 32 = .ok (.lload_n 0, 1) := by decide +kernel
theorem d_jdk_35_method_14_code_33 : decode jdk_35_method_14_code 33 = .ok (.ldc2_w 131, 3) := by decide +kernel
theorem w321 {Z : State} {a0 : Array Value} (hw : Tb a0 Z) : (Jvm.Cond.constantLong "java/lang/Long" (131 : Nat) (100 : Int64)).before a0 Z = true := hw _ (List.mem_of_getElem? (i := 321) rfl)
theorem d_jdk_35_method_14_code_36 : decode jdk_35_method_14_code 36 = .ok (.ldiv, 1) := by decide +kernel
theorem d_jdk_35_method_14_code_37 : decode jdk_35_method_14_code 37 = .ok (.lstore 4, 2) := by decide +kernel
theorem d_jdk_35_method_14_code_39 : decode jdk_35_method_14_code 39 = .ok (.lload 4, 2) := by decide +kernel
theorem d_jdk_35_method_14_code_41 : decode jdk_35_method_14_code 41 = .ok (.ldc2_w 131, 3) := by decide +kernel
theorem d_jdk_35_method_14_code_44 : decode jdk_35_method_14_code 44 = .ok (.lmul, 1) := by decide +kernel
theorem d_jdk_35_method_14_code_45 : decode jdk_35_method_14_code 45 = .ok (.lload_n 0, 1) := by decide +kernel
theorem d_jdk_35_method_14_code_46 : decode jdk_35_method_14_code 46 = .ok (.lsub, 1) := by decide +kernel
theorem d_jdk_35_method_14_code_47 : decode jdk_35_method_14_code 47 = .ok (.l2i, 1) := by decide +kernel
theorem d_jdk_35_method_14_code_48 : decode jdk_35_method_14_code 48 = .ok (.istore 6, 2) := by decide +kernel
theorem d_jdk_35_method_14_code_50 : decode jdk_35_method_14_code 50 = .ok (.lload 4, 2) := by decide +kernel
theorem d_jdk_35_method_14_code_52 : decode jdk_35_method_14_code 52 = .ok (.lstore_n 0, 1) := by decide +kernel
theorem d_jdk_35_method_14_code_53 : decode jdk_35_method_14_code 53 = .ok (.aload_n 3, 1) := by decide +kernel
theorem d_jdk_35_method_14_code_54 : decode jdk_35_method_14_code 54 = .ok (.iinc 7 (-1), 3) := by decide +kernel
theorem d_jdk_35_method_14_code_57 : decode jdk_35_method_14_code 57 = .ok (.iload 7, 2) := by decide +kernel
theorem d_jdk_35_method_14_code_59 : decode jdk_35_method_14_code 59 = .ok (.getstatic 133, 3) := by decide +kernel
theorem d_jdk_35_method_14_code_62 : decode jdk_35_method_14_code 62 = .ok (.iload 6, 2) := by decide +kernel
theorem d_jdk_35_method_14_code_64 : decode jdk_35_method_14_code 64 = .ok (.baload, 1) := by decide +kernel
theorem d_jdk_35_method_14_code_65 : decode jdk_35_method_14_code 65 = .ok (.bastore, 1) := by decide +kernel
theorem d_jdk_35_method_14_code_66 : decode jdk_35_method_14_code 66 = .ok (.aload_n 3, 1) := by decide +kernel
theorem d_jdk_35_method_14_code_67 : decode jdk_35_method_14_code 67 = .ok (.iinc 7 (-1), 3) := by decide +kernel
theorem d_jdk_35_method_14_code_70 : decode jdk_35_method_14_code 70 = .ok (.iload 7, 2) := by decide +kernel
theorem d_jdk_35_method_14_code_72 : decode jdk_35_method_14_code 72 = .ok (.getstatic 137, 3) := by decide +kernel
theorem d_jdk_35_method_14_code_75 : decode jdk_35_method_14_code 75 = .ok (.iload 6, 2) := by decide +kernel
theorem d_jdk_35_method_14_code_77 : decode jdk_35_method_14_code 77 = .ok (.baload, 1) := by decide +kernel
theorem d_jdk_35_method_14_code_78 : decode jdk_35_method_14_code 78 = .ok (.bastore, 1) := by decide +kernel
theorem d_jdk_35_method_14_code_79 : decode jdk_35_method_14_code 79 = .ok (.goto (-55), 3) := by decide +kernel
theorem d_jdk_35_method_14_code_0 : decode jdk_35_method_14_code 0 = .ok (.iload_n 2, 1) := by decide +kernel
theorem d_jdk_35_method_14_code_1 : decode jdk_35_method_14_code 1 = .ok (.istore 7, 2) := by decide +kernel
theorem d_jdk_35_method_14_code_3 : decode jdk_35_method_14_code 3 = .ok (.lload_n 0, 1) := by decide +kernel
theorem d_jdk_35_method_14_code_4 : decode jdk_35_method_14_code 4 = .ok (.lconst 0, 1) := by decide +kernel
theorem d_jdk_35_method_14_code_5 : decode jdk_35_method_14_code 5 = .ok (.lcmp, 1) := by decide +kernel
theorem d_jdk_35_method_14_code_6 : decode jdk_35_method_14_code 6 = .ok (.ifCond .ge 7, 3) := by decide +kernel
theorem d_jdk_35_method_14_code_13 : decode jdk_35_method_14_code 13 = .ok (.iconst 0, 1) := by decide +kernel
theorem d_jdk_35_method_14_code_14 : decode jdk_35_method_14_code 14 = .ok (.istore 8, 2) := by decide +kernel
theorem d_jdk_35_method_14_code_16 : decode jdk_35_method_14_code 16 = .ok (.iload 8, 2) := by decide +kernel
theorem d_jdk_35_method_14_code_18 : decode jdk_35_method_14_code 18 = .ok (.ifCond .ne 6, 3) := by decide +kernel
theorem d_jdk_35_method_14_code_21 : decode jdk_35_method_14_code 21 = .ok (.lload_n 0, 1) := by decide +kernel
theorem d_jdk_35_method_14_code_22 : decode jdk_35_method_14_code 22 = .ok (.lneg, 1) := by decide +kernel
theorem d_jdk_35_method_14_code_23 : decode jdk_35_method_14_code 23 = .ok (.lstore_n 0, 1) := by decide +kernel
theorem d_jdk_35_method_14_code_9 : decode jdk_35_method_14_code 9 = .ok (.iconst 1, 1) := by decide +kernel
theorem d_jdk_35_method_14_code_10 : decode jdk_35_method_14_code 10 = .ok (.goto 4, 3) := by decide +kernel
set_option maxRecDepth 65536 in
set_option maxHeartbeats 40000000 in
theorem c_lgetChars (l : Launch) (Z : State) (a0 : Array Value) (hw : Tb a0 Z) (hEW : EW Z a0 EL0) (n0 : Nat) (x : Int64) (n sg : Nat) (d : Addr) (kd : ClassId) (cp : Int32) (cn bs : Nat) (vs0 : List Value) (od td : Addr) (ko kt_ : ClassId) (OL TL : List Value) (h0 : Heap) (O : Old Z n0 h0) (hx : Sg x n sg) (hcp : cp.toInt = cn) (hcn : cn ≤ 142) (hvs : vs0.length = cn) (hfit : bs + (sg + szL n) ≤ cn) (V_d : Arv Z h0 d kd .byte cp vs0 (.int 0)) (ga_d : n0 ≤ d) (SO : Sta Z Z.heap "java/lang/Integer" "DigitOnes" "[B" (.ref od)) (VO : Arv Z Z.heap od ko .byte 100 OL (.int 0)) (hO : ∀ r, r < 100 → OL.getD r (.int 0) = .int (Int32.ofNat (48 + r % 10))) (ST_ : Sta Z Z.heap "java/lang/Integer" "DigitTens" "[B" (.ref td)) (VT_ : Arv Z Z.heap td kt_ .byte 100 TL (.int 0)) (hT : ∀ r, r < 100 → TL.getD r (.int 0) = .int (Int32.ofNat (48 + r / 10)))  :
    Ct l Z EL0 n0 (⟨"java/lang/Long", "getChars", "(JI[B)I"⟩ : MethodName) jdk_35_method_14_code 11 (some .int) ({ frames := 0, cells := 0, slots := 0, locals := 0 } : Room) #[(.long x), (.int (Int32.ofNat (bs + (sg + szL n)))), (.ref d)] h0 [d] (fun v h sf => ∃ r vs', v = some (.int r) ∧ Keep h0 h [d] ∧ Arv Z h d kd .byte cp vs' (.int 0) ∧ vs'.length = cn ∧ (∀ j, j < bs → vs'.getD j (.int 0) = vs0.getD j (.int 0)) ∧ (∀ j, j < sg → vs'.getD (bs + j) (.int 0) = .int 45) ∧ (∀ k, k < szL n → vs'.getD (bs + (sg + szL n) - 1 - k) (.int 0) = .int (dig n k))) := by
  refine Ct.of (a0 := a0) #[.val (.long x), .second, .val (.int (Int32.ofNat (bs + (sg + szL n)))), .val (.ref d), .unset, .unset, .unset, .unset, .unset, .unset, .unset] hEW O (plainFor_of_name pl_java_lang_Long) (fun m => by first | (simp [entryFrame, mkF, argsToLocals, Value.category]; done) | rfl) ?_
  intro p_ e_ s_ m_ below_ meth_ c_ b_ T_ K hSP hsh
  have KP := Keep.refl h0 [d]
  have sf_d := hSP d (by simp)
  have hb_ := sg_b hx
  have hn19 : n < 10 ^ 19 := by omega
  have hsz := szL_b n
  have hso := own_of (n := sg) (by omega)
  have J178 : ∀ (iL : Int64) (pos : Nat) (hpos : pos = bs + sg) (vs : List Value) (lvs : vs.length = cn) (hj : ∀ j, j < bs → vs.getD j (.int 0) = vs0.getD j (.int 0)) (hd_ : ∀ i, i < szL n → vs.getD (bs + (sg + szL n) - 1 - i) (.int 0) = .int (dig n i)) (s4 s5 s6 s9 s10 : Slot) (bl Tl : State) (hl : Heap) (Ll : List Loc), Wk p_ l e_ ({ frames := 0, cells := 0, slots := 0, locals := 0 } : Room) s_ m_ #[(.long x), (.int (Int32.ofNat (bs + (sg + szL n)))), (.ref d)] below_ meth_ c_ Z a0 EL0 n0 (⟨"java/lang/Long", "getChars", "(JI[B)I"⟩ : MethodName) jdk_35_method_14_code 11 (some .int) bl Tl hl Ll 0 0 → (Keep h0 hl [d]) → (Arv Z hl d kd .byte cp vs (.int 0)) → (Sfe Z EL0 bl.vm hl d) → Goes p_.tables e_ below_ (FinW Z EL0 s_ n0 ({ frames := 0, cells := 0, slots := 0, locals := 0 } : Room) (fun v h sf => ∃ r vs', v = some (.int r) ∧ Keep h0 h [d] ∧ Arv Z h d kd .byte cp vs' (.int 0) ∧ vs'.length = cn ∧ (∀ j, j < bs → vs'.getD j (.int 0) = vs0.getD j (.int 0)) ∧ (∀ j, j < sg → vs'.getD (bs + j) (.int 0) = .int 45) ∧ (∀ k, k < szL n → vs'.getD (bs + (sg + szL n) - 1 - k) (.int 0) = .int (dig n k)))) (Tl.setTop (mkF m_ 178 #[.val (.long iL), .second, .val (.int (Int32.ofNat (bs + (sg + szL n)))), .val (.ref d), s4, s5, s6, .val (.int (Int32.ofNat pos)), .val (.int (Int32.ofNat sg)), s9, s10] [])) := by
    intro iL pos hpos vs lvs hj hd_ s4 s5 s6 s9 s10 bl Tl hl Ll Kl KP V_d sf_d
    refine k_iload Kl d_jdk_35_method_14_code_178 (pc' := 180) rfl rfl ?_
    refine k_if_eq Kl d_jdk_35_method_14_code_180 (by decide) (pc' := 192) (pc2 := 183) (by decide) rfl (fun hc180 => ?_) (fun hc180 => ?_)
    · have hs0 : sg = 0 := by have q := congrArg Int32.toInt hc180; rw [hso, own_0] at q; omega
      refine k_iload Kl d_jdk_35_method_14_code_192 (pc' := 194) rfl rfl ?_
      exact k_iret Kl d_jdk_35_method_14_code_194 rfl (fun sf ht => ⟨_, _, rfl, KP, V_d, lvs, hj, fun j hj2 => absurd hj2 (by omega), hd_⟩) (by decide) (by decide)
    · have hs1 : sg = 1 := by
        have q : ¬ sg = 0 := fun q => hc180 (by rw [q]; rfl)
        omega
      refine k_aloadN Kl d_jdk_35_method_14_code_183 (pc' := 184) rfl rfl rfl ?_
      refine k_iinc Kl (-1 : Int32) d_jdk_35_method_14_code_184 (pc' := 187) (L' := #[.val (.long iL), .second, .val (.int (Int32.ofNat (bs + (sg + szL n)))), .val (.ref d), s4, s5, s6, .val (.int ((Int32.ofNat pos) + (-1 : Int32))), .val (.int (Int32.ofNat sg)), s9, s10]) rfl rfl rfl rfl ?_
      refine k_iload Kl d_jdk_35_method_14_code_187 (pc' := 189) rfl rfl ?_
      refine k_bipush Kl (45 : Int32) d_jdk_35_method_14_code_189 (pc' := 191) rfl rfl ?_
      have hp_ : Int32.ofNat (pos) + (-1) = Int32.ofNat (pos - 1) := own_i32e (by rw [XT.add32 (by rw [own_of (by omega), show (-1 : Int32).toInt = -1 by decide]; constructor <;> omega), own_of (by omega), own_of (by omega), show (-1 : Int32).toInt = -1 by decide]; omega)
      rw [hp_]
      have hpn := own_of (n := pos - 1) (by omega)
      refine k_bastore Kl (j := (Int32.ofNat (pos - 1))) V_d (own_in hpn hcp (by omega)) (by rw [own_clamp hpn, lvs]; omega) ga_d sf_d d_jdk_35_method_14_code_191 (pc' := 192) rfl ?_
      intro T70 h70 K70 W70 tr70 V70
      replace sf_d := tr70 d V_d.lt sf_d
      replace KP := KP.wr W70 (Or.inl (by simp))
      replace V_d := V70
      rw [own_clamp hpn, show nar .byte (45 : Int32) = 45 from rfl] at V_d
      refine k_iload K70 d_jdk_35_method_14_code_192 (pc' := 194) rfl rfl ?_
      exact k_iret K70 d_jdk_35_method_14_code_194 rfl (fun sf ht => ⟨_, _, rfl, KP, V_d, by rw [List.length_set, lvs], fun j hj2 => by rw [own_gs (by rw [lvs]; omega), if_neg (by omega)]; exact hj j hj2, fun j hj2 => by rw [own_gs (by rw [lvs]; omega), if_pos (by omega)], fun i hi => by rw [own_gs (by rw [lvs]; omega), if_neg (by omega)]; exact hd_ i hi⟩) (by decide) (by decide)
  have LOOP2 : ∀ (k : Nat) (iL : Int64) (ii : Int32) (m c pos : Nat) (hm : ii.toInt = -(m : Int)) (hmn : m = n / 10 ^ c) (hm1 : 1 ≤ m ∨ c = 0) (hfu : m < 100 ^ (k + 1)) (hpc : pos + c = bs + (sg + szL n)) (vs : List Value) (lvs : vs.length = cn) (hj : ∀ j, j < bs → vs.getD j (.int 0) = vs0.getD j (.int 0)) (hd_ : ∀ i, i < c → vs.getD (bs + (sg + szL n) - 1 - i) (.int 0) = .int (dig n i)) (s4 s5 s6 s9 : Slot) (h6 : s6 = .unset ∨ ∃ w, s6 = .val (.int w)) (h9 : s9 = .unset ∨ ∃ w, s9 = .val (.int w)) (bl Tl : State) (hl : Heap) (Ll : List Loc), Wk p_ l e_ ({ frames := 0, cells := 0, slots := 0, locals := 0 } : Room) s_ m_ #[(.long x), (.int (Int32.ofNat (bs + (sg + szL n)))), (.ref d)] below_ meth_ c_ Z a0 EL0 n0 (⟨"java/lang/Long", "getChars", "(JI[B)I"⟩ : MethodName) jdk_35_method_14_code 11 (some .int) bl Tl hl Ll 0 0 → (Keep h0 hl [d]) → (Arv Z hl d kd .byte cp vs (.int 0)) → (Sfe Z EL0 bl.vm hl d) → Goes p_.tables e_ below_ (FinW Z EL0 s_ n0 ({ frames := 0, cells := 0, slots := 0, locals := 0 } : Room) (fun v h sf => ∃ r vs', v = some (.int r) ∧ Keep h0 h [d] ∧ Arv Z h d kd .byte cp vs' (.int 0) ∧ vs'.length = cn ∧ (∀ j, j < bs → vs'.getD j (.int 0) = vs0.getD j (.int 0)) ∧ (∀ j, j < sg → vs'.getD (bs + j) (.int 0) = .int 45) ∧ (∀ k, k < szL n → vs'.getD (bs + (sg + szL n) - 1 - k) (.int 0) = .int (dig n k)))) (Tl.setTop (mkF m_ 86 #[.val (.long iL), .second, .val (.int (Int32.ofNat (bs + (sg + szL n)))), .val (.ref d), s4, s5, s6, .val (.int (Int32.ofNat pos)), .val (.int (Int32.ofNat sg)), s9, .val (.int ii)] [])) := by
    intro k
    induction k with
    | zero =>
      intro iL ii m c pos hm hmn hm1 hfu hpc vs lvs hj hd_ s4 s5 s6 s9 h6 h9 bl Tl hl Ll Kl KP V_d sf_d
      have hm99 : m < 100 := by simpa using hfu
      refine k_iload Kl d_jdk_35_method_14_code_86 (pc' := 88) rfl rfl ?_
      refine k_bipush Kl (-100 : Int32) d_jdk_35_method_14_code_88 (pc' := 90) rfl rfl ?_
      refine k_icmp_gt Kl d_jdk_35_method_14_code_90 (by decide) (pc' := 143) (pc2 := 93) (by decide) rfl (fun hc90 => ?_) (fun q => absurd (by rw [own_i32, hm, show (-100 : Int32).toInt = -100 by decide]; omega) q)
      have hs1 : c < szL n := hm1.elim (fun q => own_szc (j := 0) hmn (by simpa using q) hn19) (fun q => by omega)
      have hni : (-ii).toInt = (m : Nat) := by rw [Int32.toInt_neg, hm, Int.bmod_eq_of_le (by omega) (by omega)]; omega
      refine k_aloadN Kl d_jdk_35_method_14_code_143 (pc' := 144) rfl rfl rfl ?_
      refine k_iinc Kl (-1 : Int32) d_jdk_35_method_14_code_144 (pc' := 147) (L' := #[.val (.long iL), .second, .val (.int (Int32.ofNat (bs + (sg + szL n)))), .val (.ref d), s4, s5, s6, .val (.int ((Int32.ofNat pos) + (-1 : Int32))), .val (.int (Int32.ofNat sg)), s9, .val (.int ii)]) rfl rfl rfl rfl ?_
      refine k_iload Kl d_jdk_35_method_14_code_147 (pc' := 149) rfl rfl ?_
      have hp_ : Int32.ofNat (pos) + (-1) = Int32.ofNat (pos - 1) := own_i32e (by rw [XT.add32 (by rw [own_of (by omega), show (-1 : Int32).toInt = -1 by decide]; constructor <;> omega), own_of (by omega), own_of (by omega), show (-1 : Int32).toInt = -1 by decide]; omega)
      rw [hp_]
      refine k_getS Kl (w183 hw) Via.refl SO d_jdk_35_method_14_code_149 (pc' := 152) rfl ?_
      intro T72 K72
      refine k_iload K72 d_jdk_35_method_14_code_152 (pc' := 154) rfl rfl ?_
      refine k_ineg K72 d_jdk_35_method_14_code_154 (pc' := 155) rfl ?_
      refine k_baload K72 (j := (-ii)) (VO.ext K72.old.2) (own_in hni (show (100 : Int32).toInt = (100 : Nat) by decide) (by omega)) (by rw [own_clamp hni]; exact hO _ (by omega)) d_jdk_35_method_14_code_155 (pc' := 156) rfl ?_
      have hpn := own_of (n := pos - 1) (by omega)
      refine k_bastore K72 (j := (Int32.ofNat (pos - 1))) V_d (own_in hpn hcp (by omega)) (by rw [own_clamp hpn]; first | (rw [lvs]; omega) | (rw [List.length_set, lvs]; omega)) ga_d sf_d d_jdk_35_method_14_code_156 (pc' := 157) rfl ?_
      intro T73 h73 K73 W73 tr73 V73
      replace sf_d := tr73 d V_d.lt sf_d
      replace KP := KP.wr W73 (Or.inl (by simp))
      replace V_d := V73
      rw [own_clamp hpn, own_nb (by omega)] at V_d
      have hdg : (.int (Int32.ofNat (48 + m % 10)) : Value) = .int (dig n c) := by rw [dig, ← hmn]
      rw [hdg] at V_d
      refine k_iload K73 d_jdk_35_method_14_code_157 (pc' := 159) rfl rfl ?_
      refine k_bipush K73 (-9 : Int32) d_jdk_35_method_14_code_159 (pc' := 161) rfl rfl ?_
      refine k_icmp_ge K73 d_jdk_35_method_14_code_161 (by decide) (pc' := 178) (pc2 := 164) (by decide) rfl (fun hc161 => ?_) (fun hc161 => ?_)
      · have hm9 : m < 10 := by rw [own_i32, hm, show (-9 : Int32).toInt = -9 by decide] at hc161; omega
        have hsl : szL n ≤ c + 1 := own_szl hmn (by simpa using hm9) (by omega)
        exact J178 _ _ (by omega) _ (by rw [List.length_set, lvs]) (fun j hj2 => by rw [own_gs (by rw [lvs]; omega), if_neg (by omega)]; exact hj j hj2) (fun i hi => by
          rw [own_gs (by rw [lvs]; omega)]
          by_cases q : i = c
          · subst q; rw [if_pos (by omega)]
          · rw [if_neg (by omega)]; exact hd_ i (by omega)) _ _ _ _ _ _ _ _ _ K73 KP V_d sf_d
      · have hm9 : 10 ≤ m := by rw [own_i32, hm, show (-9 : Int32).toInt = -9 by decide] at hc161; omega
        have hs2 : c + 1 < szL n := own_szc hmn (by simpa using hm9) hn19
        have hsl : szL n ≤ c + 2 := own_szl hmn (by simpa using hm99) (by omega)
        refine k_aloadN K73 d_jdk_35_method_14_code_164 (pc' := 165) rfl rfl rfl ?_
        refine k_iinc K73 (-1 : Int32) d_jdk_35_method_14_code_165 (pc' := 168) (L' := #[.val (.long iL), .second, .val (.int (Int32.ofNat (bs + (sg + szL n)))), .val (.ref d), s4, s5, s6, .val (.int ((Int32.ofNat (pos - 1)) + (-1 : Int32))), .val (.int (Int32.ofNat sg)), s9, .val (.int ii)]) rfl rfl rfl rfl ?_
        refine k_iload K73 d_jdk_35_method_14_code_168 (pc' := 170) rfl rfl ?_
        have hp_ : Int32.ofNat (pos - 1) + (-1) = Int32.ofNat (pos - 1 - 1) := own_i32e (by rw [XT.add32 (by rw [own_of (by omega), show (-1 : Int32).toInt = -1 by decide]; constructor <;> omega), own_of (by omega), own_of (by omega), show (-1 : Int32).toInt = -1 by decide]; omega)
        rw [hp_]
        refine k_getS K73 (w322 hw) Via.refl ST_ d_jdk_35_method_14_code_170 (pc' := 173) rfl ?_
        intro T74 K74
        refine k_iload K74 d_jdk_35_method_14_code_173 (pc' := 175) rfl rfl ?_
        refine k_ineg K74 d_jdk_35_method_14_code_175 (pc' := 176) rfl ?_
        refine k_baload K74 (j := (-ii)) (VT_.ext K74.old.2) (own_in hni (show (100 : Int32).toInt = (100 : Nat) by decide) (by omega)) (by rw [own_clamp hni]; exact hT _ (by omega)) d_jdk_35_method_14_code_176 (pc' := 177) rfl ?_
        have hpn := own_of (n := pos - 1 - 1) (by omega)
        refine k_bastore K74 (j := (Int32.ofNat (pos - 1 - 1))) V_d (own_in hpn hcp (by omega)) (by rw [own_clamp hpn]; first | (rw [lvs]; omega) | (rw [List.length_set, lvs]; omega)) ga_d sf_d d_jdk_35_method_14_code_177 (pc' := 178) rfl ?_
        intro T75 h75 K75 W75 tr75 V75
        replace sf_d := tr75 d V_d.lt sf_d
        replace KP := KP.wr W75 (Or.inl (by simp))
        replace V_d := V75
        rw [own_clamp hpn, own_nb (by omega)] at V_d
        have hdg2 : (.int (Int32.ofNat (48 + m / 10)) : Value) = .int (dig n (c + 1)) := by rw [dig, own_pd hmn 1, Nat.pow_one, Nat.mod_eq_of_lt (by omega)]
        rw [hdg2] at V_d
        exact J178 _ _ (by omega) _ (by rw [List.length_set, List.length_set, lvs]) (fun j hj2 => by rw [own_gs (by rw [List.length_set, lvs]; omega), if_neg (by omega), own_gs (by rw [lvs]; omega), if_neg (by omega)]; exact hj j hj2) (fun i hi => by
          rw [own_gs (by rw [List.length_set, lvs]; omega)]
          by_cases q : i = c + 1
          · subst q; rw [if_pos (by omega)]
          · rw [if_neg (by omega), own_gs (by rw [lvs]; omega)]
            by_cases q2 : i = c
            · subst q2; rw [if_pos (by omega)]
            · rw [if_neg (by omega)]; exact hd_ i (by omega)) _ _ _ _ _ _ _ _ _ K75 KP V_d sf_d
    | succ k ih =>
      intro iL ii m c pos hm hmn hm1 hfu hpc vs lvs hj hd_ s4 s5 s6 s9 h6 h9 bl Tl hl Ll Kl KP V_d sf_d
      refine k_iload Kl d_jdk_35_method_14_code_86 (pc' := 88) rfl rfl ?_
      refine k_bipush Kl (-100 : Int32) d_jdk_35_method_14_code_88 (pc' := 90) rfl rfl ?_
      refine k_icmp_gt Kl d_jdk_35_method_14_code_90 (by decide) (pc' := 143) (pc2 := 93) (by decide) rfl (fun hc90 => ?_) (fun hc90 => ?_)
      · have hm99 : m < 100 := by rw [own_i32, hm, show (-100 : Int32).toInt = -100 by decide] at hc90; omega
        have hs1 : c < szL n := hm1.elim (fun q => own_szc (j := 0) hmn (by simpa using q) hn19) (fun q => by omega)
        have hni : (-ii).toInt = (m : Nat) := by rw [Int32.toInt_neg, hm, Int.bmod_eq_of_le (by omega) (by omega)]; omega
        refine k_aloadN Kl d_jdk_35_method_14_code_143 (pc' := 144) rfl rfl rfl ?_
        refine k_iinc Kl (-1 : Int32) d_jdk_35_method_14_code_144 (pc' := 147) (L' := #[.val (.long iL), .second, .val (.int (Int32.ofNat (bs + (sg + szL n)))), .val (.ref d), s4, s5, s6, .val (.int ((Int32.ofNat pos) + (-1 : Int32))), .val (.int (Int32.ofNat sg)), s9, .val (.int ii)]) rfl rfl rfl rfl ?_
        refine k_iload Kl d_jdk_35_method_14_code_147 (pc' := 149) rfl rfl ?_
        have hp_ : Int32.ofNat (pos) + (-1) = Int32.ofNat (pos - 1) := own_i32e (by rw [XT.add32 (by rw [own_of (by omega), show (-1 : Int32).toInt = -1 by decide]; constructor <;> omega), own_of (by omega), own_of (by omega), show (-1 : Int32).toInt = -1 by decide]; omega)
        rw [hp_]
        refine k_getS Kl (w183 hw) Via.refl SO d_jdk_35_method_14_code_149 (pc' := 152) rfl ?_
        intro T76 K76
        refine k_iload K76 d_jdk_35_method_14_code_152 (pc' := 154) rfl rfl ?_
        refine k_ineg K76 d_jdk_35_method_14_code_154 (pc' := 155) rfl ?_
        refine k_baload K76 (j := (-ii)) (VO.ext K76.old.2) (own_in hni (show (100 : Int32).toInt = (100 : Nat) by decide) (by omega)) (by rw [own_clamp hni]; exact hO _ (by omega)) d_jdk_35_method_14_code_155 (pc' := 156) rfl ?_
        have hpn := own_of (n := pos - 1) (by omega)
        refine k_bastore K76 (j := (Int32.ofNat (pos - 1))) V_d (own_in hpn hcp (by omega)) (by rw [own_clamp hpn]; first | (rw [lvs]; omega) | (rw [List.length_set, lvs]; omega)) ga_d sf_d d_jdk_35_method_14_code_156 (pc' := 157) rfl ?_
        intro T77 h77 K77 W77 tr77 V77
        replace sf_d := tr77 d V_d.lt sf_d
        replace KP := KP.wr W77 (Or.inl (by simp))
        replace V_d := V77
        rw [own_clamp hpn, own_nb (by omega)] at V_d
        have hdg : (.int (Int32.ofNat (48 + m % 10)) : Value) = .int (dig n c) := by rw [dig, ← hmn]
        rw [hdg] at V_d
        refine k_iload K77 d_jdk_35_method_14_code_157 (pc' := 159) rfl rfl ?_
        refine k_bipush K77 (-9 : Int32) d_jdk_35_method_14_code_159 (pc' := 161) rfl rfl ?_
        refine k_icmp_ge K77 d_jdk_35_method_14_code_161 (by decide) (pc' := 178) (pc2 := 164) (by decide) rfl (fun hc161 => ?_) (fun hc161 => ?_)
        · have hm9 : m < 10 := by rw [own_i32, hm, show (-9 : Int32).toInt = -9 by decide] at hc161; omega
          have hsl : szL n ≤ c + 1 := own_szl hmn (by simpa using hm9) (by omega)
          exact J178 _ _ (by omega) _ (by rw [List.length_set, lvs]) (fun j hj2 => by rw [own_gs (by rw [lvs]; omega), if_neg (by omega)]; exact hj j hj2) (fun i hi => by
            rw [own_gs (by rw [lvs]; omega)]
            by_cases q : i = c
            · subst q; rw [if_pos (by omega)]
            · rw [if_neg (by omega)]; exact hd_ i (by omega)) _ _ _ _ _ _ _ _ _ K77 KP V_d sf_d
        · have hm9 : 10 ≤ m := by rw [own_i32, hm, show (-9 : Int32).toInt = -9 by decide] at hc161; omega
          have hs2 : c + 1 < szL n := own_szc hmn (by simpa using hm9) hn19
          have hsl : szL n ≤ c + 2 := own_szl hmn (by simpa using hm99) (by omega)
          refine k_aloadN K77 d_jdk_35_method_14_code_164 (pc' := 165) rfl rfl rfl ?_
          refine k_iinc K77 (-1 : Int32) d_jdk_35_method_14_code_165 (pc' := 168) (L' := #[.val (.long iL), .second, .val (.int (Int32.ofNat (bs + (sg + szL n)))), .val (.ref d), s4, s5, s6, .val (.int ((Int32.ofNat (pos - 1)) + (-1 : Int32))), .val (.int (Int32.ofNat sg)), s9, .val (.int ii)]) rfl rfl rfl rfl ?_
          refine k_iload K77 d_jdk_35_method_14_code_168 (pc' := 170) rfl rfl ?_
          have hp_ : Int32.ofNat (pos - 1) + (-1) = Int32.ofNat (pos - 1 - 1) := own_i32e (by rw [XT.add32 (by rw [own_of (by omega), show (-1 : Int32).toInt = -1 by decide]; constructor <;> omega), own_of (by omega), own_of (by omega), show (-1 : Int32).toInt = -1 by decide]; omega)
          rw [hp_]
          refine k_getS K77 (w322 hw) Via.refl ST_ d_jdk_35_method_14_code_170 (pc' := 173) rfl ?_
          intro T78 K78
          refine k_iload K78 d_jdk_35_method_14_code_173 (pc' := 175) rfl rfl ?_
          refine k_ineg K78 d_jdk_35_method_14_code_175 (pc' := 176) rfl ?_
          refine k_baload K78 (j := (-ii)) (VT_.ext K78.old.2) (own_in hni (show (100 : Int32).toInt = (100 : Nat) by decide) (by omega)) (by rw [own_clamp hni]; exact hT _ (by omega)) d_jdk_35_method_14_code_176 (pc' := 177) rfl ?_
          have hpn := own_of (n := pos - 1 - 1) (by omega)
          refine k_bastore K78 (j := (Int32.ofNat (pos - 1 - 1))) V_d (own_in hpn hcp (by omega)) (by rw [own_clamp hpn]; first | (rw [lvs]; omega) | (rw [List.length_set, lvs]; omega)) ga_d sf_d d_jdk_35_method_14_code_177 (pc' := 178) rfl ?_
          intro T79 h79 K79 W79 tr79 V79
          replace sf_d := tr79 d V_d.lt sf_d
          replace KP := KP.wr W79 (Or.inl (by simp))
          replace V_d := V79
          rw [own_clamp hpn, own_nb (by omega)] at V_d
          have hdg2 : (.int (Int32.ofNat (48 + m / 10)) : Value) = .int (dig n (c + 1)) := by rw [dig, own_pd hmn 1, Nat.pow_one, Nat.mod_eq_of_lt (by omega)]
          rw [hdg2] at V_d
          exact J178 _ _ (by omega) _ (by rw [List.length_set, List.length_set, lvs]) (fun j hj2 => by rw [own_gs (by rw [List.length_set, lvs]; omega), if_neg (by omega), own_gs (by rw [lvs]; omega), if_neg (by omega)]; exact hj j hj2) (fun i hi => by
            rw [own_gs (by rw [List.length_set, lvs]; omega)]
            by_cases q : i = c + 1
            · subst q; rw [if_pos (by omega)]
            · rw [if_neg (by omega), own_gs (by rw [lvs]; omega)]
              by_cases q2 : i = c
              · subst q2; rw [if_pos (by omega)]
              · rw [if_neg (by omega)]; exact hd_ i (by omega)) _ _ _ _ _ _ _ _ _ K79 KP V_d sf_d
      · have hm100 : 100 ≤ m := by rw [own_i32, hm, show (-100 : Int32).toInt = -100 by decide] at hc90; omega
        have hs3_ : c + 2 < szL n := own_szc hmn (by simpa using hm100) hn19
        have hr := own_r100 hm
        have hq := own_div100 hm
        refine k_iload Kl d_jdk_35_method_14_code_93 (pc' := 95) rfl rfl ?_
        refine k_bipush Kl (100 : Int32) d_jdk_35_method_14_code_95 (pc' := 97) rfl rfl ?_
        refine k_idiv Kl d_jdk_35_method_14_code_97 (pc' := 98) rfl (by decide) ?_
        refine k_istore Kl d_jdk_35_method_14_code_98 (pc' := 100) (L' := #[.val (.long iL), .second, .val (.int (Int32.ofNat (bs + (sg + szL n)))), .val (.ref d), s4, s5, s6, .val (.int (Int32.ofNat pos)), .val (.int (Int32.ofNat sg)), .val (.int (ii / (100 : Int32))), .val (.int ii)]) rfl (by rcases h9 with rfl | ⟨w, rfl⟩ <;> rfl) ?_
        refine k_iload Kl d_jdk_35_method_14_code_100 (pc' := 102) rfl rfl ?_
        refine k_bipush Kl (100 : Int32) d_jdk_35_method_14_code_102 (pc' := 104) rfl rfl ?_
        refine k_imul Kl d_jdk_35_method_14_code_104 (pc' := 105) rfl ?_
        refine k_iload Kl d_jdk_35_method_14_code_105 (pc' := 107) rfl rfl ?_
        refine k_isub Kl d_jdk_35_method_14_code_107 (pc' := 108) rfl ?_
        refine k_istore Kl d_jdk_35_method_14_code_108 (pc' := 110) (L' := #[.val (.long iL), .second, .val (.int (Int32.ofNat (bs + (sg + szL n)))), .val (.ref d), s4, s5, .val (.int (((ii / (100 : Int32)) * (100 : Int32)) - ii)), .val (.int (Int32.ofNat pos)), .val (.int (Int32.ofNat sg)), .val (.int (ii / (100 : Int32))), .val (.int ii)]) rfl (by rcases h6 with rfl | ⟨w, rfl⟩ <;> rfl) ?_
        refine k_iload Kl d_jdk_35_method_14_code_110 (pc' := 112) rfl rfl ?_
        refine k_istore Kl d_jdk_35_method_14_code_112 (pc' := 114) (L' := #[.val (.long iL), .second, .val (.int (Int32.ofNat (bs + (sg + szL n)))), .val (.ref d), s4, s5, .val (.int (((ii / (100 : Int32)) * (100 : Int32)) - ii)), .val (.int (Int32.ofNat pos)), .val (.int (Int32.ofNat sg)), .val (.int (ii / (100 : Int32))), .val (.int (ii / (100 : Int32)))]) rfl rfl ?_
        refine k_aloadN Kl d_jdk_35_method_14_code_114 (pc' := 115) rfl rfl rfl ?_
        refine k_iinc Kl (-1 : Int32) d_jdk_35_method_14_code_115 (pc' := 118) (L' := #[.val (.long iL), .second, .val (.int (Int32.ofNat (bs + (sg + szL n)))), .val (.ref d), s4, s5, .val (.int (((ii / (100 : Int32)) * (100 : Int32)) - ii)), .val (.int ((Int32.ofNat pos) + (-1 : Int32))), .val (.int (Int32.ofNat sg)), .val (.int (ii / (100 : Int32))), .val (.int (ii / (100 : Int32)))]) rfl rfl rfl rfl ?_
        refine k_iload Kl d_jdk_35_method_14_code_118 (pc' := 120) rfl rfl ?_
        have hp_ : Int32.ofNat (pos) + (-1) = Int32.ofNat (pos - 1) := own_i32e (by rw [XT.add32 (by rw [own_of (by omega), show (-1 : Int32).toInt = -1 by decide]; constructor <;> omega), own_of (by omega), own_of (by omega), show (-1 : Int32).toInt = -1 by decide]; omega)
        rw [hp_]
        refine k_getS Kl (w183 hw) Via.refl SO d_jdk_35_method_14_code_120 (pc' := 123) rfl ?_
        intro T80 K80
        refine k_iload K80 d_jdk_35_method_14_code_123 (pc' := 125) rfl rfl ?_
        refine k_baload K80 (j := (((ii / (100 : Int32)) * (100 : Int32)) - ii)) (VO.ext K80.old.2) (own_in hr (show (100 : Int32).toInt = (100 : Nat) by decide) (by omega)) (by rw [own_clamp hr]; exact hO _ (by omega)) d_jdk_35_method_14_code_125 (pc' := 126) rfl ?_
        have hpn := own_of (n := pos - 1) (by omega)
        refine k_bastore K80 (j := (Int32.ofNat (pos - 1))) V_d (own_in hpn hcp (by omega)) (by rw [own_clamp hpn]; first | (rw [lvs]; omega) | (rw [List.length_set, lvs]; omega)) ga_d sf_d d_jdk_35_method_14_code_126 (pc' := 127) rfl ?_
        intro T81 h81 K81 W81 tr81 V81
        replace sf_d := tr81 d V_d.lt sf_d
        replace KP := KP.wr W81 (Or.inl (by simp))
        replace V_d := V81
        rw [own_clamp hpn, own_nb (by omega)] at V_d
        have hdg : (.int (Int32.ofNat (48 + m % 100 % 10)) : Value) = .int (dig n c) := by rw [dig, ← hmn, Nat.mod_mod_of_dvd _ (by decide : 10 ∣ 100)]
        rw [hdg] at V_d
        refine k_aloadN K81 d_jdk_35_method_14_code_127 (pc' := 128) rfl rfl rfl ?_
        refine k_iinc K81 (-1 : Int32) d_jdk_35_method_14_code_128 (pc' := 131) (L' := #[.val (.long iL), .second, .val (.int (Int32.ofNat (bs + (sg + szL n)))), .val (.ref d), s4, s5, .val (.int (((ii / (100 : Int32)) * (100 : Int32)) - ii)), .val (.int ((Int32.ofNat (pos - 1)) + (-1 : Int32))), .val (.int (Int32.ofNat sg)), .val (.int (ii / (100 : Int32))), .val (.int (ii / (100 : Int32)))]) rfl rfl rfl rfl ?_
        refine k_iload K81 d_jdk_35_method_14_code_131 (pc' := 133) rfl rfl ?_
        have hp_ : Int32.ofNat (pos - 1) + (-1) = Int32.ofNat (pos - 1 - 1) := own_i32e (by rw [XT.add32 (by rw [own_of (by omega), show (-1 : Int32).toInt = -1 by decide]; constructor <;> omega), own_of (by omega), own_of (by omega), show (-1 : Int32).toInt = -1 by decide]; omega)
        rw [hp_]
        refine k_getS K81 (w322 hw) Via.refl ST_ d_jdk_35_method_14_code_133 (pc' := 136) rfl ?_
        intro T82 K82
        refine k_iload K82 d_jdk_35_method_14_code_136 (pc' := 138) rfl rfl ?_
        refine k_baload K82 (j := (((ii / (100 : Int32)) * (100 : Int32)) - ii)) (VT_.ext K82.old.2) (own_in hr (show (100 : Int32).toInt = (100 : Nat) by decide) (by omega)) (by rw [own_clamp hr]; exact hT _ (by omega)) d_jdk_35_method_14_code_138 (pc' := 139) rfl ?_
        have hpn := own_of (n := pos - 1 - 1) (by omega)
        refine k_bastore K82 (j := (Int32.ofNat (pos - 1 - 1))) V_d (own_in hpn hcp (by omega)) (by rw [own_clamp hpn]; first | (rw [lvs]; omega) | (rw [List.length_set, lvs]; omega)) ga_d sf_d d_jdk_35_method_14_code_139 (pc' := 140) rfl ?_
        intro T83 h83 K83 W83 tr83 V83
        replace sf_d := tr83 d V_d.lt sf_d
        replace KP := KP.wr W83 (Or.inl (by simp))
        replace V_d := V83
        rw [own_clamp hpn, own_nb (by omega)] at V_d
        have hdg2 : (.int (Int32.ofNat (48 + m % 100 / 10)) : Value) = .int (dig n (c + 1)) := by rw [dig, own_pd hmn 1, Nat.pow_one, show m % 100 / 10 = m / 10 % 10 by omega]
        rw [hdg2] at V_d
        refine k_goto K83 d_jdk_35_method_14_code_140 (by decide) (pc' := 86) (by decide) ?_
        exact ih _ _ (m / 100) (c + 2) (pos - 1 - 1) hq (by rw [own_pd hmn 2]) (Or.inl (by omega)) (by rw [Nat.pow_succ] at hfu; omega) (by omega) _ (by rw [List.length_set, List.length_set, lvs]) (fun j hj2 => by rw [own_gs (by rw [List.length_set, lvs]; omega), if_neg (by omega), own_gs (by rw [lvs]; omega), if_neg (by omega)]; exact hj j hj2) (fun i hi => by
          rw [own_gs (by rw [List.length_set, lvs]; omega)]
          by_cases q : i = c + 1
          · subst q; rw [if_pos (by omega)]
          · rw [if_neg (by omega), own_gs (by rw [lvs]; omega)]
            by_cases q2 : i = c
            · subst q2; rw [if_pos (by omega)]
            · rw [if_neg (by omega)]; exact hd_ i (by omega)) _ _ _ _ (Or.inr ⟨_, rfl⟩) (Or.inr ⟨_, rfl⟩) _ _ _ _ K83 KP V_d sf_d
  have LOOP1 : ∀ (k : Nat) (iL : Int64) (m c pos : Nat) (hm : iL.toInt = -(m : Int)) (hmn : m = n / 10 ^ c) (hm1 : 1 ≤ m ∨ c = 0) (hfu : m < 2147483648 * 100 ^ k) (hpc : pos + c = bs + (sg + szL n)) (vs : List Value) (lvs : vs.length = cn) (hj : ∀ j, j < bs → vs.getD j (.int 0) = vs0.getD j (.int 0)) (hd_ : ∀ i, i < c → vs.getD (bs + (sg + szL n) - 1 - i) (.int 0) = .int (dig n i)) (s4 s5 s6 : Slot) (h45 : (s4 = .unset ∧ s5 = .unset) ∨ ∃ w, s4 = .val (.long w) ∧ s5 = .second) (h6 : s6 = .unset ∨ ∃ w, s6 = .val (.int w)) (bl Tl : State) (hl : Heap) (Ll : List Loc), Wk p_ l e_ ({ frames := 0, cells := 0, slots := 0, locals := 0 } : Room) s_ m_ #[(.long x), (.int (Int32.ofNat (bs + (sg + szL n)))), (.ref d)] below_ meth_ c_ Z a0 EL0 n0 (⟨"java/lang/Long", "getChars", "(JI[B)I"⟩ : MethodName) jdk_35_method_14_code 11 (some .int) bl Tl hl Ll 0 0 → (Keep h0 hl [d]) → (Arv Z hl d kd .byte cp vs (.int 0)) → (Sfe Z EL0 bl.vm hl d) → Goes p_.tables e_ below_ (FinW Z EL0 s_ n0 ({ frames := 0, cells := 0, slots := 0, locals := 0 } : Room) (fun v h sf => ∃ r vs', v = some (.int r) ∧ Keep h0 h [d] ∧ Arv Z h d kd .byte cp vs' (.int 0) ∧ vs'.length = cn ∧ (∀ j, j < bs → vs'.getD j (.int 0) = vs0.getD j (.int 0)) ∧ (∀ j, j < sg → vs'.getD (bs + j) (.int 0) = .int 45) ∧ (∀ k, k < szL n → vs'.getD (bs + (sg + szL n) - 1 - k) (.int 0) = .int (dig n k)))) (Tl.setTop (mkF m_ 24 #[.val (.long iL), .second, .val (.int (Int32.ofNat (bs + (sg + szL n)))), .val (.ref d), s4, s5, s6, .val (.int (Int32.ofNat pos)), .val (.int (Int32.ofNat sg)), .unset, .unset] [])) := by
    intro k
    induction k with
    | zero =>
      intro iL m c pos hm hmn hm1 hfu hpc vs lvs hj hd_ s4 s5 s6 h45 h6 bl Tl hl Ll Kl KP V_d sf_d
      have hm31 : m < 2147483648 := by simpa using hfu
      refine k_lloadN Kl d_jdk_35_method_14_code_24 (pc' := 25) rfl rfl ?_
      refine k_ldcJ Kl (w182 hw) d_jdk_35_method_14_code_25 (pc' := 28) rfl ?_
      refine k_lcmp Kl d_jdk_35_method_14_code_28 (pc' := 29) rfl ?_
      refine k_lif_gt Kl d_jdk_35_method_14_code_29 (by decide) (pc' := 82) (pc2 := 32) (by decide) rfl (fun hc29 => ?_) (fun q => absurd (by rw [own_i64, hm, show (-2147483648 : Int64).toInt = -2147483648 by decide]; omega) q)
      refine k_lloadN Kl d_jdk_35_method_14_code_82 (pc' := 83) rfl rfl ?_
      refine k_l2i Kl d_jdk_35_method_14_code_83 (pc' := 84) rfl ?_
      refine k_istore Kl d_jdk_35_method_14_code_84 (pc' := 86) (L' := #[.val (.long iL), .second, .val (.int (Int32.ofNat (bs + (sg + szL n)))), .val (.ref d), s4, s5, s6, .val (.int (Int32.ofNat pos)), .val (.int (Int32.ofNat sg)), .unset, .val (.int (iL.toInt32))]) rfl rfl ?_
      exact LOOP2 4 _ _ m c pos (own_l2i hm hm31) hmn hm1 (by omega) hpc vs lvs hj hd_ _ _ _ _ h6 (Or.inl rfl) _ _ _ _ Kl KP V_d sf_d
    | succ k ih =>
      intro iL m c pos hm hmn hm1 hfu hpc vs lvs hj hd_ s4 s5 s6 h45 h6 bl Tl hl Ll Kl KP V_d sf_d
      refine k_lloadN Kl d_jdk_35_method_14_code_24 (pc' := 25) rfl rfl ?_
      refine k_ldcJ Kl (w182 hw) d_jdk_35_method_14_code_25 (pc' := 28) rfl ?_
      refine k_lcmp Kl d_jdk_35_method_14_code_28 (pc' := 29) rfl ?_
      refine k_lif_gt Kl d_jdk_35_method_14_code_29 (by decide) (pc' := 82) (pc2 := 32) (by decide) rfl (fun hc29 => ?_) (fun hc29 => ?_)
      · have hm31 : m < 2147483648 := by rw [own_i64, hm, show (-2147483648 : Int64).toInt = -2147483648 by decide] at hc29; omega
        refine k_lloadN Kl d_jdk_35_method_14_code_82 (pc' := 83) rfl rfl ?_
        refine k_l2i Kl d_jdk_35_method_14_code_83 (pc' := 84) rfl ?_
        refine k_istore Kl d_jdk_35_method_14_code_84 (pc' := 86) (L' := #[.val (.long iL), .second, .val (.int (Int32.ofNat (bs + (sg + szL n)))), .val (.ref d), s4, s5, s6, .val (.int (Int32.ofNat pos)), .val (.int (Int32.ofNat sg)), .unset, .val (.int (iL.toInt32))]) rfl rfl ?_
        exact LOOP2 4 _ _ m c pos (own_l2i hm hm31) hmn hm1 (by omega) hpc vs lvs hj hd_ _ _ _ _ h6 (Or.inl rfl) _ _ _ _ Kl KP V_d sf_d
      · have hm100 : 2147483648 ≤ m := by rw [own_i64, hm, show (-2147483648 : Int64).toInt = -2147483648 by decide] at hc29; omega
        have hs3_ : c + 2 < szL n := own_szc hmn (show 10 ^ 2 ≤ m by omega) hn19
        have hr := own_r64 hm
        have hq := own_dv64 hm
        refine k_lloadN Kl d_jdk_35_method_14_code_32 (pc' := 33) rfl rfl ?_
        refine k_ldcJ Kl (w321 hw) d_jdk_35_method_14_code_33 (pc' := 36) rfl ?_
        refine k_ldiv Kl d_jdk_35_method_14_code_36 (pc' := 37) rfl (by decide) ?_
        refine k_lstore Kl d_jdk_35_method_14_code_37 (pc' := 39) (L' := #[.val (.long iL), .second, .val (.int (Int32.ofNat (bs + (sg + szL n)))), .val (.ref d), .val (.long (iL / (100 : Int64))), .second, s6, .val (.int (Int32.ofNat pos)), .val (.int (Int32.ofNat sg)), .unset, .unset]) rfl (by rcases h45 with ⟨rfl, rfl⟩ | ⟨w, rfl, rfl⟩ <;> rfl) ?_
        refine k_lload Kl d_jdk_35_method_14_code_39 (pc' := 41) rfl rfl ?_
        refine k_ldcJ Kl (w321 hw) d_jdk_35_method_14_code_41 (pc' := 44) rfl ?_
        refine k_lmul Kl d_jdk_35_method_14_code_44 (pc' := 45) rfl ?_
        refine k_lloadN Kl d_jdk_35_method_14_code_45 (pc' := 46) rfl rfl ?_
        refine k_lsub Kl d_jdk_35_method_14_code_46 (pc' := 47) rfl ?_
        refine k_l2i Kl d_jdk_35_method_14_code_47 (pc' := 48) rfl ?_
        refine k_istore Kl d_jdk_35_method_14_code_48 (pc' := 50) (L' := #[.val (.long iL), .second, .val (.int (Int32.ofNat (bs + (sg + szL n)))), .val (.ref d), .val (.long (iL / (100 : Int64))), .second, .val (.int ((((iL / (100 : Int64)) * (100 : Int64)) - iL).toInt32)), .val (.int (Int32.ofNat pos)), .val (.int (Int32.ofNat sg)), .unset, .unset]) rfl (by rcases h6 with rfl | ⟨w, rfl⟩ <;> rfl) ?_
        refine k_lload Kl d_jdk_35_method_14_code_50 (pc' := 52) rfl rfl ?_
        refine k_lstoreN Kl d_jdk_35_method_14_code_52 (pc' := 53) (L' := #[.val (.long (iL / (100 : Int64))), .second, .val (.int (Int32.ofNat (bs + (sg + szL n)))), .val (.ref d), .val (.long (iL / (100 : Int64))), .second, .val (.int ((((iL / (100 : Int64)) * (100 : Int64)) - iL).toInt32)), .val (.int (Int32.ofNat pos)), .val (.int (Int32.ofNat sg)), .unset, .unset]) rfl rfl ?_
        refine k_aloadN Kl d_jdk_35_method_14_code_53 (pc' := 54) rfl rfl rfl ?_
        refine k_iinc Kl (-1 : Int32) d_jdk_35_method_14_code_54 (pc' := 57) (L' := #[.val (.long (iL / (100 : Int64))), .second, .val (.int (Int32.ofNat (bs + (sg + szL n)))), .val (.ref d), .val (.long (iL / (100 : Int64))), .second, .val (.int ((((iL / (100 : Int64)) * (100 : Int64)) - iL).toInt32)), .val (.int ((Int32.ofNat pos) + (-1 : Int32))), .val (.int (Int32.ofNat sg)), .unset, .unset]) rfl rfl rfl rfl ?_
        refine k_iload Kl d_jdk_35_method_14_code_57 (pc' := 59) rfl rfl ?_
        have hp_ : Int32.ofNat (pos) + (-1) = Int32.ofNat (pos - 1) := own_i32e (by rw [XT.add32 (by rw [own_of (by omega), show (-1 : Int32).toInt = -1 by decide]; constructor <;> omega), own_of (by omega), own_of (by omega), show (-1 : Int32).toInt = -1 by decide]; omega)
        rw [hp_]
        refine k_getS Kl (w183 hw) Via.refl SO d_jdk_35_method_14_code_59 (pc' := 62) rfl ?_
        intro T85 K85
        refine k_iload K85 d_jdk_35_method_14_code_62 (pc' := 64) rfl rfl ?_
        refine k_baload K85 (j := ((((iL / (100 : Int64)) * (100 : Int64)) - iL).toInt32)) (VO.ext K85.old.2) (own_in hr (show (100 : Int32).toInt = (100 : Nat) by decide) (by omega)) (by rw [own_clamp hr]; exact hO _ (by omega)) d_jdk_35_method_14_code_64 (pc' := 65) rfl ?_
        have hpn := own_of (n := pos - 1) (by omega)
        refine k_bastore K85 (j := (Int32.ofNat (pos - 1))) V_d (own_in hpn hcp (by omega)) (by rw [own_clamp hpn]; first | (rw [lvs]; omega) | (rw [List.length_set, lvs]; omega)) ga_d sf_d d_jdk_35_method_14_code_65 (pc' := 66) rfl ?_
        intro T86 h86 K86 W86 tr86 V86
        replace sf_d := tr86 d V_d.lt sf_d
        replace KP := KP.wr W86 (Or.inl (by simp))
        replace V_d := V86
        rw [own_clamp hpn, own_nb (by omega)] at V_d
        have hdg : (.int (Int32.ofNat (48 + m % 100 % 10)) : Value) = .int (dig n c) := by rw [dig, ← hmn, Nat.mod_mod_of_dvd _ (by decide : 10 ∣ 100)]
        rw [hdg] at V_d
        refine k_aloadN K86 d_jdk_35_method_14_code_66 (pc' := 67) rfl rfl rfl ?_
        refine k_iinc K86 (-1 : Int32) d_jdk_35_method_14_code_67 (pc' := 70) (L' := #[.val (.long (iL / (100 : Int64))), .second, .val (.int (Int32.ofNat (bs + (sg + szL n)))), .val (.ref d), .val (.long (iL / (100 : Int64))), .second, .val (.int ((((iL / (100 : Int64)) * (100 : Int64)) - iL).toInt32)), .val (.int ((Int32.ofNat (pos - 1)) + (-1 : Int32))), .val (.int (Int32.ofNat sg)), .unset, .unset]) rfl rfl rfl rfl ?_
        refine k_iload K86 d_jdk_35_method_14_code_70 (pc' := 72) rfl rfl ?_
        have hp_ : Int32.ofNat (pos - 1) + (-1) = Int32.ofNat (pos - 1 - 1) := own_i32e (by rw [XT.add32 (by rw [own_of (by omega), show (-1 : Int32).toInt = -1 by decide]; constructor <;> omega), own_of (by omega), own_of (by omega), show (-1 : Int32).toInt = -1 by decide]; omega)
        rw [hp_]
        refine k_getS K86 (w322 hw) Via.refl ST_ d_jdk_35_method_14_code_72 (pc' := 75) rfl ?_
        intro T87 K87
        refine k_iload K87 d_jdk_35_method_14_code_75 (pc' := 77) rfl rfl ?_
        refine k_baload K87 (j := ((((iL / (100 : Int64)) * (100 : Int64)) - iL).toInt32)) (VT_.ext K87.old.2) (own_in hr (show (100 : Int32).toInt = (100 : Nat) by decide) (by omega)) (by rw [own_clamp hr]; exact hT _ (by omega)) d_jdk_35_method_14_code_77 (pc' := 78) rfl ?_
        have hpn := own_of (n := pos - 1 - 1) (by omega)
        refine k_bastore K87 (j := (Int32.ofNat (pos - 1 - 1))) V_d (own_in hpn hcp (by omega)) (by rw [own_clamp hpn]; first | (rw [lvs]; omega) | (rw [List.length_set, lvs]; omega)) ga_d sf_d d_jdk_35_method_14_code_78 (pc' := 79) rfl ?_
        intro T88 h88 K88 W88 tr88 V88
        replace sf_d := tr88 d V_d.lt sf_d
        replace KP := KP.wr W88 (Or.inl (by simp))
        replace V_d := V88
        rw [own_clamp hpn, own_nb (by omega)] at V_d
        have hdg2 : (.int (Int32.ofNat (48 + m % 100 / 10)) : Value) = .int (dig n (c + 1)) := by rw [dig, own_pd hmn 1, Nat.pow_one, show m % 100 / 10 = m / 10 % 10 by omega]
        rw [hdg2] at V_d
        refine k_goto K88 d_jdk_35_method_14_code_79 (by decide) (pc' := 24) (by decide) ?_
        exact ih _ (m / 100) (c + 2) (pos - 1 - 1) hq (by rw [own_pd hmn 2]) (Or.inl (by omega)) (by rw [Nat.pow_succ] at hfu; generalize 100 ^ k = t at hfu ⊢; omega) (by omega) _ (by rw [List.length_set, List.length_set, lvs]) (fun j hj2 => by rw [own_gs (by rw [List.length_set, lvs]; omega), if_neg (by omega), own_gs (by rw [lvs]; omega), if_neg (by omega)]; exact hj j hj2) (fun i hi => by
          rw [own_gs (by rw [List.length_set, lvs]; omega)]
          by_cases q : i = c + 1
          · subst q; rw [if_pos (by omega)]
          · rw [if_neg (by omega), own_gs (by rw [lvs]; omega)]
            by_cases q2 : i = c
            · subst q2; rw [if_pos (by omega)]
            · rw [if_neg (by omega)]; exact hd_ i (by omega)) _ _ _ (Or.inr ⟨_, rfl, rfl⟩) (Or.inr ⟨_, rfl⟩) _ _ _ _ K88 KP V_d sf_d
  refine k_iloadN K d_jdk_35_method_14_code_0 (pc' := 1) rfl rfl ?_
  refine k_istore K d_jdk_35_method_14_code_1 (pc' := 3) (L' := #[.val (.long x), .second, .val (.int (Int32.ofNat (bs + (sg + szL n)))), .val (.ref d), .unset, .unset, .unset, .val (.int (Int32.ofNat (bs + (sg + szL n)))), .unset, .unset, .unset]) rfl rfl ?_
  refine k_lloadN K d_jdk_35_method_14_code_3 (pc' := 4) rfl rfl ?_
  refine k_lconst K (0 : Int64) d_jdk_35_method_14_code_4 (pc' := 5) rfl rfl ?_
  refine k_lcmp K d_jdk_35_method_14_code_5 (pc' := 6) rfl ?_
  refine k_lif_ge K d_jdk_35_method_14_code_6 (by decide) (pc' := 13) (pc2 := 9) (by decide) rfl (fun hc6 => ?_) (fun hc6 => ?_)
  · refine k_iconst K (0 : Int32) d_jdk_35_method_14_code_13 (pc' := 14) rfl rfl ?_
    refine k_istore K d_jdk_35_method_14_code_14 (pc' := 16) (L' := #[.val (.long x), .second, .val (.int (Int32.ofNat (bs + (sg + szL n)))), .val (.ref d), .unset, .unset, .unset, .val (.int (Int32.ofNat (bs + (sg + szL n)))), .val (.int (0 : Int32)), .unset, .unset]) rfl rfl ?_
    refine k_iload K d_jdk_35_method_14_code_16 (pc' := 18) rfl rfl ?_
    refine k_if_ne K d_jdk_35_method_14_code_18 (by decide) (pc' := 24) (pc2 := 21) (by decide) rfl (fun q => absurd (by decide) q) (fun hc18 => ?_)
    refine k_lloadN K d_jdk_35_method_14_code_21 (pc' := 22) rfl rfl ?_
    refine k_lneg K d_jdk_35_method_14_code_22 (pc' := 23) rfl ?_
    refine k_lstoreN K d_jdk_35_method_14_code_23 (pc' := 24) (L' := #[.val (.long (-x)), .second, .val (.int (Int32.ofNat (bs + (sg + szL n)))), .val (.ref d), .unset, .unset, .unset, .val (.int (Int32.ofNat (bs + (sg + szL n)))), .val (.int (0 : Int32)), .unset, .unset]) rfl rfl ?_
    obtain ⟨hm, rfl⟩ : (-x).toInt = -(n : Int) ∧ sg = 0 := by
      rcases hx with ⟨h, h2, h3⟩ | ⟨h, h2⟩
      · rw [own_i64, own_00] at hc6; omega
      · exact ⟨own_neg64 h, h2⟩
    exact LOOP1 6 _ n 0 (bs + (0 + szL n)) hm (by simp) (Or.inr rfl) (by omega) rfl vs0 hvs (fun _ _ => rfl) (fun i hi => absurd hi (Nat.not_lt_zero _)) _ _ _ (Or.inl ⟨rfl, rfl⟩) (Or.inl rfl) _ _ _ _ K KP V_d sf_d
  · refine k_iconst K (1 : Int32) d_jdk_35_method_14_code_9 (pc' := 10) rfl rfl ?_
    refine k_goto K d_jdk_35_method_14_code_10 (by decide) (pc' := 14) (by decide) ?_
    refine k_istore K d_jdk_35_method_14_code_14 (pc' := 16) (L' := #[.val (.long x), .second, .val (.int (Int32.ofNat (bs + (sg + szL n)))), .val (.ref d), .unset, .unset, .unset, .val (.int (Int32.ofNat (bs + (sg + szL n)))), .val (.int (1 : Int32)), .unset, .unset]) rfl rfl ?_
    refine k_iload K d_jdk_35_method_14_code_16 (pc' := 18) rfl rfl ?_
    refine k_if_ne K d_jdk_35_method_14_code_18 (by decide) (pc' := 24) (pc2 := 21) (by decide) rfl (fun hc18 => ?_) (fun q => absurd q (by decide))
    obtain ⟨hm, rfl⟩ : x.toInt = -(n : Int) ∧ sg = 1 := by
      rcases hx with ⟨h, h2, -⟩ | ⟨h, h2⟩
      · exact ⟨h, h2⟩
      · rw [own_i64, own_00] at hc6; omega
    exact LOOP1 6 _ n 0 (bs + (1 + szL n)) hm (by simp) (Or.inr rfl) (by omega) rfl vs0 hvs (fun _ _ => rfl) (fun i hi => absurd hi (Nat.not_lt_zero _)) _ _ _ (Or.inl ⟨rfl, rfl⟩) (Or.inl rfl) _ _ _ _ K KP V_d sf_d
theorem d_jdk_68_method_33_code_0 : decode jdk_68_method_33_code 0 = .ok (.aload_n 0, 1) := by decide +kernel
theorem d_jdk_68_method_33_code_1 : decode jdk_68_method_33_code 1 = .ok (.getfield 79, 3) := by decide +kernel
theorem d_jdk_68_method_33_code_4 : decode jdk_68_method_33_code 4 = .ok (.istore_n 3, 1) := by decide +kernel
theorem d_jdk_68_method_33_code_5 : decode jdk_68_method_33_code 5 = .ok (.iload_n 3, 1) := by decide +kernel
theorem d_jdk_68_method_33_code_6 : decode jdk_68_method_33_code 6 = .ok (.lload_n 1, 1) := by decide +kernel
theorem d_jdk_68_method_33_code_7 : decode jdk_68_method_33_code 7 = .ok (.invokestatic 254, 3) := by decide +kernel
theorem w169 {Z : State} {a0 : Array Value} (hw : Tb a0 Z) : (Jvm.Cond.methodLink "java/lang/AbstractStringBuilder" (254 : Nat) ({ cls := "java/lang/Long", name := "stringSize", desc := "(J)I" } : Jvm.MethodName)).before a0 Z = true := hw _ (List.mem_of_getElem? (i := 169) rfl)
theorem w171 {Z : State} {a0 : Array Value} (hw : Tb a0 Z) : (Jvm.Cond.initialized "java/lang/Long").before a0 Z = true := hw _ (List.mem_of_getElem? (i := 171) rfl)
theorem w172 {Z : State} {a0 : Array Value} (hw : Tb a0 Z) : (Jvm.Cond.code ({ cls := "java/lang/Long", name := "stringSize", desc := "(J)I" } : Jvm.MethodName) jdk_35_method_15_code (6 : Nat) (Option.some Jvm.ClassFile.FieldType.int)).before a0 Z = true := hw _ (List.mem_of_getElem? (i := 172) rfl)
theorem w170 {Z : State} {a0 : Array Value} (hw : Tb a0 Z) : (Jvm.Cond.static ({ cls := "java/lang/Long", name := "stringSize", desc := "(J)I" } : Jvm.MethodName)).before a0 Z = true := hw _ (List.mem_of_getElem? (i := 170) rfl)
theorem pd__J_I_603 : parseMethodDescriptor "(J)I" = some ⟨[.long], some .int⟩ := by decide +kernel
theorem d_jdk_68_method_33_code_10 : decode jdk_68_method_33_code 10 = .ok (.iadd, 1) := by decide +kernel
theorem d_jdk_68_method_33_code_11 : decode jdk_68_method_33_code 11 = .ok (.istore 4, 2) := by decide +kernel
theorem d_jdk_68_method_33_code_13 : decode jdk_68_method_33_code 13 = .ok (.aload_n 0, 1) := by decide +kernel
theorem d_jdk_68_method_33_code_14 : decode jdk_68_method_33_code 14 = .ok (.iload 4, 2) := by decide +kernel
theorem d_jdk_68_method_33_code_16 : decode jdk_68_method_33_code 16 = .ok (.invokevirtual 100, 3) := by decide +kernel
theorem d_jdk_68_method_33_code_19 : decode jdk_68_method_33_code 19 = .ok (.aload_n 0, 1) := by decide +kernel
theorem d_jdk_68_method_33_code_20 : decode jdk_68_method_33_code 20 = .ok (.invokevirtual 83, 3) := by decide +kernel
theorem w174 {Z : State} {a0 : Array Value} (hw : Tb a0 Z) : (Jvm.Cond.methodLink "java/lang/AbstractStringBuilder" (83 : Nat) ({ cls := "java/lang/AbstractStringBuilder", name := "isLatin1", desc := "()Z" } : Jvm.MethodName)).before a0 Z = true := hw _ (List.mem_of_getElem? (i := 174) rfl)
theorem d_jdk_68_method_33_code_23 : decode jdk_68_method_33_code 23 = .ok (.ifCond .eq 17, 3) := by decide +kernel
theorem d_jdk_68_method_33_code_26 : decode jdk_68_method_33_code 26 = .ok (.lload_n 1, 1) := by decide +kernel
theorem d_jdk_68_method_33_code_27 : decode jdk_68_method_33_code 27 = .ok (.iload 4, 2) := by decide +kernel
theorem d_jdk_68_method_33_code_29 : decode jdk_68_method_33_code 29 = .ok (.aload_n 0, 1) := by decide +kernel
theorem d_jdk_68_method_33_code_30 : decode jdk_68_method_33_code 30 = .ok (.getfield 15, 3) := by decide +kernel
theorem d_jdk_68_method_33_code_33 : decode jdk_68_method_33_code 33 = .ok (.invokestatic 259, 3) := by decide +kernel
theorem w179 {Z : State} {a0 : Array Value} (hw : Tb a0 Z) : (Jvm.Cond.methodLink "java/lang/AbstractStringBuilder" (259 : Nat) ({ cls := "java/lang/Long", name := "getChars", desc := "(JI[B)I" } : Jvm.MethodName)).before a0 Z = true := hw _ (List.mem_of_getElem? (i := 179) rfl)
theorem w181 {Z : State} {a0 : Array Value} (hw : Tb a0 Z) : (Jvm.Cond.code ({ cls := "java/lang/Long", name := "getChars", desc := "(JI[B)I" } : Jvm.MethodName) jdk_35_method_14_code (11 : Nat) (Option.some Jvm.ClassFile.FieldType.int)).before a0 Z = true := hw _ (List.mem_of_getElem? (i := 181) rfl)
theorem w180 {Z : State} {a0 : Array Value} (hw : Tb a0 Z) : (Jvm.Cond.static ({ cls := "java/lang/Long", name := "getChars", desc := "(JI[B)I" } : Jvm.MethodName)).before a0 Z = true := hw _ (List.mem_of_getElem? (i := 180) rfl)
theorem pd__JI_B_I_1858 : parseMethodDescriptor "(JI[B)I" = some ⟨[.long, .int, (.array .byte)], some .int⟩ := by decide +kernel
theorem d_jdk_68_method_33_code_36 : decode jdk_68_method_33_code 36 = .ok (.pop, 1) := by decide +kernel
theorem d_jdk_68_method_33_code_37 : decode jdk_68_method_33_code 37 = .ok (.goto 15, 3) := by decide +kernel
theorem d_jdk_68_method_33_code_52 : decode jdk_68_method_33_code 52 = .ok (.aload_n 0, 1) := by decide +kernel
theorem d_jdk_68_method_33_code_53 : decode jdk_68_method_33_code 53 = .ok (.iload 4, 2) := by decide +kernel
theorem d_jdk_68_method_33_code_55 : decode jdk_68_method_33_code 55 = .ok (.putfield 79, 3) := by decide +kernel
theorem d_jdk_68_method_33_code_58 : decode jdk_68_method_33_code 58 = .ok (.aload_n 0, 1) := by decide +kernel
theorem d_jdk_68_method_33_code_59 : decode jdk_68_method_33_code 59 = .ok (.areturn, 1) := by decide +kernel
set_option maxRecDepth 65536 in
set_option maxHeartbeats 40000000 in
theorem c_appJ (l : Launch) (Z : State) (a0 : Array Value) (hw : Tb a0 Z) (hEW : EW Z a0 EL0) (n0 : Nat) (sb d : Addr) (kd : ClassId) (cp : Int32) (xs : List Int32) (ys : List Value) (x : Int64) (n sg : Nat) (od td : Addr) (ko kt_ : ClassId) (OL TL : List Value) (cs0 : Int32) (h0 : Heap) (O : Old Z n0 h0) (B : Sbd Z h0 sb d kd cp xs ys) (ga_sb : n0 ≤ sb) (ga_d : n0 ≤ d) (ne_sb_d : sb ≠ d) (hx : Sg x n sg) (htot : xs.length + (sg + szL n) ≤ 70) (SO : Sta Z Z.heap "java/lang/Integer" "DigitOnes" "[B" (.ref od)) (VO : Arv Z Z.heap od ko .byte 100 OL (.int 0)) (hO : ∀ r, r < 100 → OL.getD r (.int 0) = .int (Int32.ofNat (48 + r % 10))) (ST_ : Sta Z Z.heap "java/lang/Integer" "DigitTens" "[B" (.ref td)) (VT_ : Arv Z Z.heap td kt_ .byte 100 TL (.int 0)) (hT : ∀ r, r < 100 → TL.getD r (.int 0) = .int (Int32.ofNat (48 + r / 10))) (SC : Sta Z Z.heap "java/lang/String" "COMPACT_STRINGS" "Z" (.int cs0)) (hcs : ¬ cs0 = 0) :
    Ct l Z EL0 n0 (⟨"java/lang/AbstractStringBuilder", "append", "(J)Ljava/lang/AbstractStringBuilder;"⟩ : MethodName) jdk_68_method_33_code 5 (some (.object "java/lang/AbstractStringBuilder")) ({ frames := 4, cells := 1, slots := 142, locals := 62 } : Room) #[(.ref sb), (.long x)] h0 [sb, d] (fun v h sf => ∃ d' kd' cp' ys', v = some (.ref sb) ∧ Keep h0 h [sb, d] ∧ Sbd Z h sb d' kd' cp' (xs ++ num sg n) ys' ∧ (d' = d ∨ h0.size ≤ d') ∧ sf d') := by
  refine Ct.of (a0 := a0) #[.val (.ref sb), .val (.long x), .second, .unset, .unset] hEW O (plainFor_of_name pl_java_lang_AbstractStringBuilder) (fun m => by first | (simp [entryFrame, mkF, argsToLocals, Value.category]; done) | rfl) ?_
  intro p_ e_ s_ m_ below_ meth_ c_ b_ T_ K hSP hsh
  have B0 := B
  obtain ⟨X_sb, F_sb_value, F_sb_coder, F_sb_count, V_d, X_d, hcp, hcb⟩ := B
  have KP := Keep.refl h0 [sb, d]
  have sf_sb := hSP sb (by simp)
  have sf_d := hSP d (by simp)
  refine k_aloadN K d_jdk_68_method_33_code_0 (pc' := 1) rfl rfl rfl ?_
  refine k_getF K (w133 hw) Via.refl F_sb_count d_jdk_68_method_33_code_1 (pc' := 4) rfl ?_
  intro T89 K89
  refine k_istoreN K89 d_jdk_68_method_33_code_4 (pc' := 5) (L' := #[.val (.ref sb), .val (.long x), .second, .val (.int (Int32.ofNat xs.length)), .unset]) rfl rfl ?_
  refine k_iloadN K89 d_jdk_68_method_33_code_5 (pc' := 6) rfl rfl ?_
  refine k_lloadN K89 d_jdk_68_method_33_code_6 (pc' := 7) rfl rfl ?_
  refine k_staticP K89 [(.long x)] [(.int (Int32.ofNat xs.length))] 1 (w169 hw) (w170 hw) (w171 hw) (w172 hw) (by decide) pd__J_I_603 (c_lssize l Z a0 hw hEW n0 x n sg h0 K89.old hx) d_jdk_68_method_33_code_7 nofun (pc' := 10) rfl rfl rfl rfl (Nat.le_of_eq rfl) (by decide) (by decide) (by decide) (by decide) ?_
  intro b90 T90 L90 K90 tr90
  show Goes p_.tables e_ below_ _ (T90.setTop (mkF m_ 10 #[.val (.ref sb), .val (.long x), .second, .val (.int (Int32.ofNat xs.length)), .unset] [(.int (Int32.ofNat (szL n + sg))), (.int (Int32.ofNat xs.length))]))
  replace sf_sb := tr90 sb X_sb.lt sf_sb
  replace sf_d := tr90 d V_d.lt sf_d
  refine k_iadd K90 d_jdk_68_method_33_code_10 (pc' := 11) rfl ?_
  rw [Nat.add_comm (szL n) sg, own_sumN (own_of (by omega)) (by omega)]
  refine k_istore K90 d_jdk_68_method_33_code_11 (pc' := 13) (L' := #[.val (.ref sb), .val (.long x), .second, .val (.int (Int32.ofNat xs.length)), .val (.int (Int32.ofNat (xs.length + (sg + szL n))))]) rfl rfl ?_
  refine k_aloadN K90 d_jdk_68_method_33_code_13 (pc' := 14) rfl rfl rfl ?_
  refine k_iload K90 d_jdk_68_method_33_code_14 (pc' := 16) rfl rfl ?_
  refine k_private K90 [(.int (Int32.ofNat (xs.length + (sg + szL n))))] [] 0 (w135 hw) (w136 hw) (own_priv2 K90 (w138 hw) (w136 hw) (w137 hw) (by decide)) (w137 hw) (w94 hw) (w139 hw) X_sb (by decide) pd__I_V_653 (c_ensure l Z a0 hw hEW n0 sb d kd cp xs ys (Int32.ofNat (xs.length + (sg + szL n))) (xs.length + (sg + szL n)) h0 K90.old B0 ga_sb ga_d ne_sb_d (own_of (by omega)) htot) d_jdk_68_method_33_code_16 (fun x hx => by
    simp only [List.mem_cons, List.not_mem_nil, or_false] at hx
    rcases hx with rfl | rfl
    · exact ⟨X_sb.lt, sf_sb⟩
    · exact ⟨V_d.lt, sf_d⟩) (pc' := 19) rfl rfl rfl rfl (Nat.le_of_eq rfl) (by decide) (by decide) (by decide) (by decide) ?_
  intro b91 T91 h91 L91 v91 K91 tr91 q91
  obtain ⟨d', kd', cp', ys', rfl, KQ, B1, hroom, hd', sf_d'⟩ := q91
  have hd2 : d' = d ∨ h0.size ≤ d' := hd'
  have ga_d' : n0 ≤ d' := hd'.elim (fun q => q ▸ ga_d) fun q => Nat.le_trans (own_n0 K90.old) q
  have ne_sb_d' : sb ≠ d' := hd'.elim (fun q => q ▸ ne_sb_d) fun q => own_ne2 X_sb.lt q
  replace sf_sb := tr91 sb X_sb.lt sf_sb
  replace KP := KP.trans KQ (allS (Or.inl (by simp)) all0)
  have B1c := B1
  obtain ⟨X_sb, F_sb_value, F_sb_coder, F_sb_count, V_d', X_d', hcp', hcb'⟩ := B1c
  show Goes p_.tables e_ below_ _ (T91.setTop (mkF m_ 19 #[.val (.ref sb), .val (.long x), .second, .val (.int (Int32.ofNat xs.length)), .val (.int (Int32.ofNat (xs.length + (sg + szL n))))] []))
  refine k_aloadN K91 d_jdk_68_method_33_code_19 (pc' := 20) rfl rfl rfl ?_
  refine k_virtualP K91 [] [] 0 (w174 hw) (w175 hw) (w176 hw) (w177 hw) (w94 hw) (w178 hw) (notFace_of_selects (args := #[]) (mvT K91.hZ (w177 hw))) rfl (by decide) X_sb (by decide) pd___Z_392 (c_ail l Z a0 hw hEW n0 sb cs0 h91 K91.old F_sb_coder SC hcs) d_jdk_68_method_33_code_20 nofun (pc' := 23) rfl rfl rfl rfl (Nat.le_of_eq rfl) (by decide) (by decide) (by decide) (by decide) ?_
  intro b92 T92 L92 K92 tr92
  show Goes p_.tables e_ below_ _ (T92.setTop (mkF m_ 23 #[.val (.ref sb), .val (.long x), .second, .val (.int (Int32.ofNat xs.length)), .val (.int (Int32.ofNat (xs.length + (sg + szL n))))] [(.int (1 : Int32))]))
  replace sf_sb := tr92 sb X_sb.lt sf_sb
  replace sf_d' := tr92 d' X_d'.lt sf_d'
  refine k_if_eq K92 d_jdk_68_method_33_code_23 (by decide) (pc' := 40) (pc2 := 26) (by decide) rfl (fun q => absurd q (by decide)) (fun hc23 => ?_)
  refine k_lloadN K92 d_jdk_68_method_33_code_26 (pc' := 27) rfl rfl ?_
  refine k_iload K92 d_jdk_68_method_33_code_27 (pc' := 29) rfl rfl ?_
  refine k_aloadN K92 d_jdk_68_method_33_code_29 (pc' := 30) rfl rfl rfl ?_
  refine k_getF K92 (w100 hw) Via.refl F_sb_value d_jdk_68_method_33_code_30 (pc' := 33) rfl ?_
  intro T93 K93
  refine k_static K93 [(.long x), (.int (Int32.ofNat (xs.length + (sg + szL n)))), (.ref d')] [] 0 (w179 hw) (w180 hw) (w171 hw) (w181 hw) (by decide) pd__JI_B_I_1858 (c_lgetChars l Z a0 hw hEW n0 x n sg d' kd' cp' (xs.length + ys'.length) xs.length (xs.map Value.int ++ ys') od td ko kt_ OL TL h91 K93.old hx hcp' hcb' (by simp) (by omega) V_d' ga_d' SO VO hO ST_ VT_ hT) d_jdk_68_method_33_code_33 (fun x hx => by cases List.mem_singleton.mp hx; exact ⟨V_d'.lt, sf_d'⟩) (pc' := 36) rfl rfl rfl rfl (Nat.le_of_eq rfl) (by decide) (by decide) (by decide) (by decide) ?_
  intro b94 T94 h94 L94 v94 K94 tr94 q94
  obtain ⟨r, vs', rfl, KQ2, V2, lv, w1_, w3_, w2_⟩ := q94
  replace sf_sb := tr94 sb X_sb.lt sf_sb
  replace sf_d' := tr94 d' X_d'.lt sf_d'
  replace X_sb := X_sb.keep KQ2
  replace F_sb_value := F_sb_value.keep KQ2 (ninS ne_sb_d' nin0)
  replace F_sb_coder := F_sb_coder.keep KQ2 (ninS ne_sb_d' nin0)
  replace F_sb_count := F_sb_count.keep KQ2 (ninS ne_sb_d' nin0)
  replace X_d' := X_d'.keep KQ2
  replace KP := KP.trans KQ2 (allS (hd2.imp (fun q => by rw [q]; simp) id) all0)
  have hsp := own_split lv (by omega) w1_ w3_ w2_
  rw [hsp] at V2
  replace V_d' := V2
  show Goes p_.tables e_ below_ _ (T94.setTop (mkF m_ 36 #[.val (.ref sb), .val (.long x), .second, .val (.int (Int32.ofNat xs.length)), .val (.int (Int32.ofNat (xs.length + (sg + szL n))))] [(.int r)]))
  refine k_pop K94 d_jdk_68_method_33_code_36 (pc' := 37) rfl rfl ?_
  refine k_goto K94 d_jdk_68_method_33_code_37 (by decide) (pc' := 52) (by decide) ?_
  refine k_aloadN K94 d_jdk_68_method_33_code_52 (pc' := 53) rfl rfl rfl ?_
  refine k_iload K94 d_jdk_68_method_33_code_53 (pc' := 55) rfl rfl ?_
  refine k_putF K94 (w133 hw) Via.refl F_sb_count X_sb (Or.inl (w134 hw)) (w85 hw) (ty := .int) (by decide) rfl rfl ga_sb sf_sb d_jdk_68_method_33_code_55 (pc' := 58) rfl ?_
  intro T95 h95 K95 W95 tr95
  have F95 := F_sb_count.same W95
  replace sf_sb := tr95 sb X_sb.lt sf_sb
  replace sf_d' := tr95 d' X_d'.lt sf_d'
  replace X_sb := X_sb.wr W95
  replace F_sb_value := F_sb_value.other W95 (Or.inr (slot_ne (Or.inl (w101 hw)) (Or.inl (w134 hw)) (by decide) (t := (.array .byte)) (t' := .int) (by decide) (by decide)))
  replace F_sb_coder := F_sb_coder.other W95 (Or.inr (slot_ne (Or.inl (w103 hw)) (Or.inl (w134 hw)) (by decide) (t := .byte) (t' := .int) (by decide) (by decide)))
  replace X_d' := X_d'.wr W95
  replace V_d' := V_d'.other W95 (Ne.symm ne_sb_d')
  replace KP := KP.wr W95 (Or.inl (by simp))
  replace F_sb_count := F95
  refine k_aloadN K95 d_jdk_68_method_33_code_58 (pc' := 59) rfl rfl rfl ?_
  have hlen : xs.length + (sg + szL n) = (xs ++ num sg n).length := by rw [List.length_append, num_l]
  rw [hlen] at F_sb_count
  exact k_aret K95 d_jdk_68_method_33_code_59 rfl rfl rfl (fun sf ht => ⟨d', kd', cp', vs'.drop (xs.length + (sg + szL n)), rfl, KP, ⟨X_sb, F_sb_value, F_sb_coder, F_sb_count, V_d', X_d', by rw [hcp', List.length_append, num_l, List.length_drop, lv]; omega, by rw [List.length_append, num_l, List.length_drop, lv]; omega⟩, hd2, ht _ V_d'.lt sf_d'⟩) (by decide) (by decide)
theorem d_jdk_67_method_16_code_0 : decode jdk_67_method_16_code 0 = .ok (.aload_n 0, 1) := by decide +kernel
theorem d_jdk_67_method_16_code_1 : decode jdk_67_method_16_code 1 = .ok (.lload_n 1, 1) := by decide +kernel
theorem d_jdk_67_method_16_code_2 : decode jdk_67_method_16_code 2 = .ok (.invokespecial 56, 3) := by decide +kernel
theorem w165 {Z : State} {a0 : Array Value} (hw : Tb a0 Z) : (Jvm.Cond.methodLink "java/lang/StringBuilder" (56 : Nat) ({ cls := "java/lang/AbstractStringBuilder", name := "append", desc := "(J)Ljava/lang/AbstractStringBuilder;" } : Jvm.MethodName)).before a0 Z = true := hw _ (List.mem_of_getElem? (i := 165) rfl)
theorem w168 {Z : State} {a0 : Array Value} (hw : Tb a0 Z) : (Jvm.Cond.code ({ cls := "java/lang/AbstractStringBuilder", name := "append", desc := "(J)Ljava/lang/AbstractStringBuilder;" } : Jvm.MethodName) jdk_68_method_33_code (5 : Nat) (Option.some (Jvm.ClassFile.FieldType.object "java/lang/AbstractStringBuilder"))).before a0 Z = true := hw _ (List.mem_of_getElem? (i := 168) rfl)
theorem w166 {Z : State} {a0 : Array Value} (hw : Tb a0 Z) : (Jvm.Cond.instanceMethod ({ cls := "java/lang/AbstractStringBuilder", name := "append", desc := "(J)Ljava/lang/AbstractStringBuilder;" } : Jvm.MethodName)).before a0 Z = true := hw _ (List.mem_of_getElem? (i := 166) rfl)
theorem pd__J_Ljava_lang_AbstractStringBuilder__5811 : parseMethodDescriptor "(J)Ljava/lang/AbstractStringBuilder;" = some ⟨[.long], some (.object "java/lang/AbstractStringBuilder")⟩ := by decide +kernel
theorem d_jdk_67_method_16_code_5 : decode jdk_67_method_16_code 5 = .ok (.pop, 1) := by decide +kernel
theorem d_jdk_67_method_16_code_6 : decode jdk_67_method_16_code 6 = .ok (.aload_n 0, 1) := by decide +kernel
theorem d_jdk_67_method_16_code_7 : decode jdk_67_method_16_code 7 = .ok (.areturn, 1) := by decide +kernel
set_option maxRecDepth 65536 in
set_option maxHeartbeats 40000000 in
theorem c_sappJ (l : Launch) (Z : State) (a0 : Array Value) (hw : Tb a0 Z) (hEW : EW Z a0 EL0) (n0 : Nat) (sb d : Addr) (kd : ClassId) (cp : Int32) (xs : List Int32) (ys : List Value) (x : Int64) (n sg : Nat) (od td : Addr) (ko kt_ : ClassId) (OL TL : List Value) (cs0 : Int32) (h0 : Heap) (O : Old Z n0 h0) (B : Sbd Z h0 sb d kd cp xs ys) (ga_sb : n0 ≤ sb) (ga_d : n0 ≤ d) (ne_sb_d : sb ≠ d) (hx : Sg x n sg) (htot : xs.length + (sg + szL n) ≤ 70) (SO : Sta Z Z.heap "java/lang/Integer" "DigitOnes" "[B" (.ref od)) (VO : Arv Z Z.heap od ko .byte 100 OL (.int 0)) (hO : ∀ r, r < 100 → OL.getD r (.int 0) = .int (Int32.ofNat (48 + r % 10))) (ST_ : Sta Z Z.heap "java/lang/Integer" "DigitTens" "[B" (.ref td)) (VT_ : Arv Z Z.heap td kt_ .byte 100 TL (.int 0)) (hT : ∀ r, r < 100 → TL.getD r (.int 0) = .int (Int32.ofNat (48 + r / 10))) (SC : Sta Z Z.heap "java/lang/String" "COMPACT_STRINGS" "Z" (.int cs0)) (hcs : ¬ cs0 = 0) :
    Ct l Z EL0 n0 (⟨"java/lang/StringBuilder", "append", "(J)Ljava/lang/StringBuilder;"⟩ : MethodName) jdk_67_method_16_code 3 (some (.object "java/lang/StringBuilder")) ({ frames := 5, cells := 1, slots := 142, locals := 78 } : Room) #[(.ref sb), (.long x)] h0 [sb, d] (fun v h sf => ∃ d' kd' cp' ys', v = some (.ref sb) ∧ Keep h0 h [sb, d] ∧ Sbd Z h sb d' kd' cp' (xs ++ num sg n) ys' ∧ (d' = d ∨ h0.size ≤ d') ∧ sf d') := by
  refine Ct.of (a0 := a0) #[.val (.ref sb), .val (.long x), .second] hEW O (plainFor_of_name pl_java_lang_StringBuilder) (fun m => by first | (simp [entryFrame, mkF, argsToLocals, Value.category]; done) | rfl) ?_
  intro p_ e_ s_ m_ below_ meth_ c_ b_ T_ K hSP hsh
  have X_sb := B.1
  have V_d := B.2.2.2.2.1
  refine k_aloadN K d_jdk_67_method_16_code_0 (pc' := 1) rfl rfl rfl ?_
  refine k_lloadN K d_jdk_67_method_16_code_1 (pc' := 2) rfl rfl ?_
  refine k_super K [(.long x)] [] 0 (w165 hw) (own_same (y' := ({ cls := "java/lang/AbstractStringBuilder", name := "ensureCapacityInternal", desc := "(I)V" } : Jvm.MethodName)) rfl (w138 hw) (w166 hw) (by decide)) (w166 hw) (w117 hw) (by decide) (w94 hw) (w168 hw) (Ins.self X_sb) (by decide) pd__J_Ljava_lang_AbstractStringBuilder__5811 (c_appJ l Z a0 hw hEW n0 sb d kd cp xs ys x n sg od td ko kt_ OL TL cs0 h0 K.old B ga_sb ga_d ne_sb_d hx htot SO VO hO ST_ VT_ hT SC hcs) d_jdk_67_method_16_code_2 (fun x hx => by
    simp only [List.mem_cons, List.not_mem_nil, or_false] at hx
    rcases hx with rfl | rfl
    · exact ⟨X_sb.lt, hSP _ (by simp)⟩
    · exact ⟨V_d.lt, hSP _ (by simp)⟩) (pc' := 5) rfl rfl rfl rfl (Nat.le_of_eq rfl) (by decide) (by decide) (by decide) (by decide) ?_
  intro b96 T96 h96 L96 v96 K96 tr96 q96
  obtain ⟨d', kd', cp', ys', rfl, KQ, B2, hd', sf_d'⟩ := q96
  show Goes p_.tables e_ below_ _ (T96.setTop (mkF m_ 5 #[.val (.ref sb), .val (.long x), .second] [(.ref sb)]))
  refine k_pop K96 d_jdk_67_method_16_code_5 (pc' := 6) rfl rfl ?_
  refine k_aloadN K96 d_jdk_67_method_16_code_6 (pc' := 7) rfl rfl rfl ?_
  exact k_aret K96 d_jdk_67_method_16_code_7 rfl rfl rfl (fun sf ht => ⟨d', kd', cp', ys', rfl, KQ, B2, hd', ht _ B2.2.2.2.2.1.lt sf_d'⟩) (by decide) (by decide)
theorem w38 {Z : State} {a0 : Array Value} (hw : Tb a0 Z) : (Jvm.Cond.initialized "java/lang/Throwable").before a0 Z = true := hw _ (List.mem_of_getElem? (i := 38) rfl)
theorem w58 {Z : State} {a0 : Array Value} (hw : Tb a0 Z) : (Jvm.Cond.superclass "java/lang/Throwable" "java/lang/Object").before a0 Z = true := hw _ (List.mem_of_getElem? (i := 58) rfl)
theorem w53 {Z : State} {a0 : Array Value} (hw : Tb a0 Z) : (Jvm.Cond.instanceMethod ({ cls := "java/lang/Throwable", name := "fillInStackTrace", desc := "()Ljava/lang/Throwable;" } : Jvm.MethodName)).before a0 Z = true := hw _ (List.mem_of_getElem? (i := 53) rfl)
theorem w59 {Z : State} {a0 : Array Value} (hw : Tb a0 Z) : (Jvm.Cond.codeSync ({ cls := "java/lang/Throwable", name := "fillInStackTrace", desc := "()Ljava/lang/Throwable;" } : Jvm.MethodName) jdk_78_method_18_code (1 : Nat) (Option.some (Jvm.ClassFile.FieldType.object "java/lang/Throwable"))).before a0 Z = true := hw _ (List.mem_of_getElem? (i := 59) rfl)
theorem w60 {Z : State} {a0 : Array Value} (hw : Tb a0 Z) : (Jvm.Cond.instanceMethod ({ cls := "java/lang/Throwable", name := "fillInStackTrace", desc := "(I)Ljava/lang/Throwable;" } : Jvm.MethodName)).before a0 Z = true := hw _ (List.mem_of_getElem? (i := 60) rfl)
theorem w61 {Z : State} {a0 : Array Value} (hw : Tb a0 Z) : (Jvm.Cond.native ({ cls := "java/lang/Throwable", name := "fillInStackTrace", desc := "(I)Ljava/lang/Throwable;" } : Jvm.MethodName)).before a0 Z = true := hw _ (List.mem_of_getElem? (i := 61) rfl)
theorem w40 {Z : State} {a0 : Array Value} (hw : Tb a0 Z) : (Jvm.Cond.methodLink "java/lang/Throwable" (1 : Nat) ({ cls := "java/lang/Object", name := "<init>", desc := "()V" } : Jvm.MethodName)).before a0 Z = true := hw _ (List.mem_of_getElem? (i := 40) rfl)
theorem w51 {Z : State} {a0 : Array Value} (hw : Tb a0 Z) : (Jvm.Cond.methodLink "java/lang/Throwable" (27 : Nat) ({ cls := "java/lang/Throwable", name := "fillInStackTrace", desc := "()Ljava/lang/Throwable;" } : Jvm.MethodName)).before a0 Z = true := hw _ (List.mem_of_getElem? (i := 51) rfl)
theorem w62 {Z : State} {a0 : Array Value} (hw : Tb a0 Z) : (Jvm.Cond.methodLink "java/lang/Throwable" (202 : Nat) ({ cls := "java/lang/Throwable", name := "fillInStackTrace", desc := "(I)Ljava/lang/Throwable;" } : Jvm.MethodName)).before a0 Z = true := hw _ (List.mem_of_getElem? (i := 62) rfl)
theorem w43 {Z : State} {a0 : Array Value} (hw : Tb a0 Z) : (Jvm.Cond.fieldLink "java/lang/Throwable" (7 : Nat) "java/lang/Throwable" "cause" "Ljava/lang/Throwable;").before a0 Z = true := hw _ (List.mem_of_getElem? (i := 43) rfl)
theorem w46 {Z : State} {a0 : Array Value} (hw : Tb a0 Z) : (Jvm.Cond.fieldLink "java/lang/Throwable" (17 : Nat) "java/lang/Throwable" "stackTrace" "[Ljava/lang/StackTraceElement;").before a0 Z = true := hw _ (List.mem_of_getElem? (i := 46) rfl)
theorem w49 {Z : State} {a0 : Array Value} (hw : Tb a0 Z) : (Jvm.Cond.fieldLink "java/lang/Throwable" (24 : Nat) "java/lang/Throwable" "suppressedExceptions" "Ljava/util/List;").before a0 Z = true := hw _ (List.mem_of_getElem? (i := 49) rfl)
theorem w45 {Z : State} {a0 : Array Value} (hw : Tb a0 Z) : (Jvm.Cond.fieldLink "java/lang/Throwable" (13 : Nat) "java/lang/Throwable" "UNASSIGNED_STACK" "[Ljava/lang/StackTraceElement;").before a0 Z = true := hw _ (List.mem_of_getElem? (i := 45) rfl)
theorem w68 {Z : State} {a0 : Array Value} (hw : Tb a0 Z) : (Jvm.Cond.laysStatic "java/lang/Throwable" "UNASSIGNED_STACK" "[Ljava/lang/StackTraceElement;").before a0 Z = true := hw _ (List.mem_of_getElem? (i := 68) rfl)
theorem w48 {Z : State} {a0 : Array Value} (hw : Tb a0 Z) : (Jvm.Cond.fieldLink "java/lang/Throwable" (20 : Nat) "java/lang/Throwable" "SUPPRESSED_SENTINEL" "Ljava/util/List;").before a0 Z = true := hw _ (List.mem_of_getElem? (i := 48) rfl)
theorem w69 {Z : State} {a0 : Array Value} (hw : Tb a0 Z) : (Jvm.Cond.laysStatic "java/lang/Throwable" "SUPPRESSED_SENTINEL" "Ljava/util/List;").before a0 Z = true := hw _ (List.mem_of_getElem? (i := 69) rfl)
theorem w44 {Z : State} {a0 : Array Value} (hw : Tb a0 Z) : (Jvm.Cond.lays "com/example/warm_tariff/warmtariff/DecodingReader$Undecodable" "java/lang/Throwable" "cause" "Ljava/lang/Throwable;").before a0 Z = true := hw _ (List.mem_of_getElem? (i := 44) rfl)
theorem w47 {Z : State} {a0 : Array Value} (hw : Tb a0 Z) : (Jvm.Cond.lays "com/example/warm_tariff/warmtariff/DecodingReader$Undecodable" "java/lang/Throwable" "stackTrace" "[Ljava/lang/StackTraceElement;").before a0 Z = true := hw _ (List.mem_of_getElem? (i := 47) rfl)
theorem w50 {Z : State} {a0 : Array Value} (hw : Tb a0 Z) : (Jvm.Cond.lays "com/example/warm_tariff/warmtariff/DecodingReader$Undecodable" "java/lang/Throwable" "suppressedExceptions" "Ljava/util/List;").before a0 Z = true := hw _ (List.mem_of_getElem? (i := 50) rfl)
theorem w71 {Z : State} {a0 : Array Value} (hw : Tb a0 Z) : (Jvm.Cond.lays "com/example/warm_tariff/warmtariff/DecodingReader$Undecodable" "java/lang/Throwable" "detailMessage" "Ljava/lang/String;").before a0 Z = true := hw _ (List.mem_of_getElem? (i := 71) rfl)
theorem w72 {Z : State} {a0 : Array Value} (hw : Tb a0 Z) : (Jvm.Cond.lays "com/example/warm_tariff/warmtariff/DecodingReader$Undecodable" "java/lang/Throwable" "backtrace" "Ljava/lang/Object;").before a0 Z = true := hw _ (List.mem_of_getElem? (i := 72) rfl)
theorem w73 {Z : State} {a0 : Array Value} (hw : Tb a0 Z) : (Jvm.Cond.lays "com/example/warm_tariff/warmtariff/DecodingReader$Undecodable" "java/lang/Throwable" "depth" "I").before a0 Z = true := hw _ (List.mem_of_getElem? (i := 73) rfl)
theorem w66 {Z : State} {a0 : Array Value} (hw : Tb a0 Z) : (Jvm.Cond.fieldLink "java/lang/Throwable" (198 : Nat) "java/lang/Throwable" "backtrace" "Ljava/lang/Object;").before a0 Z = true := hw _ (List.mem_of_getElem? (i := 66) rfl)
theorem w56 {Z : State} {a0 : Array Value} (hw : Tb a0 Z) : (Jvm.Cond.soleField "java/lang/Throwable" "backtrace").before a0 Z = true := hw _ (List.mem_of_getElem? (i := 56) rfl)
theorem w57 {Z : State} {a0 : Array Value} (hw : Tb a0 Z) : (Jvm.Cond.soleField "java/lang/Throwable" "depth").before a0 Z = true := hw _ (List.mem_of_getElem? (i := 57) rfl)
theorem w55 {Z : State} {a0 : Array Value} (hw : Tb a0 Z) : (Jvm.Cond.arrayOver (Jvm.ClassFile.FieldType.object "java/lang/Object")).before a0 Z = true := hw _ (List.mem_of_getElem? (i := 55) rfl)
theorem w70 {Z : State} {a0 : Array Value} (hw : Tb a0 Z) : (Jvm.Cond.selects "com/example/warm_tariff/warmtariff/DecodingReader$Undecodable" ({ cls := "java/lang/Throwable", name := "fillInStackTrace", desc := "(I)Ljava/lang/Throwable;" } : Jvm.MethodName) ({ cls := "java/lang/Throwable", name := "fillInStackTrace", desc := "(I)Ljava/lang/Throwable;" } : Jvm.MethodName)).before a0 Z = true := hw _ (List.mem_of_getElem? (i := 70) rfl)
theorem w12 {Z : State} {a0 : Array Value} (hw : Tb a0 Z) : (Jvm.Cond.instantiable "com/example/warm_tariff/warmtariff/DecodingReader$Undecodable" (8 : Nat)).before a0 Z = true := hw _ (List.mem_of_getElem? (i := 12) rfl)
theorem w54 {Z : State} {a0 : Array Value} (hw : Tb a0 Z) : (Jvm.Cond.selects "com/example/warm_tariff/warmtariff/DecodingReader$Undecodable" ({ cls := "java/lang/Throwable", name := "fillInStackTrace", desc := "()Ljava/lang/Throwable;" } : Jvm.MethodName) ({ cls := "java/lang/Throwable", name := "fillInStackTrace", desc := "()Ljava/lang/Throwable;" } : Jvm.MethodName)).before a0 Z = true := hw _ (List.mem_of_getElem? (i := 54) rfl)
theorem w52 {Z : State} {a0 : Array Value} (hw : Tb a0 Z) : (Jvm.Cond.declares ({ cls := "java/lang/Throwable", name := "fillInStackTrace", desc := "()Ljava/lang/Throwable;" } : Jvm.MethodName)).before a0 Z = true := hw _ (List.mem_of_getElem? (i := 52) rfl)
set_option maxRecDepth 65536
abbrev UDn : String := "com/example/warm_tariff/warmtariff/DecodingReader$Undecodable"
def thrW : List Cond := [.initialized tN, .superclass tN "java/lang/Object", .instanceMethod tFill, .codeSync tFill Jvm.LibCode.Throwable.Fill.code 1 (some (.object tN)), .instanceMethod tFill0, .native tFill0, .instanceMethod oInit, .code oInit ⟨#[0xb1]⟩ 1 none,
  .methodLink tN 1 oInit, .methodLink tN 27 tFill, .methodLink tN 202 tFill0, .fieldLink tN 7 tN "cause" "Ljava/lang/Throwable;", .fieldLink tN 17 tN "stackTrace" steD, .fieldLink tN 24 tN "suppressedExceptions" listD, .fieldLink tN 13 tN "UNASSIGNED_STACK" steD, .laysStatic tN "UNASSIGNED_STACK" steD,
  .fieldLink tN 20 tN "SUPPRESSED_SENTINEL" listD, .laysStatic tN "SUPPRESSED_SENTINEL" listD, .lays UDn tN "cause" "Ljava/lang/Throwable;", .lays UDn tN "stackTrace" steD, .lays UDn tN "suppressedExceptions" listD, .lays UDn tN "detailMessage" "Ljava/lang/String;", .lays UDn tN "backtrace" "Ljava/lang/Object;", .lays UDn tN "depth" "I",
  .fieldLink tN 198 tN "backtrace" "Ljava/lang/Object;", .soleField tN "backtrace", .soleField tN "depth", .arrayOver (.object "java/lang/Object"), .selects UDn tFill0 tFill0]
theorem thrW_ok : thrW.all xOk = true := rfl
theorem own_thrW {Z : State} {a0 : Array Value} (hw : Tb a0 Z) : ∀ d ∈ thrW, d.before a0 Z = true := fun d hd => by
  simp only [thrW, List.mem_cons, List.not_mem_nil, or_false] at hd
  rcases hd with rfl | rfl | rfl | rfl | rfl | rfl | rfl | rfl | rfl | rfl | rfl | rfl | rfl | rfl | rfl | rfl | rfl | rfl | rfl | rfl | rfl | rfl | rfl | rfl | rfl | rfl | rfl | rfl | rfl
  · exact (w38 hw)
  · exact (w58 hw)
  · exact (w53 hw)
  · exact (w59 hw)
  · exact (w60 hw)
  · exact (w61 hw)
  · exact (w41 hw)
  · exact (w42 hw)
  · exact (w40 hw)
  · exact (w51 hw)
  · exact (w62 hw)
  · exact (w43 hw)
  · exact (w46 hw)
  · exact (w49 hw)
  · exact (w45 hw)
  · exact (w68 hw)
  · exact (w48 hw)
  · exact (w69 hw)
  · exact (w44 hw)
  · exact (w47 hw)
  · exact (w50 hw)
  · exact (w71 hw)
  · exact (w72 hw)
  · exact (w73 hw)
  · exact (w66 hw)
  · exact (w56 hw)
  · exact (w57 hw)
  · exact (w55 hw)
  · exact (w70 hw)
/-- the tables of Throwable, by the words on Undecodable's own layout -/
theorem own_thr {args : Array Value} {s : State} {pl : Platform} (howns : pl.frameOwnsMonitors = true) (hfin : pl.finalization = false) (hpl : pl.magicAccessors = ({} : Platform).magicAccessors) (W : ∀ d ∈ thrW, d.before args s = true) :
    ∃ (T : ThrowableC) (cX : ClassId) (kX : Class) (fD : Field) (B : BackC), T.Links pl s ∧ s.vm.findClass tN = some T.cT ∧ s.methodNamed? tFill = some T.fill ∧ s.methodNamed? tFill0 = some T.fill0 ∧
      (∃ i, s.fieldFound? tN "stackTrace" steD = some (T.cT, T.kT, i, T.fStack)) ∧ (∃ i, s.fieldFound? tN "UNASSIGNED_STACK" steD = some (T.cT, T.kT, i, T.fUnassigned)) ∧ T.fStack.type = .array (.object "java/lang/StackTraceElement") ∧
      s.vm.findClass UDn = some cX ∧ s.vm.classes[cX]? = some kX ∧ kX.instanceTypes[T.fStack.slot]? = some T.fStack.type ∧ B.Links T pl s ∧ (∃ i, s.fieldFound? tN "backtrace" "Ljava/lang/Object;" = some (T.cT, T.kT, i, B.fBack)) ∧ B.fBack.type = .object "java/lang/Object" ∧ kX.instanceTypes[B.fBack.slot]? = some B.fBack.type ∧
      fD.type = .int ∧ kX.instanceTypes[fD.slot]? = some fD.type ∧ T.kT.fields.find? (fun f => f.name == "backtrace" && !f.isStatic) = some B.fBack ∧ T.kT.fields.find? (fun f => f.name == "depth" && !f.isStatic) = some fD := by
  have w : ∀ (i : Nat) {d : Cond}, thrW[i]? = some d → d.holds args s none s [] = true := fun i d q => W d (List.mem_of_getElem? q)
  obtain ⟨⟨c, i0⟩, meth0, hn0, hm0, hnat0, hcode0, hlk0, hsig0⟩ := Cond.native_spec (w 5 rfl)
  have hc : s.vm.findClass tN = some c := findClass_of_methodNamed hn0
  obtain ⟨k, hk, hname⟩ := Vm.findClass_spec hc
  obtain ⟨_, k1, _, _, hk1, _, _, hord, _, hni⟩ := Cond.superclass_spec hc (w 1 rfl)
  cases hk.symm.trans hk1
  obtain ⟨iF, methF, hnF, hmF, hatF, hstF, habF, -, -⟩ := Cond.ownMethod (x := tFill) hc hk (w 2 rfl)
  obtain ⟨methF', cF, hmF', hcF, hbF, hlF, hrF, hlkF, -, hsigF⟩ := Cond.codeSync_spec hnF (w 3 rfl)
  cases hmF.symm.trans hmF'
  obtain ⟨i0', meth0', hn0', hm0', hat0, hst0, hab0, hnm0, hds0⟩ := Cond.ownMethod (x := tFill0) hc hk (w 4 rfl)
  cases hn0.symm.trans hn0'
  cases hm0.symm.trans hm0'
  obtain ⟨mO, methO, hnO, hmO, hstO, habO⟩ := Cond.instanceMethod_spec (w 6 rfl)
  obtain ⟨methO', cO, hmO', hcO, hbO, hlO, -, hlkO, -, hsigO⟩ := Cond.code_spec hnO (w 7 rfl)
  cases hmO.symm.trans hmO'
  obtain ⟨kO, hkO, hnameO⟩ := Vm.findClass_spec (findClass_of_methodNamed hnO)
  obtain ⟨hnmO, hdsO⟩ := name_of_methodNamed hnO hmO
  obtain ⟨ci1, n1, cf, hl1, hr1, hcf, hp1⟩ := Cond.linkedMethod hc hk hnO (w 8 rfl) pl hpl
  obtain ⟨ci27, n27, cf2, hl27, hr27, hcf2, hp27⟩ := Cond.linkedMethod hc hk hnF (w 9 rfl) pl hpl
  cases hcf.symm.trans hcf2
  obtain ⟨ci202, n202, cf3, hl202, hr202, hcf3, hp202⟩ := Cond.linkedMethod hc hk hn0 (w 10 rfl) pl hpl
  cases hcf.symm.trans hcf3
  obtain ⟨ci7, i7, f7, hk7, hg7, ha7, hs7, hf7, hn7, ht7, hff7⟩ := Cond.ownField (t := .object tN) hc hk (by decide +kernel) (w 11 rfl) (w 18 rfl) pl hpl
  obtain ⟨ci17, i17, f17, hk17, hg17, ha17, hs17, hf17, hn17, ht17, hff17⟩ := Cond.ownField (t := .array (.object "java/lang/StackTraceElement")) hc hk (by decide +kernel) (w 12 rfl) (w 19 rfl) pl hpl
  obtain ⟨ci24, i24, f24, hk24, hg24, ha24, hs24, hf24, hn24, ht24, hff24⟩ := Cond.ownField (t := .object "java/util/List") hc hk (by decide +kernel) (w 13 rfl) (w 20 rfl) pl hpl
  obtain ⟨ci13, i13, f13, aS, cellS, hk13, hg13, ha13, hs13, -, -, hsta, hcellS, hissS, -, -, hff13⟩ := Cond.ownStatic (t := .array (.object "java/lang/StackTraceElement")) hc hk (by decide +kernel) (w 14 rfl) (w 15 rfl) pl hpl
  obtain ⟨ci20, i20, f20, _, _, hk20, hg20, ha20, hs20, -, -, -, -, -, -, -, hff20⟩ := Cond.ownStatic (t := .object "java/util/List") hc hk (by decide +kernel) (w 16 rfl) (w 17 rfl) pl hpl
  obtain ⟨ci198, i198, fB, hk198, hg198, ha198, hsB, -, hnB, htB, hffB⟩ := Cond.ownField (t := .object "java/lang/Object") hc hk (by decide +kernel) (w 24 rfl) (w 22 rfl) pl hpl
  obtain ⟨cX, kX, _, _, _, fM, hfX, hkX, hffM, hsM, hfM, -⟩ := Cond.lays_spec (w 21 rfl)
  obtain ⟨_, _, cD, kD, iD, fD, -, -, hffD, hstD, -⟩ := Cond.lays_spec (w 23 rfl)
  cases hc.symm.trans (Cond.lays_declared (w 23 rfl) hffD)
  obtain ⟨hkD, hatD⟩ := State.fieldFound?_spec hffD
  cases hk.symm.trans hkD
  obtain ⟨hnD, htD⟩ := State.fieldFound?_type hffD (t := .int) (by decide +kernel)
  obtain ⟨tyS, dS, hdS, hdnS⟩ := Cond.laysAt hfX hkX hff17 (w 19 rfl)
  obtain ⟨tyP, dP, hdP, hdnP⟩ := Cond.laysAt hfX hkX hff24 (w 20 rfl)
  obtain ⟨tyB, -⟩ := Cond.laysAt hfX hkX hffB (w 22 rfl)
  obtain ⟨tyD, -⟩ := Cond.laysAt hfX hkX hffD (w 23 rfl)
  have sP := Cond.laysApart hdS hdP hdnS hdnP (by rw [hn17, hn24]; decide)
  have hfb := Cond.soleField_find hc hk (w 25 rfl) ha198 hnB hsB
  have hfd := Cond.soleField_find hc hk (w 26 rfl) hatD hnD hstD
  have pF : methF.sig.parameters = [] := by
    have q : (parseMethodDescriptor tFill.desc).map (·.parameters) = some [] := by decide +kernel
    rw [hsigF] at q; simpa using q
  have p0 : meth0.sig.parameters = [.int] := by
    have q : (parseMethodDescriptor tFill0.desc).map (·.parameters) = some [.int] := by decide +kernel
    rw [hsig0] at q; simpa using q
  have pO : methO.sig.parameters.length = 0 := by
    have q : (parseMethodDescriptor oInit.desc).map (·.parameters) = some [] := by decide +kernel
    rw [hsigO] at q
    have q2 : methO.sig.parameters = [] := by simpa using q
    rw [q2]; rfl
  refine ⟨{ cT := c, kT := k, cO := c, aS := aS, fillIdx := iF, fill0Idx := i0, initSIdx := iF, obj := mO, kObj := kO, methFill := methF, methFill0 := meth0, methInitS := methF, methObj := methO, codeFill := cF, codeInitS := cF, codeObj := cO,
              fBack := fB, fDepth := fD, fStack := f17, fCause := f7, fSupp := f24, fMsg := fM, fUnassigned := f13, fSentinel := f20, cfT := cf, ci1 := ci1, n1 := n1, ci27 := ci27, n27 := n27, ci202 := ci202, n202 := n202,
              ci7 := ci7, i7 := i7, ci13 := ci13, i13 := i13, ci17 := ci17, i17 := i17, ci20 := ci20, i20 := i20, ci24 := ci24, i24 := i24 }, cX, kX, fD, { ci198 := ci198, i198 := i198, fBack := fB }, ?_, hc, hnF, hn0, ⟨_, hff17⟩, ⟨_, hff13⟩, ht17, hfX, hkX, tyS, ⟨hk198, hg198, ha198, hsB⟩, ⟨_, hffB⟩, htB, tyB, htD, tyD, hfb, hfd⟩
  exact { owns := howns, noFinalization := hfin, cls := hk, name := hname, boot := Vm.findClass_boot hc hk, notInterface := hni, initialized := Cond.initialized_spec hc hk (w 0 rfl), statics := hsta,
          fillAt := hatF, fillCode := hcF, fillBytes := hbF, fillLocals := hlF, fillLocks := hlkF, fillStatic := hstF, fillAbstract := habF, fillReturns := hrF, fillParams := pF,
          fill0At := hat0, fill0Name := hnm0, fill0Desc := hds0, fill0Params := p0, fill0Static := hst0, fill0Native := hnat0, fill0Code := hcode0, fill0Locks := hlk0, fill0Abstract := hab0,
          stackInstance := hs17, stackNotFinal := hf17, unassignedStatic := hs13, objClass := hkO, objClassName := hnameO, objMethod := hmO, objName := hnmO, objStatic := hstO, objAbstract := habO, objFound := by rw [hdsO]; exact lookupSpecial_of_named hnO hmO hstO, objParams := pO,
          objCode := hcO, objBytes := hbO, objLocks := hlkO, causeInstance := hs7, causeNotFinal := hf7, sentinelStatic := hs20, suppInstance := hs24, suppNotFinal := hf24, msgInstance := hsM, msgNotFinal := hfM, stackApartSupp := sP,
          file := hcf, mlink1 := hl1, mright1 := hr1, pool1 := hp1, mlink27 := hl27, mright27 := hr27, pool27 := hp27, mlink202 := hl202, mright202 := hr202, pool202 := hp202,
          link7 := hk7, right7 := hg7, at7 := ha7, link13 := hk13, right13 := hg13, at13 := ha13, link17 := hk17, right17 := hg17, at17 := ha17, link20 := hk20, right20 := hg20, at20 := ha20, link24 := hk24, right24 := hg24, at24 := ha24 }
section OwnFill
variable {p : Program} {l : Launch} {e : Env} {R : Room} {s : State} {m : MethodId} {args : Array Value} {below : List Frame} {meth : Method} {c : Code} {Z : State} {a0 : Array Value} {EL : List (String × Nat)} {n0 : Nat} {y : MethodName} {bytes : ByteArray} {maxL : Nat} {ret : Option FieldType} {b : State} {T : State} {h : Heap} {locs : List Loc} {cells slots : Nat} {P : Outcome → State → Prop} {pc pc' : Nat} {Ls : Array Slot}
theorem own_keepS (X : Stand p l e R b m args below meth c T locs cells slots) {h0 : Heap} (hb : b.heap = h0) {a : Addr} (hl : ∀ x ∈ locs, x.base = a) : Keep h0 T.heap [a] := by
  subst hb
  refine ⟨?_, fun x cl q ne => ?_, fun x cl q => ?_⟩
  · rcases Nat.eq_zero_or_pos b.heap.size with z | z
    · omega
    · obtain ⟨c', q, -⟩ := X.same.2.2.2.2.2 (b.heap.size - 1) _ (Array.getElem?_eq_getElem (by omega))
      have q2 : T.heap[b.heap.size - 1]? = some c' := q
      have := (Array.getElem?_eq_some_iff.mp q2).1
      omega
  · obtain ⟨c', q1, q2, q3, q4⟩ := X.same.2.2.2.2.2 x cl q
    have e : c'.slots = cl.slots := Array.ext_getElem? fun i => q4 i fun hm => ne (by simpa using hl _ hm)
    have q5 : T.heap[x]? = some c' := q1
    rw [q5, q2, e]
  · obtain ⟨c', q1, q2, q3, -⟩ := X.same.2.2.2.2.2 x cl q
    exact ⟨c', q1, by rw [q2], by rw [q2], q3⟩
theorem own_keepM {h0 h h' : Heap} {a : Addr} (A : Keep h0 h [a]) (B : Keep h0 h' [a]) (e : h.size = h0.size) : Keep h h' [a] := by
  have old : ∀ x (cl : Cell), h[x]? = some cl → ∃ c0 : Cell, h0[x]? = some c0 := fun x cl q => by
    have hx := (Array.getElem?_eq_some_iff.mp q).1
    exact ⟨_, Array.getElem?_eq_getElem (by omega)⟩
  refine ⟨by rw [e]; exact B.1, fun x cl q ne => ?_, fun x cl q => ?_⟩
  · obtain ⟨c0, q0⟩ := old x cl q
    cases q.symm.trans (A.2.1 x c0 q0 ne)
    exact B.2.1 x _ q0 ne
  · obtain ⟨c0, q0⟩ := old x cl q
    obtain ⟨c1, r1, r2, r3, r4⟩ := A.2.2 x c0 q0
    cases q.symm.trans r1
    obtain ⟨c2, t1, t2, t3, t4⟩ := B.2.2 x c0 q0
    exact ⟨c2, t1, t2.trans r2.symm, t3.trans r3.symm, t4.trans r4.symm⟩
set_option maxHeartbeats 4000000 in
/-- Throwable.fillInStackTrace() of the object a, called in Throwable's own constructor -/
theorem k_fill (K : Wk p l e R s m args below meth c Z a0 EL n0 y bytes maxL ret b T h locs cells slots) (hyc : y.cls = tN) (hw : Tb a0 Z) (hl : l.stackTraces = true) {h0 : Heap} (hsh : s.heap = h0) (O0 : Old Z n0 h0) {a : Addr} {u0 : Value} (hu0 : u0.isRef = true) (SU : Sta Z Z.heap tN "UNASSIGNED_STACK" steD u0)
    (E : Exa Z h a UDn) (N : Unt h a) (FS : Fld Z h a tN "stackTrace" steD u0) (FB : Fld Z h a tN "backtrace" "Ljava/lang/Object;" .null) (ga : n0 ≤ a) (sf : Sfe Z EL b.vm h a) (KQ : Keep h0 h [a]) (esz : h.size = h0.size) (hlb : ∀ x ∈ locs, x.base = a)
    (hd : decode bytes pc = .ok (.invokevirtual 27, 3)) (hp : pc + 3 = pc') (hsz : Ls.size = maxL) (hfr : 2 < R.frames) (hlo : 42 ≤ R.locals) (hce : cells + 1 ≤ R.cells) (hsl : slots + 2752 ≤ R.slots)
    (k : ∀ T' h' locs', Wk p l e R s m args below meth c Z a0 EL n0 y bytes maxL ret b T' h' locs' (cells + 1) (slots + 2752) → Keep h0 h' [a] → Goes p.tables e below P (T'.setTop (mkF m pc' Ls [.ref a]))) : Goes p.tables e below P (T.setTop (mkF m pc Ls [.ref a])) := by
  subst hp
  obtain ⟨⟨vm0, k0, eb, g1, g2⟩, g3, g4⟩ := K.bs
  have hbh : b.heap = h0 := by rw [eb]; exact hsh
  have hT0 : ThS Z b.heap := by rw [hbh]; exact ThS.ext O0.2 ThS.start
  have Wb : ∀ d ∈ thrW, d.before args b = true := fun d hd => mvX hT0 K.hZ (List.all_eq_true.mp thrW_ok d hd) (own_thrW hw d hd)
  have htr : e.platform.stackTraces = true := by rw [K.X.admits.platform]; exact hl
  obtain ⟨Tt, cX, kX, fD, Bk, L, hfT, hnF, hn0, ⟨iS, hfS⟩, ⟨iU, hfU⟩, htyS, hfX, hkX, tyS, LB, ⟨iB, hfB⟩, htyB, tyB, htyD, tyD, hfb, hfd⟩ := own_thr (pl := e.platform) (by rw [K.X.admits.platform]) (by rw [K.X.admits.platform]) (by rw [K.X.admits.platform]) Wb
  obtain ⟨cell, kc, c1, c2, c3, c4, c5⟩ := E
  obtain ⟨cell', n1, n2, n3⟩ := N
  cases c1.symm.trans n1
  obtain ⟨cell2, cf, kf, i, f, f1, f2, f3, f4, f5, f6, f7⟩ := FS
  cases c1.symm.trans f1
  obtain ⟨cell3, cfB, kfB, iB2, fB2, b1, b2, b3, b4, b5, b6, b7⟩ := FB
  cases c1.symm.trans b1
  have f8 : cell.slots[Tt.fStack.slot]? = some u0 := by
    obtain ⟨k', q1, -⟩ := State.fieldFound?_setVm (s := Z) K.hZ.alike f2
    cases (show b.fieldFound? tN "stackTrace" steD = _ from q1).symm.trans hfS
    exact f7
  have b8 : cell.slots[Bk.fBack.slot]? = some .null := by
    obtain ⟨k', q1, -⟩ := State.fieldFound?_setVm (s := Z) K.hZ.alike b2
    cases (show b.fieldFound? tN "backtrace" "Ljava/lang/Object;" = _ from q1).symm.trans hfB
    exact b7
  obtain ⟨cU, iU2, kU, fU, stU, cellS, s1, s2, s3, s4, s5, s6, s7⟩ := SU.ext K.old.2
  have hS8 : Tt.aS = stU ∧ cellS.slots[Tt.fUnassigned.slot]? = some u0 := by
    obtain ⟨k', q1, hek⟩ := State.fieldFound?_setVm (s := Z) K.hZ.alike s1
    have q2 := (show b.fieldFound? tN "UNASSIGNED_STACK" steD = _ from q1).symm.trans hfU
    simp only [Option.some.injEq, Prod.mk.injEq] at q2
    obtain ⟨-, hkk, -, hff⟩ := q2
    have h1 := L.statics
    rw [← hkk, hek] at h1
    exact ⟨(Option.some.inj (h1.symm.trans s4)), by rw [← hff]; exact s7⟩
  obtain ⟨e4, hvU⟩ := hS8
  have hneS : Tt.aS ≠ a := fun q => by
    rw [← e4, q] at s5
    cases s5.symm.trans c1
    rw [s6] at c4; cases c4
  obtain ⟨c6, k6, i1, i2, i3, -⟩ := Cond.instantiable_spec (w12 hw)
  cases c2.symm.trans i1
  cases c3.symm.trans i2
  obtain ⟨kc', r1, r2⟩ := K.hZ.alike.2.2 _ _ c3
  have eX : b.vm.findClass UDn = some cell.cls := by rw [K.hZ.alike.findClass]; exact c2
  cases hfX.symm.trans eX
  cases hkX.symm.trans r1
  have hordX : kX.kind = .ordinary := by rw [r2]; exact i3
  have hszX : cell.slots.size = kX.instanceTypes.size := by rw [r2]; exact c5 i3
  have tk : ∀ {f : Field} {v : Value}, kX.instanceTypes[f.slot]? = some f.type → fits f.type v = true → Jvm.Takes b cell f v := fun {f v} h1 h2 => by
    obtain ⟨q1, q2⟩ := Takes.of_laid (v := v) hkX hordX h1 h2
    exact ⟨by rw [hszX]; simpa using q1, by rw [n2]; exact q2⟩
  have hsel0 : selectMethod e.platform b.vm cell.cls Tt.fill0 = .method Tt.fill0 := by
    obtain ⟨z0, zr, zm, z1, z2, z3, z4, -⟩ := Cond.selects_spec (show (Cond.selects UDn tFill0 tFill0).holds args b none b [] = true from Wb _ (List.mem_of_getElem? (i := 28) rfl))
    cases z1.symm.trans hfX
    cases z2.symm.trans (State.methodFound?_of_named hn0 (by decide))
    cases z3.symm.trans hn0
    rw [Launch.admits_selectMethod K.X.admits]; exact z4
  obtain ⟨comp, cO, kO, -, -, hkO, hkindO, hO⟩ := Cond.arrayOver_spec (show (Cond.arrayOver (.object "java/lang/Object")).holds args b none b [] = true from Wb _ (List.mem_of_getElem? (i := 27) rfl))
  have hSE : (Cond.selects UDn tFill tFill).before args b = true := mvT K.hZ (w54 hw)
  obtain ⟨v6, vm6, ⟨T6, L6, c6', n6⟩, hW6, X6, ⟨hv6, C6, n, hn, hD6, -, -, -, -, hL6, hc6, hn6⟩, come27⟩ := K.X.virtualBack K.hx (own := tN) (C := UDn) (index := 27) (y := tFill) (z := tFill) (by rw [← hyc]; exact K.hown) (mvT K.hZ (w51 hw)) (mvT K.hZ (w52 hw)) (notFace_of_selects hSE) hSE (mvT K.hZ (w53 hw)) (by decide)
    (Jvm.Free.Exc.fillPaysAny (l := l) (W := 0) K.hx htr Tt L hnF (u0 := ⟨u0, hu0⟩) (self := a) (cell := cell) (cellS := cellS) (fun _ => by rw [n2]; simp) (by rw [n2]; simp) (by rw [n3]) (by rw [n3]) f8 hsel0 hneS (fun q => by rw [q] at s6; cases s6) hvU (tk tyS (by rw [htyS]; exact fits_refV_array _ ⟨u0, hu0⟩))
      ⟨Bk, LB, b8⟩ K.kn.1 K.kn.2 hfT hO hkO hkindO hfb hfd (fun x => tk tyB (by rw [htyB]; rfl)) (fun x => tk tyD (by rw [htyD]; rfl)) hfr (by omega))
    (b := a) (cB := cell.cls) hfX ⟨cell, by rw [K.eT]; exact c1, rfl, by rw [n2]; rfl⟩ (g := mkF m pc Ls [.ref a]) rfl (hsz.trans K.hml.symm) (Steps.refl _) (argsL := []) (rest := [])
    (fun sig h => by rw [show parseMethodDescriptor tFill.desc = some ⟨[], some (.object tN)⟩ from by decide +kernel] at h; rw [← Option.some.inj h]; rfl) rfl (by show 2 * 0 + 0 ≤ 0; decide) (hb K.hby hd)
    (fun vmx hWx => ⟨rfl, hce, hsl, by show T.heap[a]? = _; rw [K.eT]; exact c1, by show T.heap[Tt.aS]? = _; rw [K.eT, e4]; exact s5⟩)
  dsimp only [Pt.U, Pt.locs, Pt.cells, Pt.slots] at X6 hD6 hL6 hc6 hn6 come27
  subst hv6 hL6 hc6 hn6
  have hnew : ∀ x ∈ ([⟨a, Bk.fBack.slot⟩, ⟨a, fD.slot⟩, ⟨a, Tt.fStack.slot⟩] : List Loc), x.base = a := fun x hx => by
    simp only [List.mem_cons, List.not_mem_nil, or_false] at hx
    rcases hx with rfl | rfl | rfl <;> rfl
  have KQ2 : Keep h0 T6.heap [a] := own_keepS X6 hbh fun x hx => (List.mem_append.mp hx).elim (hlb x) (hnew x)
  have KQ3 : Keep h T6.heap [a] := own_keepM KQ KQ2 esz
  exact go (fun t q => come27.trans q) (k T6 T6.heap _ (K.move (X6.more (Nat.le_refl _) (Nat.add_le_add_left hn _)) rfl (K.fr.app fun y hy => by rw [hnew y hy]; exact ga) (O0.keep KQ2 fun x hx => by cases List.mem_singleton.mp hx; exact ga) (bs_keep K KQ3 sf)) KQ2)
end OwnFill
theorem d_jdk_78_method_1_code_0 : decode jdk_78_method_1_code 0 = .ok (.aload_n 0, 1) := by decide +kernel
theorem d_jdk_78_method_1_code_1 : decode jdk_78_method_1_code 1 = .ok (.invokespecial 1, 3) := by decide +kernel
theorem d_jdk_78_method_1_code_4 : decode jdk_78_method_1_code 4 = .ok (.aload_n 0, 1) := by decide +kernel
theorem d_jdk_78_method_1_code_5 : decode jdk_78_method_1_code 5 = .ok (.aload_n 0, 1) := by decide +kernel
theorem d_jdk_78_method_1_code_6 : decode jdk_78_method_1_code 6 = .ok (.putfield 7, 3) := by decide +kernel
theorem d_jdk_78_method_1_code_9 : decode jdk_78_method_1_code 9 = .ok (.aload_n 0, 1) := by decide +kernel
theorem d_jdk_78_method_1_code_10 : decode jdk_78_method_1_code 10 = .ok (.getstatic 13, 3) := by decide +kernel
theorem d_jdk_78_method_1_code_13 : decode jdk_78_method_1_code 13 = .ok (.putfield 17, 3) := by decide +kernel
theorem d_jdk_78_method_1_code_16 : decode jdk_78_method_1_code 16 = .ok (.aload_n 0, 1) := by decide +kernel
theorem d_jdk_78_method_1_code_17 : decode jdk_78_method_1_code 17 = .ok (.getstatic 20, 3) := by decide +kernel
theorem d_jdk_78_method_1_code_20 : decode jdk_78_method_1_code 20 = .ok (.putfield 24, 3) := by decide +kernel
theorem d_jdk_78_method_1_code_23 : decode jdk_78_method_1_code 23 = .ok (.aload_n 0, 1) := by decide +kernel
theorem d_jdk_78_method_1_code_24 : decode jdk_78_method_1_code 24 = .ok (.invokevirtual 27, 3) := by decide +kernel
theorem d_jdk_78_method_1_code_27 : decode jdk_78_method_1_code 27 = .ok (.pop, 1) := by decide +kernel
theorem d_jdk_78_method_1_code_28 : decode jdk_78_method_1_code 28 = .ok (.return_, 1) := by decide +kernel
theorem pl_java_lang_Throwable : plainName "java/lang/Throwable" = true := by first | (simp [plainName, overriddenIn]; done) | decide +kernel
set_option maxRecDepth 65536 in
set_option maxHeartbeats 40000000 in
theorem c_thr (l : Launch) (Z : State) (a0 : Array Value) (hw : Tb a0 Z) (hEW : EW Z a0 EL0) (n0 : Nat) (a : Addr) (u0 u1 c1 c2 c3 : Value) (h0 : Heap) (O : Old Z n0 h0) (hl_ : l.stackTraces = true) (X_a : Exa Z h0 a "com/example/warm_tariff/warmtariff/DecodingReader$Undecodable") (N_a : Unt h0 a) (F_a_cause : Fld Z h0 a "java/lang/Throwable" "cause" "Ljava/lang/Throwable;" c1) (F_a_stackTrace : Fld Z h0 a "java/lang/Throwable" "stackTrace" "[Ljava/lang/StackTraceElement;" c2) (F_a_suppressedExceptions : Fld Z h0 a "java/lang/Throwable" "suppressedExceptions" "Ljava/util/List;" c3) (F_a_backtrace : Fld Z h0 a "java/lang/Throwable" "backtrace" "Ljava/lang/Object;" .null) (ga_a : n0 ≤ a) (SU : Sta Z Z.heap "java/lang/Throwable" "UNASSIGNED_STACK" "[Ljava/lang/StackTraceElement;" u0) (hu0 : u0.isRef = true) (SS : Sta Z Z.heap "java/lang/Throwable" "SUPPRESSED_SENTINEL" "Ljava/util/List;" u1) (hu1 : u1.isRef = true) :
    Ct l Z EL0 n0 (⟨"java/lang/Throwable", "<init>", "()V"⟩ : MethodName) jdk_78_method_1_code 1 none ({ frames := 3, cells := 1, slots := 2752, locals := 42 } : Room) #[(.ref a)] h0 [a] (fun v h sf => v = none ∧ Keep h0 h [a]) := by
  refine Ct.of (a0 := a0) #[.val (.ref a)] hEW O (plainFor_of_name pl_java_lang_Throwable) (fun m => by first | (simp [entryFrame, mkF, argsToLocals, Value.category]; done) | rfl) ?_
  intro p_ e_ s_ m_ below_ meth_ c_ b_ T_ K hSP hsh
  have KP := Keep.refl h0 [a]
  have sf_a := hSP a (by simp)
  refine k_aloadN K d_jdk_78_method_1_code_0 (pc' := 1) rfl rfl rfl ?_
  refine k_initO K (w40 hw) (w41 hw) (w42 hw) d_jdk_78_method_1_code_1 (pc' := 4) rfl rfl (by decide) 0 (Nat.le_of_eq rfl) (by decide) ?_
  intro T97 K97
  refine k_aloadN K97 d_jdk_78_method_1_code_4 (pc' := 5) rfl rfl rfl ?_
  refine k_aloadN K97 d_jdk_78_method_1_code_5 (pc' := 6) rfl rfl rfl ?_
  refine k_putF K97 (w43 hw) Via.refl F_a_cause X_a (Or.inl (w44 hw)) (w12 hw) (ty := (.object "java/lang/Throwable")) (by decide) rfl rfl ga_a sf_a d_jdk_78_method_1_code_6 (pc' := 9) rfl ?_
  intro T98 h98 K98 W98 tr98
  have F98 := F_a_cause.same W98
  replace sf_a := tr98 a X_a.lt sf_a
  replace X_a := X_a.wr W98
  replace F_a_stackTrace := F_a_stackTrace.other W98 (Or.inr (slot_ne (Or.inl (w47 hw)) (Or.inl (w44 hw)) (by decide) (t := (.array (.object "java/lang/StackTraceElement"))) (t' := (.object "java/lang/Throwable")) (by decide) (by decide)))
  replace F_a_suppressedExceptions := F_a_suppressedExceptions.other W98 (Or.inr (slot_ne (Or.inl (w50 hw)) (Or.inl (w44 hw)) (by decide) (t := (.object "java/util/List")) (t' := (.object "java/lang/Throwable")) (by decide) (by decide)))
  replace F_a_backtrace := F_a_backtrace.other W98 (Or.inr (slot_ne (Or.inl (w72 hw)) (Or.inl (w44 hw)) (by decide) (t := (.object "java/lang/Object")) (t' := (.object "java/lang/Throwable")) (by decide) (by decide)))
  replace N_a := Unt.wr W98 N_a
  replace KP := KP.wr W98 (Or.inl (by simp))
  replace F_a_cause := F98
  refine k_aloadN K98 d_jdk_78_method_1_code_9 (pc' := 10) rfl rfl rfl ?_
  refine k_getS K98 (w45 hw) Via.refl SU d_jdk_78_method_1_code_10 (pc' := 13) rfl ?_
  intro T99 K99
  refine k_putF K99 (w46 hw) Via.refl F_a_stackTrace X_a (Or.inl (w47 hw)) (w12 hw) (ty := (.array (.object "java/lang/StackTraceElement"))) (by decide) (narrow_isRef _ hu0) (fits_refV_array _ ⟨u0, hu0⟩) ga_a sf_a d_jdk_78_method_1_code_13 (pc' := 16) rfl ?_
  intro T100 h100 K100 W100 tr100
  have F100 := F_a_stackTrace.same W100
  replace sf_a := tr100 a X_a.lt sf_a
  replace X_a := X_a.wr W100
  replace F_a_cause := F_a_cause.other W100 (Or.inr (slot_ne (Or.inl (w44 hw)) (Or.inl (w47 hw)) (by decide) (t := (.object "java/lang/Throwable")) (t' := (.array (.object "java/lang/StackTraceElement"))) (by decide) (by decide)))
  replace F_a_suppressedExceptions := F_a_suppressedExceptions.other W100 (Or.inr (slot_ne (Or.inl (w50 hw)) (Or.inl (w47 hw)) (by decide) (t := (.object "java/util/List")) (t' := (.array (.object "java/lang/StackTraceElement"))) (by decide) (by decide)))
  replace F_a_backtrace := F_a_backtrace.other W100 (Or.inr (slot_ne (Or.inl (w72 hw)) (Or.inl (w47 hw)) (by decide) (t := (.object "java/lang/Object")) (t' := (.array (.object "java/lang/StackTraceElement"))) (by decide) (by decide)))
  replace N_a := Unt.wr W100 N_a
  replace KP := KP.wr W100 (Or.inl (by simp))
  replace F_a_stackTrace := F100
  refine k_aloadN K100 d_jdk_78_method_1_code_16 (pc' := 17) rfl rfl rfl ?_
  refine k_getS K100 (w48 hw) Via.refl SS d_jdk_78_method_1_code_17 (pc' := 20) rfl ?_
  intro T101 K101
  refine k_putF K101 (w49 hw) Via.refl F_a_suppressedExceptions X_a (Or.inl (w50 hw)) (w12 hw) (ty := (.object "java/util/List")) (by decide) (narrow_isRef _ hu1) (fits_refV_object _ ⟨u1, hu1⟩) ga_a sf_a d_jdk_78_method_1_code_20 (pc' := 23) rfl ?_
  intro T102 h102 K102 W102 tr102
  have F102 := F_a_suppressedExceptions.same W102
  replace sf_a := tr102 a X_a.lt sf_a
  replace X_a := X_a.wr W102
  replace F_a_cause := F_a_cause.other W102 (Or.inr (slot_ne (Or.inl (w44 hw)) (Or.inl (w50 hw)) (by decide) (t := (.object "java/lang/Throwable")) (t' := (.object "java/util/List")) (by decide) (by decide)))
  replace F_a_stackTrace := F_a_stackTrace.other W102 (Or.inr (slot_ne (Or.inl (w47 hw)) (Or.inl (w50 hw)) (by decide) (t := (.array (.object "java/lang/StackTraceElement"))) (t' := (.object "java/util/List")) (by decide) (by decide)))
  replace F_a_backtrace := F_a_backtrace.other W102 (Or.inr (slot_ne (Or.inl (w72 hw)) (Or.inl (w50 hw)) (by decide) (t := (.object "java/lang/Object")) (t' := (.object "java/util/List")) (by decide) (by decide)))
  replace N_a := Unt.wr W102 N_a
  replace KP := KP.wr W102 (Or.inl (by simp))
  replace F_a_suppressedExceptions := F102
  refine k_aloadN K102 d_jdk_78_method_1_code_23 (pc' := 24) rfl rfl rfl ?_
  refine k_fill K102 rfl hw hl_ hsh O hu0 SU X_a N_a F_a_stackTrace F_a_backtrace ga_a sf_a KP (by rw [W102.size, W100.size, W98.size]) (fun x hx => by
    simp only [List.mem_append, List.mem_cons, List.not_mem_nil, or_false, false_or] at hx
    rcases hx with (rfl | rfl) | rfl <;> rfl) d_jdk_78_method_1_code_24 (pc' := 27) rfl rfl (by decide) (by decide) (by decide) (by decide) ?_
  intro T103 h103 L103 K103 KQ103
  show Goes p_.tables e_ below_ _ (T103.setTop (mkF m_ 27 #[.val (.ref a)] [(.ref a)]))
  refine k_pop K103 d_jdk_78_method_1_code_27 (pc' := 28) rfl rfl ?_
  exact k_return K103 d_jdk_78_method_1_code_28 rfl (fun sf ht => ⟨rfl, KQ103⟩) (by decide) (by decide)
theorem d_jdk_59_method_1_code_0 : decode jdk_59_method_1_code 0 = .ok (.aload_n 0, 1) := by decide +kernel
theorem d_jdk_59_method_1_code_1 : decode jdk_59_method_1_code 1 = .ok (.invokespecial 1, 3) := by decide +kernel
theorem w34 {Z : State} {a0 : Array Value} (hw : Tb a0 Z) : (Jvm.Cond.methodLink "java/lang/Exception" (1 : Nat) ({ cls := "java/lang/Throwable", name := "<init>", desc := "()V" } : Jvm.MethodName)).before a0 Z = true := hw _ (List.mem_of_getElem? (i := 34) rfl)
theorem w39 {Z : State} {a0 : Array Value} (hw : Tb a0 Z) : (Jvm.Cond.code ({ cls := "java/lang/Throwable", name := "<init>", desc := "()V" } : Jvm.MethodName) jdk_78_method_1_code (1 : Nat) (Option.none : Option Jvm.ClassFile.FieldType)).before a0 Z = true := hw _ (List.mem_of_getElem? (i := 39) rfl)
theorem w35 {Z : State} {a0 : Array Value} (hw : Tb a0 Z) : (Jvm.Cond.instanceMethod ({ cls := "java/lang/Throwable", name := "<init>", desc := "()V" } : Jvm.MethodName)).before a0 Z = true := hw _ (List.mem_of_getElem? (i := 35) rfl)
theorem pd___V_380 : parseMethodDescriptor "()V" = some ⟨[], none⟩ := by decide +kernel
theorem d_jdk_59_method_1_code_4 : decode jdk_59_method_1_code 4 = .ok (.return_, 1) := by decide +kernel
theorem pl_java_lang_Exception : plainName "java/lang/Exception" = true := by first | (simp [plainName, overriddenIn]; done) | decide +kernel
set_option maxRecDepth 65536 in
set_option maxHeartbeats 40000000 in
theorem c_exc (l : Launch) (Z : State) (a0 : Array Value) (hw : Tb a0 Z) (hEW : EW Z a0 EL0) (n0 : Nat) (a : Addr) (u0 u1 c1 c2 c3 : Value) (h0 : Heap) (O : Old Z n0 h0) (hl_ : l.stackTraces = true) (X_a : Exa Z h0 a "com/example/warm_tariff/warmtariff/DecodingReader$Undecodable") (N_a : Unt h0 a) (F_a_cause : Fld Z h0 a "java/lang/Throwable" "cause" "Ljava/lang/Throwable;" c1) (F_a_stackTrace : Fld Z h0 a "java/lang/Throwable" "stackTrace" "[Ljava/lang/StackTraceElement;" c2) (F_a_suppressedExceptions : Fld Z h0 a "java/lang/Throwable" "suppressedExceptions" "Ljava/util/List;" c3) (F_a_backtrace : Fld Z h0 a "java/lang/Throwable" "backtrace" "Ljava/lang/Object;" .null) (ga_a : n0 ≤ a) (SU : Sta Z Z.heap "java/lang/Throwable" "UNASSIGNED_STACK" "[Ljava/lang/StackTraceElement;" u0) (hu0 : u0.isRef = true) (SS : Sta Z Z.heap "java/lang/Throwable" "SUPPRESSED_SENTINEL" "Ljava/util/List;" u1) (hu1 : u1.isRef = true) :
    Ct l Z EL0 n0 (⟨"java/lang/Exception", "<init>", "()V"⟩ : MethodName) jdk_59_method_1_code 1 none ({ frames := 4, cells := 1, slots := 2752, locals := 54 } : Room) #[(.ref a)] h0 [a] (fun v h sf => v = none ∧ Keep h0 h [a]) := by
  refine Ct.of (a0 := a0) #[.val (.ref a)] hEW O (plainFor_of_name pl_java_lang_Exception) (fun m => by first | (simp [entryFrame, mkF, argsToLocals, Value.category]; done) | rfl) ?_
  intro p_ e_ s_ m_ below_ meth_ c_ b_ T_ K hSP hsh
  refine k_aloadN K d_jdk_59_method_1_code_0 (pc' := 1) rfl rfl rfl ?_
  refine k_special K [] [] 0 (w34 hw) (w35 hw) (w38 hw) (w39 hw) rfl rfl (by decide) pd___V_380 (c_thr l Z a0 hw hEW n0 a u0 u1 c1 c2 c3 h0 K.old hl_ X_a N_a F_a_cause F_a_stackTrace F_a_suppressedExceptions F_a_backtrace ga_a SU hu0 SS hu1) d_jdk_59_method_1_code_1 (fun x hx => by cases List.mem_singleton.mp hx; exact ⟨X_a.lt, hSP a (by simp)⟩) (pc' := 4) rfl rfl rfl rfl (Nat.le_of_eq rfl) (by decide) (by decide) (by decide) (by decide) ?_
  intro b104 T104 h104 L104 v104 K104 tr104 q104
  obtain ⟨rfl, KQ⟩ := q104
  show Goes p_.tables e_ below_ _ (T104.setTop (mkF m_ 4 #[.val (.ref a)] []))
  exact k_return K104 d_jdk_59_method_1_code_4 rfl (fun sf ht => ⟨rfl, KQ⟩) (by decide) (by decide)
theorem d_jdk_131_method_1_code_0 : decode jdk_131_method_1_code 0 = .ok (.aload_n 0, 1) := by decide +kernel
theorem d_jdk_131_method_1_code_1 : decode jdk_131_method_1_code 1 = .ok (.invokespecial 1, 3) := by decide +kernel
theorem w28 {Z : State} {a0 : Array Value} (hw : Tb a0 Z) : (Jvm.Cond.methodLink "java/io/IOException" (1 : Nat) ({ cls := "java/lang/Exception", name := "<init>", desc := "()V" } : Jvm.MethodName)).before a0 Z = true := hw _ (List.mem_of_getElem? (i := 28) rfl)
theorem w32 {Z : State} {a0 : Array Value} (hw : Tb a0 Z) : (Jvm.Cond.initialized "java/lang/Exception").before a0 Z = true := hw _ (List.mem_of_getElem? (i := 32) rfl)
theorem w33 {Z : State} {a0 : Array Value} (hw : Tb a0 Z) : (Jvm.Cond.code ({ cls := "java/lang/Exception", name := "<init>", desc := "()V" } : Jvm.MethodName) jdk_59_method_1_code (1 : Nat) (Option.none : Option Jvm.ClassFile.FieldType)).before a0 Z = true := hw _ (List.mem_of_getElem? (i := 33) rfl)
theorem w29 {Z : State} {a0 : Array Value} (hw : Tb a0 Z) : (Jvm.Cond.instanceMethod ({ cls := "java/lang/Exception", name := "<init>", desc := "()V" } : Jvm.MethodName)).before a0 Z = true := hw _ (List.mem_of_getElem? (i := 29) rfl)
theorem d_jdk_131_method_1_code_4 : decode jdk_131_method_1_code 4 = .ok (.return_, 1) := by decide +kernel
theorem pl_java_io_IOException : plainName "java/io/IOException" = true := by first | (simp [plainName, overriddenIn]; done) | decide +kernel
set_option maxRecDepth 65536 in
set_option maxHeartbeats 40000000 in
theorem c_ioe (l : Launch) (Z : State) (a0 : Array Value) (hw : Tb a0 Z) (hEW : EW Z a0 EL0) (n0 : Nat) (a : Addr) (u0 u1 c1 c2 c3 : Value) (h0 : Heap) (O : Old Z n0 h0) (hl_ : l.stackTraces = true) (X_a : Exa Z h0 a "com/example/warm_tariff/warmtariff/DecodingReader$Undecodable") (N_a : Unt h0 a) (F_a_cause : Fld Z h0 a "java/lang/Throwable" "cause" "Ljava/lang/Throwable;" c1) (F_a_stackTrace : Fld Z h0 a "java/lang/Throwable" "stackTrace" "[Ljava/lang/StackTraceElement;" c2) (F_a_suppressedExceptions : Fld Z h0 a "java/lang/Throwable" "suppressedExceptions" "Ljava/util/List;" c3) (F_a_backtrace : Fld Z h0 a "java/lang/Throwable" "backtrace" "Ljava/lang/Object;" .null) (ga_a : n0 ≤ a) (SU : Sta Z Z.heap "java/lang/Throwable" "UNASSIGNED_STACK" "[Ljava/lang/StackTraceElement;" u0) (hu0 : u0.isRef = true) (SS : Sta Z Z.heap "java/lang/Throwable" "SUPPRESSED_SENTINEL" "Ljava/util/List;" u1) (hu1 : u1.isRef = true) :
    Ct l Z EL0 n0 (⟨"java/io/IOException", "<init>", "()V"⟩ : MethodName) jdk_131_method_1_code 1 none ({ frames := 5, cells := 1, slots := 2752, locals := 66 } : Room) #[(.ref a)] h0 [a] (fun v h sf => v = none ∧ Keep h0 h [a]) := by
  refine Ct.of (a0 := a0) #[.val (.ref a)] hEW O (plainFor_of_name pl_java_io_IOException) (fun m => by first | (simp [entryFrame, mkF, argsToLocals, Value.category]; done) | rfl) ?_
  intro p_ e_ s_ m_ below_ meth_ c_ b_ T_ K hSP hsh
  refine k_aloadN K d_jdk_131_method_1_code_0 (pc' := 1) rfl rfl rfl ?_
  refine k_special K [] [] 0 (w28 hw) (w29 hw) (w32 hw) (w33 hw) rfl rfl (by decide) pd___V_380 (c_exc l Z a0 hw hEW n0 a u0 u1 c1 c2 c3 h0 K.old hl_ X_a N_a F_a_cause F_a_stackTrace F_a_suppressedExceptions F_a_backtrace ga_a SU hu0 SS hu1) d_jdk_131_method_1_code_1 (fun x hx => by cases List.mem_singleton.mp hx; exact ⟨X_a.lt, hSP a (by simp)⟩) (pc' := 4) rfl rfl rfl rfl (Nat.le_of_eq rfl) (by decide) (by decide) (by decide) (by decide) ?_
  intro b105 T105 h105 L105 v105 K105 tr105 q105
  obtain ⟨rfl, KQ⟩ := q105
  show Goes p_.tables e_ below_ _ (T105.setTop (mkF m_ 4 #[.val (.ref a)] []))
  exact k_return K105 d_jdk_131_method_1_code_4 rfl (fun sf ht => ⟨rfl, KQ⟩) (by decide) (by decide)
theorem d_jdk_2189_method_1_code_0 : decode jdk_2189_method_1_code 0 = .ok (.aload_n 0, 1) := by decide +kernel
theorem d_jdk_2189_method_1_code_1 : decode jdk_2189_method_1_code 1 = .ok (.invokespecial 1, 3) := by decide +kernel
theorem w22 {Z : State} {a0 : Array Value} (hw : Tb a0 Z) : (Jvm.Cond.methodLink "java/nio/charset/CharacterCodingException" (1 : Nat) ({ cls := "java/io/IOException", name := "<init>", desc := "()V" } : Jvm.MethodName)).before a0 Z = true := hw _ (List.mem_of_getElem? (i := 22) rfl)
theorem w26 {Z : State} {a0 : Array Value} (hw : Tb a0 Z) : (Jvm.Cond.initialized "java/io/IOException").before a0 Z = true := hw _ (List.mem_of_getElem? (i := 26) rfl)
theorem w27 {Z : State} {a0 : Array Value} (hw : Tb a0 Z) : (Jvm.Cond.code ({ cls := "java/io/IOException", name := "<init>", desc := "()V" } : Jvm.MethodName) jdk_131_method_1_code (1 : Nat) (Option.none : Option Jvm.ClassFile.FieldType)).before a0 Z = true := hw _ (List.mem_of_getElem? (i := 27) rfl)
theorem w23 {Z : State} {a0 : Array Value} (hw : Tb a0 Z) : (Jvm.Cond.instanceMethod ({ cls := "java/io/IOException", name := "<init>", desc := "()V" } : Jvm.MethodName)).before a0 Z = true := hw _ (List.mem_of_getElem? (i := 23) rfl)
theorem d_jdk_2189_method_1_code_4 : decode jdk_2189_method_1_code 4 = .ok (.return_, 1) := by decide +kernel
theorem pl_java_nio_charset_CharacterCodingException : plainName "java/nio/charset/CharacterCodingException" = true := by first | (simp [plainName, overriddenIn]; done) | decide +kernel
set_option maxRecDepth 65536 in
set_option maxHeartbeats 40000000 in
theorem c_cce (l : Launch) (Z : State) (a0 : Array Value) (hw : Tb a0 Z) (hEW : EW Z a0 EL0) (n0 : Nat) (a : Addr) (u0 u1 c1 c2 c3 : Value) (h0 : Heap) (O : Old Z n0 h0) (hl_ : l.stackTraces = true) (X_a : Exa Z h0 a "com/example/warm_tariff/warmtariff/DecodingReader$Undecodable") (N_a : Unt h0 a) (F_a_cause : Fld Z h0 a "java/lang/Throwable" "cause" "Ljava/lang/Throwable;" c1) (F_a_stackTrace : Fld Z h0 a "java/lang/Throwable" "stackTrace" "[Ljava/lang/StackTraceElement;" c2) (F_a_suppressedExceptions : Fld Z h0 a "java/lang/Throwable" "suppressedExceptions" "Ljava/util/List;" c3) (F_a_backtrace : Fld Z h0 a "java/lang/Throwable" "backtrace" "Ljava/lang/Object;" .null) (ga_a : n0 ≤ a) (SU : Sta Z Z.heap "java/lang/Throwable" "UNASSIGNED_STACK" "[Ljava/lang/StackTraceElement;" u0) (hu0 : u0.isRef = true) (SS : Sta Z Z.heap "java/lang/Throwable" "SUPPRESSED_SENTINEL" "Ljava/util/List;" u1) (hu1 : u1.isRef = true) :
    Ct l Z EL0 n0 (⟨"java/nio/charset/CharacterCodingException", "<init>", "()V"⟩ : MethodName) jdk_2189_method_1_code 1 none ({ frames := 6, cells := 1, slots := 2752, locals := 78 } : Room) #[(.ref a)] h0 [a] (fun v h sf => v = none ∧ Keep h0 h [a]) := by
  refine Ct.of (a0 := a0) #[.val (.ref a)] hEW O (plainFor_of_name pl_java_nio_charset_CharacterCodingException) (fun m => by first | (simp [entryFrame, mkF, argsToLocals, Value.category]; done) | rfl) ?_
  intro p_ e_ s_ m_ below_ meth_ c_ b_ T_ K hSP hsh
  refine k_aloadN K d_jdk_2189_method_1_code_0 (pc' := 1) rfl rfl rfl ?_
  refine k_special K [] [] 0 (w22 hw) (w23 hw) (w26 hw) (w27 hw) rfl rfl (by decide) pd___V_380 (c_ioe l Z a0 hw hEW n0 a u0 u1 c1 c2 c3 h0 K.old hl_ X_a N_a F_a_cause F_a_stackTrace F_a_suppressedExceptions F_a_backtrace ga_a SU hu0 SS hu1) d_jdk_2189_method_1_code_1 (fun x hx => by cases List.mem_singleton.mp hx; exact ⟨X_a.lt, hSP a (by simp)⟩) (pc' := 4) rfl rfl rfl rfl (Nat.le_of_eq rfl) (by decide) (by decide) (by decide) (by decide) ?_
  intro b106 T106 h106 L106 v106 K106 tr106 q106
  obtain ⟨rfl, KQ⟩ := q106
  show Goes p_.tables e_ below_ _ (T106.setTop (mkF m_ 4 #[.val (.ref a)] []))
  exact k_return K106 d_jdk_2189_method_1_code_4 rfl (fun sf ht => ⟨rfl, KQ⟩) (by decide) (by decide)
theorem d_prog_9_method_1_code_0 : decode prog_9_method_1_code 0 = .ok (.aload_n 0, 1) := by decide +kernel
theorem d_prog_9_method_1_code_1 : decode prog_9_method_1_code 1 = .ok (.invokespecial 1, 3) := by decide +kernel
theorem w17 {Z : State} {a0 : Array Value} (hw : Tb a0 Z) : (Jvm.Cond.methodLink "com/example/warm_tariff/warmtariff/DecodingReader$Undecodable" (1 : Nat) ({ cls := "java/nio/charset/CharacterCodingException", name := "<init>", desc := "()V" } : Jvm.MethodName)).before a0 Z = true := hw _ (List.mem_of_getElem? (i := 17) rfl)
theorem w20 {Z : State} {a0 : Array Value} (hw : Tb a0 Z) : (Jvm.Cond.initialized "java/nio/charset/CharacterCodingException").before a0 Z = true := hw _ (List.mem_of_getElem? (i := 20) rfl)
theorem w21 {Z : State} {a0 : Array Value} (hw : Tb a0 Z) : (Jvm.Cond.code ({ cls := "java/nio/charset/CharacterCodingException", name := "<init>", desc := "()V" } : Jvm.MethodName) jdk_2189_method_1_code (1 : Nat) (Option.none : Option Jvm.ClassFile.FieldType)).before a0 Z = true := hw _ (List.mem_of_getElem? (i := 21) rfl)
theorem w18 {Z : State} {a0 : Array Value} (hw : Tb a0 Z) : (Jvm.Cond.instanceMethod ({ cls := "java/nio/charset/CharacterCodingException", name := "<init>", desc := "()V" } : Jvm.MethodName)).before a0 Z = true := hw _ (List.mem_of_getElem? (i := 18) rfl)
theorem w76 {Z : State} {a0 : Array Value} (hw : Tb a0 Z) : (Jvm.Cond.laysFinal "com/example/warm_tariff/warmtariff/DecodingReader$Undecodable" "com/example/warm_tariff/warmtariff/DecodingReader$Undecodable" "encoding" "Lcom/example/warm_tariff/warmtariff/TextEncoding;").before a0 Z = true := hw _ (List.mem_of_getElem? (i := 76) rfl)
theorem w78 {Z : State} {a0 : Array Value} (hw : Tb a0 Z) : (Jvm.Cond.laysFinal "com/example/warm_tariff/warmtariff/DecodingReader$Undecodable" "com/example/warm_tariff/warmtariff/DecodingReader$Undecodable" "line" "J").before a0 Z = true := hw _ (List.mem_of_getElem? (i := 78) rfl)
theorem d_prog_9_method_1_code_4 : decode prog_9_method_1_code 4 = .ok (.aload_n 0, 1) := by decide +kernel
theorem d_prog_9_method_1_code_5 : decode prog_9_method_1_code 5 = .ok (.aload_n 1, 1) := by decide +kernel
theorem d_prog_9_method_1_code_6 : decode prog_9_method_1_code 6 = .ok (.putfield 7, 3) := by decide +kernel
theorem w75 {Z : State} {a0 : Array Value} (hw : Tb a0 Z) : (Jvm.Cond.fieldLink "com/example/warm_tariff/warmtariff/DecodingReader$Undecodable" (7 : Nat) "com/example/warm_tariff/warmtariff/DecodingReader$Undecodable" "encoding" "Lcom/example/warm_tariff/warmtariff/TextEncoding;").before a0 Z = true := hw _ (List.mem_of_getElem? (i := 75) rfl)
theorem d_prog_9_method_1_code_9 : decode prog_9_method_1_code 9 = .ok (.aload_n 0, 1) := by decide +kernel
theorem d_prog_9_method_1_code_10 : decode prog_9_method_1_code 10 = .ok (.lload_n 2, 1) := by decide +kernel
theorem d_prog_9_method_1_code_11 : decode prog_9_method_1_code 11 = .ok (.putfield 13, 3) := by decide +kernel
theorem w77 {Z : State} {a0 : Array Value} (hw : Tb a0 Z) : (Jvm.Cond.fieldLink "com/example/warm_tariff/warmtariff/DecodingReader$Undecodable" (13 : Nat) "com/example/warm_tariff/warmtariff/DecodingReader$Undecodable" "line" "J").before a0 Z = true := hw _ (List.mem_of_getElem? (i := 77) rfl)
theorem d_prog_9_method_1_code_14 : decode prog_9_method_1_code 14 = .ok (.return_, 1) := by decide +kernel
theorem pl_com_example_warm_tariff_warmtariff_DecodingReader_Undecodable : plainName "com/example/warm_tariff/warmtariff/DecodingReader$Undecodable" = true := by first | (simp [plainName, overriddenIn]; done) | decide +kernel
set_option maxRecDepth 65536 in
set_option maxHeartbeats 40000000 in
theorem c_udi (l : Launch) (Z : State) (a0 : Array Value) (hw : Tb a0 Z) (hEW : EW Z a0 EL0) (n0 : Nat) (a : Addr) (u0 u1 c1 c2 c3 : Value) (en : Addr) (ln : Int64) (h0 : Heap) (O : Old Z n0 h0) (hl_ : l.stackTraces = true) (X_a : Exa Z h0 a "com/example/warm_tariff/warmtariff/DecodingReader$Undecodable") (N_a : Unt h0 a) (F_a_cause : Fld Z h0 a "java/lang/Throwable" "cause" "Ljava/lang/Throwable;" c1) (F_a_stackTrace : Fld Z h0 a "java/lang/Throwable" "stackTrace" "[Ljava/lang/StackTraceElement;" c2) (F_a_suppressedExceptions : Fld Z h0 a "java/lang/Throwable" "suppressedExceptions" "Ljava/util/List;" c3) (F_a_backtrace : Fld Z h0 a "java/lang/Throwable" "backtrace" "Ljava/lang/Object;" .null) (ga_a : n0 ≤ a) (SU : Sta Z Z.heap "java/lang/Throwable" "UNASSIGNED_STACK" "[Ljava/lang/StackTraceElement;" u0) (hu0 : u0.isRef = true) (SS : Sta Z Z.heap "java/lang/Throwable" "SUPPRESSED_SENTINEL" "Ljava/util/List;" u1) (hu1 : u1.isRef = true) :
    Ct l Z EL0 n0 (⟨"com/example/warm_tariff/warmtariff/DecodingReader$Undecodable", "<init>", "(Lcom/example/warm_tariff/warmtariff/TextEncoding;J)V"⟩ : MethodName) prog_9_method_1_code 4 none ({ frames := 7, cells := 1, slots := 2752, locals := 90 } : Room) #[(.ref a), (.ref en), (.long ln)] h0 [a] (fun v h sf => v = none ∧ Keep h0 h [a] ∧ Exa Z h a "com/example/warm_tariff/warmtariff/DecodingReader$Undecodable" ∧ Fld Z h a "com/example/warm_tariff/warmtariff/DecodingReader$Undecodable" "line" "J" (.long ln) ∧ Fld Z h a "com/example/warm_tariff/warmtariff/DecodingReader$Undecodable" "encoding" "Lcom/example/warm_tariff/warmtariff/TextEncoding;" (.ref en)) := by
  refine Ct.of (a0 := a0) #[.val (.ref a), .val (.ref en), .val (.long ln), .second] hEW O (plainFor_of_name pl_com_example_warm_tariff_warmtariff_DecodingReader_Undecodable) (fun m => by first | (simp [entryFrame, mkF, argsToLocals, Value.category]; done) | rfl) ?_
  intro p_ e_ s_ m_ below_ meth_ c_ b_ T_ K hSP hsh
  refine k_aloadN K d_prog_9_method_1_code_0 (pc' := 1) rfl rfl rfl ?_
  refine k_special K [] [] 0 (w17 hw) (w18 hw) (w20 hw) (w21 hw) rfl rfl (by decide) pd___V_380 (c_cce l Z a0 hw hEW n0 a u0 u1 c1 c2 c3 h0 K.old hl_ X_a N_a F_a_cause F_a_stackTrace F_a_suppressedExceptions F_a_backtrace ga_a SU hu0 SS hu1) d_prog_9_method_1_code_1 (fun x hx => by cases List.mem_singleton.mp hx; exact ⟨X_a.lt, hSP a (by simp)⟩) (pc' := 4) rfl rfl rfl rfl (Nat.le_of_eq rfl) (by decide) (by decide) (by decide) (by decide) ?_
  intro b107 T107 h107 L107 v107 K107 tr107 q107
  obtain ⟨rfl, KQ⟩ := q107
  have KP := KQ
  have sf_a := tr107 a X_a.lt (hSP a (by simp))
  have kn_a : ∃ cell : Cell, h107[a]? = some cell ∧ cell.vm ≠ .unknown := by
    obtain ⟨c0, u1, u2, -⟩ := N_a
    obtain ⟨c', r1, -, r3, -⟩ := KQ.2.2 _ _ u1
    exact ⟨c', r1, by rw [r3, u2]; simp⟩
  replace X_a := X_a.keep KQ
  obtain ⟨vE, F_a_encoding⟩ := fld_laid (O := "com/example/warm_tariff/warmtariff/DecodingReader$Undecodable") (n := "encoding") (d := "Lcom/example/warm_tariff/warmtariff/TextEncoding;") X_a kn_a (w12 hw) (Or.inr (w76 hw))
  obtain ⟨vL, F_a_line⟩ := fld_laid (O := "com/example/warm_tariff/warmtariff/DecodingReader$Undecodable") (n := "line") (d := "J") X_a kn_a (w12 hw) (Or.inr (w78 hw))
  show Goes p_.tables e_ below_ _ (T107.setTop (mkF m_ 4 #[.val (.ref a), .val (.ref en), .val (.long ln), .second] []))
  refine k_aloadN K107 d_prog_9_method_1_code_4 (pc' := 5) rfl rfl rfl ?_
  refine k_aloadN K107 d_prog_9_method_1_code_5 (pc' := 6) rfl rfl rfl ?_
  refine k_putF K107 (w75 hw) Via.refl F_a_encoding X_a (Or.inr ⟨(w76 hw), rfl, rfl⟩) (w12 hw) (ty := (.object "com/example/warm_tariff/warmtariff/TextEncoding")) (by decide) rfl rfl ga_a sf_a d_prog_9_method_1_code_6 (pc' := 9) rfl ?_
  intro T108 h108 K108 W108 tr108
  have F108 := F_a_encoding.same W108
  replace sf_a := tr108 a X_a.lt sf_a
  replace X_a := X_a.wr W108
  replace F_a_line := F_a_line.other W108 (Or.inr (slot_ne (Or.inr (w78 hw)) (Or.inr (w76 hw)) (by decide) (t := .long) (t' := (.object "com/example/warm_tariff/warmtariff/TextEncoding")) (by decide) (by decide)))
  replace KP := KP.wr W108 (Or.inl (by simp))
  replace F_a_encoding := F108
  refine k_aloadN K108 d_prog_9_method_1_code_9 (pc' := 10) rfl rfl rfl ?_
  refine k_lloadN K108 d_prog_9_method_1_code_10 (pc' := 11) rfl rfl ?_
  refine k_putF K108 (w77 hw) Via.refl F_a_line X_a (Or.inr ⟨(w78 hw), rfl, rfl⟩) (w12 hw) (ty := .long) (by decide) rfl rfl ga_a sf_a d_prog_9_method_1_code_11 (pc' := 14) rfl ?_
  intro T109 h109 K109 W109 tr109
  have F109 := F_a_line.same W109
  replace sf_a := tr109 a X_a.lt sf_a
  replace X_a := X_a.wr W109
  replace F_a_encoding := F_a_encoding.other W109 (Or.inr (slot_ne (Or.inr (w76 hw)) (Or.inr (w78 hw)) (by decide) (t := (.object "com/example/warm_tariff/warmtariff/TextEncoding")) (t' := .long) (by decide) (by decide)))
  replace KP := KP.wr W109 (Or.inl (by simp))
  replace F_a_line := F109
  exact k_return K109 d_prog_9_method_1_code_14 rfl (fun sf ht => ⟨rfl, KP, X_a, F_a_line, F_a_encoding⟩) (by decide) (by decide)
theorem d_prog_28_method_6_code_0 : decode prog_28_method_6_code 0 = .ok (.aload_n 0, 1) := by decide +kernel
theorem d_prog_28_method_6_code_1 : decode prog_28_method_6_code 1 = .ok (.getfield 32, 3) := by decide +kernel
theorem w9 {Z : State} {a0 : Array Value} (hw : Tb a0 Z) : (Jvm.Cond.fieldLink "com/example/warm_tariff/warmtariff/TextEncoding" (32 : Nat) "com/example/warm_tariff/warmtariff/TextEncoding" "optionName" "Ljava/lang/String;").before a0 Z = true := hw _ (List.mem_of_getElem? (i := 9) rfl)
theorem d_prog_28_method_6_code_4 : decode prog_28_method_6_code 4 = .ok (.areturn, 1) := by decide +kernel
theorem pl_com_example_warm_tariff_warmtariff_TextEncoding : plainName "com/example/warm_tariff/warmtariff/TextEncoding" = true := by first | (simp [plainName, overriddenIn]; done) | decide +kernel
set_option maxRecDepth 65536 in
set_option maxHeartbeats 40000000 in
theorem c_opn (l : Launch) (Z : State) (a0 : Array Value) (hw : Tb a0 Z) (hEW : EW Z a0 EL0) (n0 : Nat) (en nm : Addr) (h0 : Heap) (O : Old Z n0 h0) (F : Fld Z h0 en "com/example/warm_tariff/warmtariff/TextEncoding" "optionName" "Ljava/lang/String;" (.ref nm)) :
    Ct l Z EL0 n0 (⟨"com/example/warm_tariff/warmtariff/TextEncoding", "optionName", "()Ljava/lang/String;"⟩ : MethodName) prog_28_method_6_code 1 (some (.object "java/lang/String")) ({ frames := 0, cells := 0, slots := 0, locals := 0 } : Room) #[(.ref en)] h0 [] (Pu (some (.ref nm)) h0) := by
  refine Ct.of (a0 := a0) #[.val (.ref en)] hEW O (plainFor_of_name pl_com_example_warm_tariff_warmtariff_TextEncoding) (fun m => by first | (simp [entryFrame, mkF, argsToLocals, Value.category]; done) | rfl) ?_
  intro p_ e_ s_ m_ below_ meth_ c_ b_ T_ K hSP hsh
  refine k_aloadN K d_prog_28_method_6_code_0 (pc' := 1) rfl rfl rfl ?_
  refine k_getF K (w9 hw) Via.refl F d_prog_28_method_6_code_1 (pc' := 4) rfl ?_
  intro T110 K110
  exact k_aret K110 d_prog_28_method_6_code_4 rfl rfl rfl (fun sf ht => ⟨rfl, rfl⟩) (by decide) (by decide)
theorem d_prog_9_method_4_code_0 : decode prog_9_method_4_code 0 = .ok (.new 17, 3) := by decide +kernel
theorem w84 {Z : State} {a0 : Array Value} (hw : Tb a0 Z) : (Jvm.Cond.classLink "com/example/warm_tariff/warmtariff/DecodingReader$Undecodable" (17 : Nat) "java/lang/StringBuilder").before a0 Z = true := hw _ (List.mem_of_getElem? (i := 84) rfl)
theorem d_prog_9_method_4_code_3 : decode prog_9_method_4_code 3 = .ok (.dup, 1) := by decide +kernel
theorem d_prog_9_method_4_code_4 : decode prog_9_method_4_code 4 = .ok (.invokespecial 19, 3) := by decide +kernel
theorem w87 {Z : State} {a0 : Array Value} (hw : Tb a0 Z) : (Jvm.Cond.methodLink "com/example/warm_tariff/warmtariff/DecodingReader$Undecodable" (19 : Nat) ({ cls := "java/lang/StringBuilder", name := "<init>", desc := "()V" } : Jvm.MethodName)).before a0 Z = true := hw _ (List.mem_of_getElem? (i := 87) rfl)
theorem w89 {Z : State} {a0 : Array Value} (hw : Tb a0 Z) : (Jvm.Cond.code ({ cls := "java/lang/StringBuilder", name := "<init>", desc := "()V" } : Jvm.MethodName) jdk_67_method_1_code (1 : Nat) (Option.none : Option Jvm.ClassFile.FieldType)).before a0 Z = true := hw _ (List.mem_of_getElem? (i := 89) rfl)
theorem w88 {Z : State} {a0 : Array Value} (hw : Tb a0 Z) : (Jvm.Cond.instanceMethod ({ cls := "java/lang/StringBuilder", name := "<init>", desc := "()V" } : Jvm.MethodName)).before a0 Z = true := hw _ (List.mem_of_getElem? (i := 88) rfl)
theorem d_prog_9_method_4_code_7 : decode prog_9_method_4_code 7 = .ok (.ldc 20, 2) := by decide +kernel
theorem w108 {Z : State} {a0 : Array Value} (hw : Tb a0 Z) : (Jvm.Cond.soleField "java/lang/String" "value").before a0 Z = true := hw _ (List.mem_of_getElem? (i := 108) rfl)
theorem w109 {Z : State} {a0 : Array Value} (hw : Tb a0 Z) : (Jvm.Cond.soleField "java/lang/String" "coder").before a0 Z = true := hw _ (List.mem_of_getElem? (i := 109) rfl)
theorem own_wS {Z : State} {a0 : Array Value} (hw : Tb a0 Z) : ∀ a ∈ Bundle.stringAtoms, a.before a0 Z = true := fun d hd => by
  simp only [Bundle.stringAtoms, List.mem_cons, List.not_mem_nil, or_false] at hd
  rcases hd with rfl | rfl | rfl | rfl | rfl | rfl | rfl
  · exact (w98 hw)
  · exact (w105 hw)
  · exact (w99 hw)
  · exact (w106 hw)
  · exact (w107 hw)
  · exact (w108 hw)
  · exact (w109 hw)
theorem w104 {Z : State} {a0 : Array Value} (hw : Tb a0 Z) : (Jvm.Cond.stringLink "com/example/warm_tariff/warmtariff/DecodingReader$Undecodable" (20 : Nat) "line ").before a0 Z = true := hw _ (List.mem_of_getElem? (i := 104) rfl)
theorem d_prog_9_method_4_code_9 : decode prog_9_method_4_code 9 = .ok (.invokevirtual 22, 3) := by decide +kernel
theorem w110 {Z : State} {a0 : Array Value} (hw : Tb a0 Z) : (Jvm.Cond.methodLink "com/example/warm_tariff/warmtariff/DecodingReader$Undecodable" (22 : Nat) ({ cls := "java/lang/StringBuilder", name := "append", desc := "(Ljava/lang/String;)Ljava/lang/StringBuilder;" } : Jvm.MethodName)).before a0 Z = true := hw _ (List.mem_of_getElem? (i := 110) rfl)
theorem w114 {Z : State} {a0 : Array Value} (hw : Tb a0 Z) : (Jvm.Cond.code ({ cls := "java/lang/StringBuilder", name := "append", desc := "(Ljava/lang/String;)Ljava/lang/StringBuilder;" } : Jvm.MethodName) jdk_67_method_7_code (2 : Nat) (Option.some (Jvm.ClassFile.FieldType.object "java/lang/StringBuilder"))).before a0 Z = true := hw _ (List.mem_of_getElem? (i := 114) rfl)
theorem w113 {Z : State} {a0 : Array Value} (hw : Tb a0 Z) : (Jvm.Cond.selects "java/lang/StringBuilder" ({ cls := "java/lang/StringBuilder", name := "append", desc := "(Ljava/lang/String;)Ljava/lang/StringBuilder;" } : Jvm.MethodName) ({ cls := "java/lang/StringBuilder", name := "append", desc := "(Ljava/lang/String;)Ljava/lang/StringBuilder;" } : Jvm.MethodName)).before a0 Z = true := hw _ (List.mem_of_getElem? (i := 113) rfl)
theorem w111 {Z : State} {a0 : Array Value} (hw : Tb a0 Z) : (Jvm.Cond.declares ({ cls := "java/lang/StringBuilder", name := "append", desc := "(Ljava/lang/String;)Ljava/lang/StringBuilder;" } : Jvm.MethodName)).before a0 Z = true := hw _ (List.mem_of_getElem? (i := 111) rfl)
theorem w112 {Z : State} {a0 : Array Value} (hw : Tb a0 Z) : (Jvm.Cond.instanceMethod ({ cls := "java/lang/StringBuilder", name := "append", desc := "(Ljava/lang/String;)Ljava/lang/StringBuilder;" } : Jvm.MethodName)).before a0 Z = true := hw _ (List.mem_of_getElem? (i := 112) rfl)
theorem pd__Ljava_lang_String__Ljava_lang_StringBuilder__8660 : parseMethodDescriptor "(Ljava/lang/String;)Ljava/lang/StringBuilder;" = some ⟨[(.object "java/lang/String")], some (.object "java/lang/StringBuilder")⟩ := by decide +kernel
theorem d_prog_9_method_4_code_12 : decode prog_9_method_4_code 12 = .ok (.aload_n 0, 1) := by decide +kernel
theorem d_prog_9_method_4_code_13 : decode prog_9_method_4_code 13 = .ok (.getfield 13, 3) := by decide +kernel
theorem d_prog_9_method_4_code_16 : decode prog_9_method_4_code 16 = .ok (.invokevirtual 26, 3) := by decide +kernel
theorem w160 {Z : State} {a0 : Array Value} (hw : Tb a0 Z) : (Jvm.Cond.methodLink "com/example/warm_tariff/warmtariff/DecodingReader$Undecodable" (26 : Nat) ({ cls := "java/lang/StringBuilder", name := "append", desc := "(J)Ljava/lang/StringBuilder;" } : Jvm.MethodName)).before a0 Z = true := hw _ (List.mem_of_getElem? (i := 160) rfl)
theorem w164 {Z : State} {a0 : Array Value} (hw : Tb a0 Z) : (Jvm.Cond.code ({ cls := "java/lang/StringBuilder", name := "append", desc := "(J)Ljava/lang/StringBuilder;" } : Jvm.MethodName) jdk_67_method_16_code (3 : Nat) (Option.some (Jvm.ClassFile.FieldType.object "java/lang/StringBuilder"))).before a0 Z = true := hw _ (List.mem_of_getElem? (i := 164) rfl)
theorem w163 {Z : State} {a0 : Array Value} (hw : Tb a0 Z) : (Jvm.Cond.selects "java/lang/StringBuilder" ({ cls := "java/lang/StringBuilder", name := "append", desc := "(J)Ljava/lang/StringBuilder;" } : Jvm.MethodName) ({ cls := "java/lang/StringBuilder", name := "append", desc := "(J)Ljava/lang/StringBuilder;" } : Jvm.MethodName)).before a0 Z = true := hw _ (List.mem_of_getElem? (i := 163) rfl)
theorem w161 {Z : State} {a0 : Array Value} (hw : Tb a0 Z) : (Jvm.Cond.declares ({ cls := "java/lang/StringBuilder", name := "append", desc := "(J)Ljava/lang/StringBuilder;" } : Jvm.MethodName)).before a0 Z = true := hw _ (List.mem_of_getElem? (i := 161) rfl)
theorem w162 {Z : State} {a0 : Array Value} (hw : Tb a0 Z) : (Jvm.Cond.instanceMethod ({ cls := "java/lang/StringBuilder", name := "append", desc := "(J)Ljava/lang/StringBuilder;" } : Jvm.MethodName)).before a0 Z = true := hw _ (List.mem_of_getElem? (i := 162) rfl)
theorem pd__J_Ljava_lang_StringBuilder__9199 : parseMethodDescriptor "(J)Ljava/lang/StringBuilder;" = some ⟨[.long], some (.object "java/lang/StringBuilder")⟩ := by decide +kernel
theorem d_prog_9_method_4_code_19 : decode prog_9_method_4_code 19 = .ok (.ldc 29, 2) := by decide +kernel
theorem w185 {Z : State} {a0 : Array Value} (hw : Tb a0 Z) : (Jvm.Cond.stringLink "com/example/warm_tariff/warmtariff/DecodingReader$Undecodable" (29 : Nat) ": not ").before a0 Z = true := hw _ (List.mem_of_getElem? (i := 185) rfl)
theorem d_prog_9_method_4_code_21 : decode prog_9_method_4_code 21 = .ok (.invokevirtual 22, 3) := by decide +kernel
theorem d_prog_9_method_4_code_24 : decode prog_9_method_4_code 24 = .ok (.aload_n 0, 1) := by decide +kernel
theorem d_prog_9_method_4_code_25 : decode prog_9_method_4_code 25 = .ok (.getfield 7, 3) := by decide +kernel
theorem d_prog_9_method_4_code_28 : decode prog_9_method_4_code 28 = .ok (.invokevirtual 31, 3) := by decide +kernel
theorem w186 {Z : State} {a0 : Array Value} (hw : Tb a0 Z) : (Jvm.Cond.methodLink "com/example/warm_tariff/warmtariff/DecodingReader$Undecodable" (31 : Nat) ({ cls := "com/example/warm_tariff/warmtariff/TextEncoding", name := "optionName", desc := "()Ljava/lang/String;" } : Jvm.MethodName)).before a0 Z = true := hw _ (List.mem_of_getElem? (i := 186) rfl)
theorem w2 {Z : State} {a0 : Array Value} (hw : Tb a0 Z) : (Jvm.Cond.initialized "com/example/warm_tariff/warmtariff/TextEncoding").before a0 Z = true := hw _ (List.mem_of_getElem? (i := 2) rfl)
theorem w8 {Z : State} {a0 : Array Value} (hw : Tb a0 Z) : (Jvm.Cond.code ({ cls := "com/example/warm_tariff/warmtariff/TextEncoding", name := "optionName", desc := "()Ljava/lang/String;" } : Jvm.MethodName) prog_28_method_6_code (1 : Nat) (Option.some (Jvm.ClassFile.FieldType.object "java/lang/String"))).before a0 Z = true := hw _ (List.mem_of_getElem? (i := 8) rfl)
theorem w7 {Z : State} {a0 : Array Value} (hw : Tb a0 Z) : (Jvm.Cond.selects "com/example/warm_tariff/warmtariff/TextEncoding" ({ cls := "com/example/warm_tariff/warmtariff/TextEncoding", name := "optionName", desc := "()Ljava/lang/String;" } : Jvm.MethodName) ({ cls := "com/example/warm_tariff/warmtariff/TextEncoding", name := "optionName", desc := "()Ljava/lang/String;" } : Jvm.MethodName)).before a0 Z = true := hw _ (List.mem_of_getElem? (i := 7) rfl)
theorem w5 {Z : State} {a0 : Array Value} (hw : Tb a0 Z) : (Jvm.Cond.declares ({ cls := "com/example/warm_tariff/warmtariff/TextEncoding", name := "optionName", desc := "()Ljava/lang/String;" } : Jvm.MethodName)).before a0 Z = true := hw _ (List.mem_of_getElem? (i := 5) rfl)
theorem w6 {Z : State} {a0 : Array Value} (hw : Tb a0 Z) : (Jvm.Cond.instanceMethod ({ cls := "com/example/warm_tariff/warmtariff/TextEncoding", name := "optionName", desc := "()Ljava/lang/String;" } : Jvm.MethodName)).before a0 Z = true := hw _ (List.mem_of_getElem? (i := 6) rfl)
theorem pd___Ljava_lang_String__9676 : parseMethodDescriptor "()Ljava/lang/String;" = some ⟨[], some (.object "java/lang/String")⟩ := by decide +kernel
theorem d_prog_9_method_4_code_31 : decode prog_9_method_4_code 31 = .ok (.invokevirtual 22, 3) := by decide +kernel
theorem d_prog_9_method_4_code_34 : decode prog_9_method_4_code 34 = .ok (.ldc 37, 2) := by decide +kernel
theorem w210 {Z : State} {a0 : Array Value} (hw : Tb a0 Z) : (Jvm.Cond.stringLink "com/example/warm_tariff/warmtariff/DecodingReader$Undecodable" (37 : Nat) " text").before a0 Z = true := hw _ (List.mem_of_getElem? (i := 210) rfl)
theorem d_prog_9_method_4_code_36 : decode prog_9_method_4_code 36 = .ok (.invokevirtual 22, 3) := by decide +kernel
theorem d_prog_9_method_4_code_39 : decode prog_9_method_4_code 39 = .ok (.invokevirtual 39, 3) := by decide +kernel
theorem w211 {Z : State} {a0 : Array Value} (hw : Tb a0 Z) : (Jvm.Cond.methodLink "com/example/warm_tariff/warmtariff/DecodingReader$Undecodable" (39 : Nat) ({ cls := "java/lang/StringBuilder", name := "toString", desc := "()Ljava/lang/String;" } : Jvm.MethodName)).before a0 Z = true := hw _ (List.mem_of_getElem? (i := 211) rfl)
theorem w215 {Z : State} {a0 : Array Value} (hw : Tb a0 Z) : (Jvm.Cond.code ({ cls := "java/lang/StringBuilder", name := "toString", desc := "()Ljava/lang/String;" } : Jvm.MethodName) jdk_67_method_42_code (1 : Nat) (Option.some (Jvm.ClassFile.FieldType.object "java/lang/String"))).before a0 Z = true := hw _ (List.mem_of_getElem? (i := 215) rfl)
theorem w214 {Z : State} {a0 : Array Value} (hw : Tb a0 Z) : (Jvm.Cond.selects "java/lang/StringBuilder" ({ cls := "java/lang/StringBuilder", name := "toString", desc := "()Ljava/lang/String;" } : Jvm.MethodName) ({ cls := "java/lang/StringBuilder", name := "toString", desc := "()Ljava/lang/String;" } : Jvm.MethodName)).before a0 Z = true := hw _ (List.mem_of_getElem? (i := 214) rfl)
theorem w212 {Z : State} {a0 : Array Value} (hw : Tb a0 Z) : (Jvm.Cond.declares ({ cls := "java/lang/StringBuilder", name := "toString", desc := "()Ljava/lang/String;" } : Jvm.MethodName)).before a0 Z = true := hw _ (List.mem_of_getElem? (i := 212) rfl)
theorem w213 {Z : State} {a0 : Array Value} (hw : Tb a0 Z) : (Jvm.Cond.instanceMethod ({ cls := "java/lang/StringBuilder", name := "toString", desc := "()Ljava/lang/String;" } : Jvm.MethodName)).before a0 Z = true := hw _ (List.mem_of_getElem? (i := 213) rfl)
theorem d_prog_9_method_4_code_42 : decode prog_9_method_4_code 42 = .ok (.areturn, 1) := by decide +kernel
set_option maxRecDepth 65536 in
set_option maxHeartbeats 40000000 in
theorem c_gm (l : Launch) (Z : State) (a0 : Array Value) (hw : Tb a0 Z) (hEW : EW Z a0 EL0) (n0 : Nat) (p : Addr) (ln : Int64) (n sg : Nat) (en nm nb : Addr) (kn : ClassId) (ns : List Int32) (od td : Addr) (ko kt_ : ClassId) (OL TL : List Value) (cs0 : Int32) (h0 : Heap) (O : Old Z n0 h0) (F_l : Fld Z h0 p "com/example/warm_tariff/warmtariff/DecodingReader$Undecodable" "line" "J" (.long ln)) (F_e : Fld Z h0 p "com/example/warm_tariff/warmtariff/DecodingReader$Undecodable" "encoding" "Lcom/example/warm_tariff/warmtariff/TextEncoding;" (.ref en)) (X_en : Exa Z Z.heap en "com/example/warm_tariff/warmtariff/TextEncoding") (F_on : Fld Z Z.heap en "com/example/warm_tariff/warmtariff/TextEncoding" "optionName" "Ljava/lang/String;" (.ref nm)) (S_nm : Str Z Z.heap nm nb kn 0 (Int32.ofNat ns.length) (ns.map Value.int)) (hns : ns.length ≤ 11) (hx : Sg ln n sg) (SO : Sta Z Z.heap "java/lang/Integer" "DigitOnes" "[B" (.ref od)) (VO : Arv Z Z.heap od ko .byte 100 OL (.int 0)) (hO : ∀ r, r < 100 → OL.getD r (.int 0) = .int (Int32.ofNat (48 + r % 10))) (ST_ : Sta Z Z.heap "java/lang/Integer" "DigitTens" "[B" (.ref td)) (VT_ : Arv Z Z.heap td kt_ .byte 100 TL (.int 0)) (hT : ∀ r, r < 100 → TL.getD r (.int 0) = .int (Int32.ofNat (48 + r / 10))) (SC : Sta Z Z.heap "java/lang/String" "COMPACT_STRINGS" "Z" (.int cs0)) (hcs : ¬ cs0 = 0) :
    Ct l Z EL0 n0 (⟨"com/example/warm_tariff/warmtariff/DecodingReader$Undecodable", "getMessage", "()Ljava/lang/String;"⟩ : MethodName) prog_9_method_4_code 1 (some (.object "java/lang/String")) ({ frames := 6, cells := 15, slots := 952, locals := 92 } : Room) #[(.ref p)] h0 [] (fun v h sf => ∃ a t kt, v = some (.ref a) ∧ Str Z h a t kt 0 (Int32.ofNat (msg sg n ns).length) ((msg sg n ns).map Value.int)) := by
  refine Ct.of (a0 := a0) #[.val (.ref p)] hEW O (plainFor_of_name pl_com_example_warm_tariff_warmtariff_DecodingReader_Undecodable) (fun m => by first | (simp [entryFrame, mkF, argsToLocals, Value.category]; done) | rfl) ?_
  intro p_ e_ s_ m_ below_ meth_ c_ b_ T_ K hSP hsh
  have hb_ := sg_b hx
  have hsz := szL_b n
  refine k_new K (w84 hw) (w85 hw) (w86 hw) d_prog_9_method_4_code_0 (pc' := 3) rfl (by decide) (by decide) ?_
  intro T111 h111 a111 g111 K111 E111 tr111 sf_a111 X_a111 D111 U111
  have ga_a111 : n0 ≤ a111 := own_old K.old g111
  have ne_p_a111 : p ≠ a111 := own_ne F_l.lt g111
  replace F_l := F_l.ext E111
  replace F_e := F_e.ext E111
  have F_a111_value : Fld Z h111 a111 "java/lang/AbstractStringBuilder" "value" "[B" .null := D111 (Or.inl (w101 hw)) (ty := (.array .byte)) (by decide)
  have F_a111_coder : Fld Z h111 a111 "java/lang/AbstractStringBuilder" "coder" "B" (.int (0 : Int32)) := D111 (Or.inl (w103 hw)) (ty := .byte) (by decide)
  have F_a111_count : Fld Z h111 a111 "java/lang/AbstractStringBuilder" "count" "I" (.int (0 : Int32)) := D111 (Or.inl (w134 hw)) (ty := .int) (by decide)
  refine k_dup K111 d_prog_9_method_4_code_3 (pc' := 4) rfl rfl ?_
  refine k_special K111 [] [(.ref a111)] 1 (w87 hw) (w88 hw) (w86 hw) (w89 hw) rfl rfl (by decide) pd___V_380 (c_sbinit l Z a0 hw hEW n0 a111 _ cs0 h111 K111.old X_a111 F_a111_value F_a111_coder F_a111_count ga_a111 SC hcs) d_prog_9_method_4_code_4 (fun x hx => by cases List.mem_singleton.mp hx; exact ⟨X_a111.lt, sf_a111⟩) (pc' := 7) rfl rfl rfl rfl (Nat.le_of_eq rfl) (by decide) (by decide) (by decide) (by decide) ?_
  intro b112 T112 h112 L112 v112 K112 tr112 q112
  obtain ⟨d0, kd0, rfl, hd, KQ, B0, sf_d0⟩ := q112
  have ga_d0 : n0 ≤ d0 := Nat.le_trans (own_n0 K111.old) hd
  have ne_p_d0 : p ≠ d0 := own_ne2 F_l.lt hd
  have ne_a111_d0 : a111 ≠ d0 := own_ne2 X_a111.lt hd
  replace sf_a111 := tr112 a111 X_a111.lt sf_a111
  replace F_l := F_l.keep KQ (ninS ne_p_a111 nin0)
  replace F_e := F_e.keep KQ (ninS ne_p_a111 nin0)
  show Goes p_.tables e_ below_ _ (T112.setTop (mkF m_ 7 #[.val (.ref p)] [(.ref a111)]))
  refine k_ldcS K112 (vs := ([108, 105, 110, 101, 32] : List Int32).map Value.int) (z := 5) (w104 hw) (own_wS hw) (by decide) ⟨by decide, by decide⟩ (by decide) (by decide) 20 (by decide) (by decide) d_prog_9_method_4_code_7 (pc' := 9) rfl (by decide) (by decide) ?_
  intro b113 T113 h113 s113 e113 ke113 K113 E113 tr113 X1 X2 X3 X4 nd113
  replace sf_a111 := tr113 a111 B0.1.lt sf_a111
  replace sf_d0 := tr113 d0 B0.2.2.2.2.1.lt sf_d0
  replace F_l := F_l.ext E113
  replace F_e := F_e.ext E113
  have S_s113 : Str Z h113 s113 e113 ke113 0 5 (([108, 105, 110, 101, 32] : List Int32).map Value.int) := ⟨X1, X2, X3, X4⟩
  have ne_a111_s113 : a111 ≠ s113 := (nd113 a111 sf_a111).1
  have ne_a111_e113 : a111 ≠ e113 := (nd113 a111 sf_a111).2
  have ne_d0_s113 : d0 ≠ s113 := (nd113 d0 sf_d0).1
  have ne_d0_e113 : d0 ≠ e113 := (nd113 d0 sf_d0).2
  show Goes p_.tables e_ below_ _ (T113.setTop (mkF m_ 9 #[.val (.ref p)] [(.ref s113), (.ref a111)]))
  replace B0 := (show Sbd Z h113 a111 d0 kd0 16 ([] : List Int32) (List.replicate 16 (.int 0)) from ⟨B0.1.ext E113, B0.2.1.ext E113, B0.2.2.1.ext E113, B0.2.2.2.1.ext E113, B0.2.2.2.2.1.ext E113, B0.2.2.2.2.2.1.ext E113, B0.2.2.2.2.2.2.1, B0.2.2.2.2.2.2.2⟩)
  refine k_virtual K113 [(.ref s113)] [] 0 (w110 hw) (w111 hw) (w112 hw) (w113 hw) (w86 hw) (w114 hw) (notFace_of_selects (args := #[]) (mvT K113.hZ (w113 hw))) rfl (by decide) B0.1 (by decide) pd__Ljava_lang_String__Ljava_lang_StringBuilder__8660 (c_sapp l Z a0 hw hEW n0 a111 d0 kd0 16 ([] : List Int32) (List.replicate 16 (.int 0)) s113 e113 ke113 5 ([108, 105, 110, 101, 32] : List Int32) cs0 h113 K113.old B0 ga_a111 ga_d0 ne_a111_d0 rfl S_s113 (by simp only [List.length_append, List.length_cons, List.length_nil, num_l]; omega) (Ne.symm ne_a111_s113) (Ne.symm ne_a111_e113) (Ne.symm ne_d0_e113) SC hcs) d_prog_9_method_4_code_9 (fun x hx => by
    simp only [List.mem_cons, List.not_mem_nil, or_false] at hx
    rcases hx with rfl | rfl
    · exact ⟨B0.1.lt, sf_a111⟩
    · exact ⟨B0.2.2.2.2.1.lt, sf_d0⟩) (pc' := 12) rfl rfl rfl rfl (Nat.le_of_eq rfl) (by decide) (by decide) (by decide) (by decide) ?_
  intro b114 T114 h114 L114 v114 K114 tr114 q114
  obtain ⟨d1, kd1, cp1, ys1, rfl, KQ1, B1, hd1, sf_d1⟩ := q114
  have ga_d1 : n0 ≤ d1 := hd1.elim (fun q => q ▸ ga_d0) fun q => Nat.le_trans (own_n0 K113.old) q
  have ne_a111_d1 : a111 ≠ d1 := hd1.elim (fun q => q ▸ ne_a111_d0) fun q => own_ne2 B0.1.lt q
  have ne_p_d1 : p ≠ d1 := hd1.elim (fun q => q ▸ ne_p_d0) fun q => own_ne2 F_l.lt q
  replace sf_a111 := tr114 a111 B0.1.lt sf_a111
  replace F_l := F_l.keep KQ1 (ninS ne_p_a111 (ninS ne_p_d0 nin0))
  replace F_e := F_e.keep KQ1 (ninS ne_p_a111 (ninS ne_p_d0 nin0))
  show Goes p_.tables e_ below_ _ (T114.setTop (mkF m_ 12 #[.val (.ref p)] [(.ref a111)]))
  refine k_aloadN K114 d_prog_9_method_4_code_12 (pc' := 13) rfl rfl rfl ?_
  refine k_getF K114 (w77 hw) Via.refl F_l d_prog_9_method_4_code_13 (pc' := 16) rfl ?_
  intro T115 K115
  refine k_virtual K115 [(.long ln)] [] 0 (w160 hw) (w161 hw) (w162 hw) (w163 hw) (w86 hw) (w164 hw) (notFace_of_selects (args := #[]) (mvT K115.hZ (w163 hw))) rfl (by decide) B1.1 (by decide) pd__J_Ljava_lang_StringBuilder__9199 (c_sappJ l Z a0 hw hEW n0 a111 d1 kd1 cp1 (([] : List Int32) ++ ([108, 105, 110, 101, 32] : List Int32)) ys1 ln n sg od td ko kt_ OL TL cs0 h114 K115.old B1 ga_a111 ga_d1 ne_a111_d1 hx (by simp only [List.length_append, List.length_cons, List.length_nil, num_l]; omega) SO VO hO ST_ VT_ hT SC hcs) d_prog_9_method_4_code_16 (fun x hx => by
    simp only [List.mem_cons, List.not_mem_nil, or_false] at hx
    rcases hx with rfl | rfl
    · exact ⟨B1.1.lt, sf_a111⟩
    · exact ⟨B1.2.2.2.2.1.lt, sf_d1⟩) (pc' := 19) rfl rfl rfl rfl (Nat.le_of_eq rfl) (by decide) (by decide) (by decide) (by decide) ?_
  intro b116 T116 h116 L116 v116 K116 tr116 q116
  obtain ⟨d2, kd2, cp2, ys2, rfl, KQ2, B2, hd2, sf_d2⟩ := q116
  have ga_d2 : n0 ≤ d2 := hd2.elim (fun q => q ▸ ga_d1) fun q => Nat.le_trans (own_n0 K115.old) q
  have ne_a111_d2 : a111 ≠ d2 := hd2.elim (fun q => q ▸ ne_a111_d1) fun q => own_ne2 B1.1.lt q
  have ne_p_d2 : p ≠ d2 := hd2.elim (fun q => q ▸ ne_p_d1) fun q => own_ne2 F_l.lt q
  replace sf_a111 := tr116 a111 B1.1.lt sf_a111
  replace F_l := F_l.keep KQ2 (ninS ne_p_a111 (ninS ne_p_d1 nin0))
  replace F_e := F_e.keep KQ2 (ninS ne_p_a111 (ninS ne_p_d1 nin0))
  show Goes p_.tables e_ below_ _ (T116.setTop (mkF m_ 19 #[.val (.ref p)] [(.ref a111)]))
  refine k_ldcS K116 (vs := ([58, 32, 110, 111, 116, 32] : List Int32).map Value.int) (z := 6) (w185 hw) (own_wS hw) (by decide) ⟨by decide, by decide⟩ (by decide) (by decide) 24 (by decide) (by decide) d_prog_9_method_4_code_19 (pc' := 21) rfl (by decide) (by decide) ?_
  intro b117 T117 h117 s117 e117 ke117 K117 E117 tr117 X1 X2 X3 X4 nd117
  replace sf_a111 := tr117 a111 B2.1.lt sf_a111
  replace sf_d2 := tr117 d2 B2.2.2.2.2.1.lt sf_d2
  replace F_l := F_l.ext E117
  replace F_e := F_e.ext E117
  have S_s117 : Str Z h117 s117 e117 ke117 0 6 (([58, 32, 110, 111, 116, 32] : List Int32).map Value.int) := ⟨X1, X2, X3, X4⟩
  have ne_a111_s117 : a111 ≠ s117 := (nd117 a111 sf_a111).1
  have ne_a111_e117 : a111 ≠ e117 := (nd117 a111 sf_a111).2
  have ne_d2_s117 : d2 ≠ s117 := (nd117 d2 sf_d2).1
  have ne_d2_e117 : d2 ≠ e117 := (nd117 d2 sf_d2).2
  show Goes p_.tables e_ below_ _ (T117.setTop (mkF m_ 21 #[.val (.ref p)] [(.ref s117), (.ref a111)]))
  replace B2 := (show Sbd Z h117 a111 d2 kd2 cp2 ((([] : List Int32) ++ ([108, 105, 110, 101, 32] : List Int32)) ++ num sg n) ys2 from ⟨B2.1.ext E117, B2.2.1.ext E117, B2.2.2.1.ext E117, B2.2.2.2.1.ext E117, B2.2.2.2.2.1.ext E117, B2.2.2.2.2.2.1.ext E117, B2.2.2.2.2.2.2.1, B2.2.2.2.2.2.2.2⟩)
  refine k_virtual K117 [(.ref s117)] [] 0 (w110 hw) (w111 hw) (w112 hw) (w113 hw) (w86 hw) (w114 hw) (notFace_of_selects (args := #[]) (mvT K117.hZ (w113 hw))) rfl (by decide) B2.1 (by decide) pd__Ljava_lang_String__Ljava_lang_StringBuilder__8660 (c_sapp l Z a0 hw hEW n0 a111 d2 kd2 cp2 ((([] : List Int32) ++ ([108, 105, 110, 101, 32] : List Int32)) ++ num sg n) ys2 s117 e117 ke117 6 ([58, 32, 110, 111, 116, 32] : List Int32) cs0 h117 K117.old B2 ga_a111 ga_d2 ne_a111_d2 rfl S_s117 (by simp only [List.length_append, List.length_cons, List.length_nil, num_l]; omega) (Ne.symm ne_a111_s117) (Ne.symm ne_a111_e117) (Ne.symm ne_d2_e117) SC hcs) d_prog_9_method_4_code_21 (fun x hx => by
    simp only [List.mem_cons, List.not_mem_nil, or_false] at hx
    rcases hx with rfl | rfl
    · exact ⟨B2.1.lt, sf_a111⟩
    · exact ⟨B2.2.2.2.2.1.lt, sf_d2⟩) (pc' := 24) rfl rfl rfl rfl (Nat.le_of_eq rfl) (by decide) (by decide) (by decide) (by decide) ?_
  intro b118 T118 h118 L118 v118 K118 tr118 q118
  obtain ⟨d3, kd3, cp3, ys3, rfl, KQ3, B3, hd3, sf_d3⟩ := q118
  have ga_d3 : n0 ≤ d3 := hd3.elim (fun q => q ▸ ga_d2) fun q => Nat.le_trans (own_n0 K117.old) q
  have ne_a111_d3 : a111 ≠ d3 := hd3.elim (fun q => q ▸ ne_a111_d2) fun q => own_ne2 B2.1.lt q
  have ne_p_d3 : p ≠ d3 := hd3.elim (fun q => q ▸ ne_p_d2) fun q => own_ne2 F_l.lt q
  replace sf_a111 := tr118 a111 B2.1.lt sf_a111
  replace F_l := F_l.keep KQ3 (ninS ne_p_a111 (ninS ne_p_d2 nin0))
  replace F_e := F_e.keep KQ3 (ninS ne_p_a111 (ninS ne_p_d2 nin0))
  show Goes p_.tables e_ below_ _ (T118.setTop (mkF m_ 24 #[.val (.ref p)] [(.ref a111)]))
  refine k_aloadN K118 d_prog_9_method_4_code_24 (pc' := 25) rfl rfl rfl ?_
  refine k_getF K118 (w75 hw) Via.refl F_e d_prog_9_method_4_code_25 (pc' := 28) rfl ?_
  intro T119 K119
  refine k_virtualP K119 [] [(.ref a111)] 1 (w186 hw) (w5 hw) (w6 hw) (w7 hw) (w2 hw) (w8 hw) (notFace_of_selects (args := #[]) (mvT K119.hZ (w7 hw))) rfl (by decide) (X_en.ext K119.old.2) (by decide) pd___Ljava_lang_String__9676 (c_opn l Z a0 hw hEW n0 en nm h118 K119.old (F_on.ext K119.old.2)) d_prog_9_method_4_code_28 nofun (pc' := 31) rfl rfl rfl rfl (Nat.le_of_eq rfl) (by decide) (by decide) (by decide) (by decide) ?_
  intro b120 T120 L120 K120 tr120
  show Goes p_.tables e_ below_ _ (T120.setTop (mkF m_ 31 #[.val (.ref p)] [(.ref nm), (.ref a111)]))
  replace sf_a111 := tr120 a111 B3.1.lt sf_a111
  replace sf_d3 := tr120 d3 B3.2.2.2.2.1.lt sf_d3
  refine k_virtual K120 [(.ref nm)] [] 0 (w110 hw) (w111 hw) (w112 hw) (w113 hw) (w86 hw) (w114 hw) (notFace_of_selects (args := #[]) (mvT K120.hZ (w113 hw))) rfl (by decide) B3.1 (by decide) pd__Ljava_lang_String__Ljava_lang_StringBuilder__8660 (c_sapp l Z a0 hw hEW n0 a111 d3 kd3 cp3 (((([] : List Int32) ++ ([108, 105, 110, 101, 32] : List Int32)) ++ num sg n) ++ ([58, 32, 110, 111, 116, 32] : List Int32)) ys3 nm nb kn (Int32.ofNat ns.length) ns cs0 h118 K120.old B3 ga_a111 ga_d3 ne_a111_d3 (own_of (by omega)) (S_nm.ext K120.old.2) (by simp only [List.length_append, List.length_cons, List.length_nil, num_l]; omega) (K120.old.ne S_nm.lt ga_a111) (K120.old.ne S_nm.blt ga_a111) (K120.old.ne S_nm.blt ga_d3) SC hcs) d_prog_9_method_4_code_31 (fun x hx => by
    simp only [List.mem_cons, List.not_mem_nil, or_false] at hx
    rcases hx with rfl | rfl
    · exact ⟨B3.1.lt, sf_a111⟩
    · exact ⟨B3.2.2.2.2.1.lt, sf_d3⟩) (pc' := 34) rfl rfl rfl rfl (Nat.le_of_eq rfl) (by decide) (by decide) (by decide) (by decide) ?_
  intro b121 T121 h121 L121 v121 K121 tr121 q121
  obtain ⟨d4, kd4, cp4, ys4, rfl, KQ4, B4, hd4, sf_d4⟩ := q121
  have ga_d4 : n0 ≤ d4 := hd4.elim (fun q => q ▸ ga_d3) fun q => Nat.le_trans (own_n0 K120.old) q
  have ne_a111_d4 : a111 ≠ d4 := hd4.elim (fun q => q ▸ ne_a111_d3) fun q => own_ne2 B3.1.lt q
  have ne_p_d4 : p ≠ d4 := hd4.elim (fun q => q ▸ ne_p_d3) fun q => own_ne2 F_l.lt q
  replace sf_a111 := tr121 a111 B3.1.lt sf_a111
  replace F_l := F_l.keep KQ4 (ninS ne_p_a111 (ninS ne_p_d3 nin0))
  replace F_e := F_e.keep KQ4 (ninS ne_p_a111 (ninS ne_p_d3 nin0))
  show Goes p_.tables e_ below_ _ (T121.setTop (mkF m_ 34 #[.val (.ref p)] [(.ref a111)]))
  refine k_ldcS K121 (vs := ([32, 116, 101, 120, 116] : List Int32).map Value.int) (z := 5) (w210 hw) (own_wS hw) (by decide) ⟨by decide, by decide⟩ (by decide) (by decide) 20 (by decide) (by decide) d_prog_9_method_4_code_34 (pc' := 36) rfl (by decide) (by decide) ?_
  intro b122 T122 h122 s122 e122 ke122 K122 E122 tr122 X1 X2 X3 X4 nd122
  replace sf_a111 := tr122 a111 B4.1.lt sf_a111
  replace sf_d4 := tr122 d4 B4.2.2.2.2.1.lt sf_d4
  replace F_l := F_l.ext E122
  replace F_e := F_e.ext E122
  have S_s122 : Str Z h122 s122 e122 ke122 0 5 (([32, 116, 101, 120, 116] : List Int32).map Value.int) := ⟨X1, X2, X3, X4⟩
  have ne_a111_s122 : a111 ≠ s122 := (nd122 a111 sf_a111).1
  have ne_a111_e122 : a111 ≠ e122 := (nd122 a111 sf_a111).2
  have ne_d4_s122 : d4 ≠ s122 := (nd122 d4 sf_d4).1
  have ne_d4_e122 : d4 ≠ e122 := (nd122 d4 sf_d4).2
  show Goes p_.tables e_ below_ _ (T122.setTop (mkF m_ 36 #[.val (.ref p)] [(.ref s122), (.ref a111)]))
  replace B4 := (show Sbd Z h122 a111 d4 kd4 cp4 ((((([] : List Int32) ++ ([108, 105, 110, 101, 32] : List Int32)) ++ num sg n) ++ ([58, 32, 110, 111, 116, 32] : List Int32)) ++ ns) ys4 from ⟨B4.1.ext E122, B4.2.1.ext E122, B4.2.2.1.ext E122, B4.2.2.2.1.ext E122, B4.2.2.2.2.1.ext E122, B4.2.2.2.2.2.1.ext E122, B4.2.2.2.2.2.2.1, B4.2.2.2.2.2.2.2⟩)
  refine k_virtual K122 [(.ref s122)] [] 0 (w110 hw) (w111 hw) (w112 hw) (w113 hw) (w86 hw) (w114 hw) (notFace_of_selects (args := #[]) (mvT K122.hZ (w113 hw))) rfl (by decide) B4.1 (by decide) pd__Ljava_lang_String__Ljava_lang_StringBuilder__8660 (c_sapp l Z a0 hw hEW n0 a111 d4 kd4 cp4 ((((([] : List Int32) ++ ([108, 105, 110, 101, 32] : List Int32)) ++ num sg n) ++ ([58, 32, 110, 111, 116, 32] : List Int32)) ++ ns) ys4 s122 e122 ke122 5 ([32, 116, 101, 120, 116] : List Int32) cs0 h122 K122.old B4 ga_a111 ga_d4 ne_a111_d4 rfl S_s122 (by simp only [List.length_append, List.length_cons, List.length_nil, num_l]; omega) (Ne.symm ne_a111_s122) (Ne.symm ne_a111_e122) (Ne.symm ne_d4_e122) SC hcs) d_prog_9_method_4_code_36 (fun x hx => by
    simp only [List.mem_cons, List.not_mem_nil, or_false] at hx
    rcases hx with rfl | rfl
    · exact ⟨B4.1.lt, sf_a111⟩
    · exact ⟨B4.2.2.2.2.1.lt, sf_d4⟩) (pc' := 39) rfl rfl rfl rfl (Nat.le_of_eq rfl) (by decide) (by decide) (by decide) (by decide) ?_
  intro b123 T123 h123 L123 v123 K123 tr123 q123
  obtain ⟨d5, kd5, cp5, ys5, rfl, KQ5, B5, hd5, sf_d5⟩ := q123
  have ga_d5 : n0 ≤ d5 := hd5.elim (fun q => q ▸ ga_d4) fun q => Nat.le_trans (own_n0 K122.old) q
  have ne_a111_d5 : a111 ≠ d5 := hd5.elim (fun q => q ▸ ne_a111_d4) fun q => own_ne2 B4.1.lt q
  have ne_p_d5 : p ≠ d5 := hd5.elim (fun q => q ▸ ne_p_d4) fun q => own_ne2 F_l.lt q
  replace sf_a111 := tr123 a111 B4.1.lt sf_a111
  replace F_l := F_l.keep KQ5 (ninS ne_p_a111 (ninS ne_p_d4 nin0))
  replace F_e := F_e.keep KQ5 (ninS ne_p_a111 (ninS ne_p_d4 nin0))
  show Goes p_.tables e_ below_ _ (T123.setTop (mkF m_ 39 #[.val (.ref p)] [(.ref a111)]))
  refine k_virtual K123 [] [] 0 (w211 hw) (w212 hw) (w213 hw) (w214 hw) (w86 hw) (w215 hw) (notFace_of_selects (args := #[]) (mvT K123.hZ (w214 hw))) rfl (by decide) B5.1 (by decide) pd___Ljava_lang_String__9676 (c_ts l Z a0 hw hEW n0 a111 d5 kd5 cp5 (((((([] : List Int32) ++ ([108, 105, 110, 101, 32] : List Int32)) ++ num sg n) ++ ([58, 32, 110, 111, 116, 32] : List Int32)) ++ ns) ++ ([32, 116, 101, 120, 116] : List Int32)) ys5 cs0 h123 K123.old B5 (by simp only [List.length_append, List.length_cons, List.length_nil, num_l]; omega) SC hcs) d_prog_9_method_4_code_39 nofun (pc' := 42) rfl rfl rfl rfl (Nat.le_of_eq rfl) (by decide) (by decide) (by decide) (by decide) ?_
  intro b124 T124 h124 L124 v124 K124 tr124 q124
  obtain ⟨r, t, kt, rfl, -, S⟩ := q124
  show Goes p_.tables e_ below_ _ (T124.setTop (mkF m_ 42 #[.val (.ref p)] [(.ref r)]))
  exact k_aret K124 d_prog_9_method_4_code_42 rfl rfl rfl (fun sf ht => ⟨r, t, kt, rfl, S⟩) (by decide) (by decide)
theorem d_jdk_42_method_154_code_0 : decode jdk_42_method_154_code 0 = .ok (.getstatic 38, 3) := by decide +kernel
theorem d_jdk_42_method_154_code_3 : decode jdk_42_method_154_code 3 = .ok (.ifCond .eq 14, 3) := by decide +kernel
theorem d_jdk_42_method_154_code_6 : decode jdk_42_method_154_code 6 = .ok (.aload_n 0, 1) := by decide +kernel
theorem d_jdk_42_method_154_code_7 : decode jdk_42_method_154_code 7 = .ok (.getfield 15, 3) := by decide +kernel
theorem d_jdk_42_method_154_code_10 : decode jdk_42_method_154_code 10 = .ok (.ifCond .ne 7, 3) := by decide +kernel
theorem d_jdk_42_method_154_code_17 : decode jdk_42_method_154_code 17 = .ok (.iconst 0, 1) := by decide +kernel
theorem d_jdk_42_method_154_code_18 : decode jdk_42_method_154_code 18 = .ok (.ireturn, 1) := by decide +kernel
theorem d_jdk_42_method_154_code_13 : decode jdk_42_method_154_code 13 = .ok (.iconst 1, 1) := by decide +kernel
theorem d_jdk_42_method_154_code_14 : decode jdk_42_method_154_code 14 = .ok (.goto 4, 3) := by decide +kernel
set_option maxRecDepth 65536 in
set_option maxHeartbeats 40000000 in
theorem c_isLatin1 (l : Launch) (Z : State) (a0 : Array Value) (hw : Tb a0 Z) (hEW : EW Z a0 EL0) (n0 : Nat) (a b : Addr) (k : ClassId) (cd z : Int32) (vs : List Value) (cs0 : Int32) (h0 : Heap) (O : Old Z n0 h0) (S : Str Z h0 a b k cd z vs) (hcd : cd = 0 ∨ cd = 1) (SC : Sta Z Z.heap "java/lang/String" "COMPACT_STRINGS" "Z" (.int cs0)) (hcs : ¬ cs0 = 0) :
    Ct l Z EL0 n0 (⟨"java/lang/String", "isLatin1", "()Z"⟩ : MethodName) jdk_42_method_154_code 1 (some .boolean) ({ frames := 0, cells := 0, slots := 0, locals := 0 } : Room) #[(.ref a)] h0 [] (Pu (some (.int (if cd = 0 then 1 else 0))) h0) := by
  refine Ct.of (a0 := a0) #[.val (.ref a)] hEW O (plainFor_of_name pl_java_lang_String) (fun m => by first | (simp [entryFrame, mkF, argsToLocals, Value.category]; done) | rfl) ?_
  intro p_ e_ s_ m_ below_ meth_ c_ b_ T_ K hSP hsh
  refine k_getS K (w131 hw) Via.refl SC d_jdk_42_method_154_code_0 (pc' := 3) rfl ?_
  intro T125 K125
  refine k_if_eq K125 d_jdk_42_method_154_code_3 (by decide) (pc' := 17) (pc2 := 6) (by decide) rfl (fun q => absurd q hcs) (fun hc3 => ?_)
  refine k_aloadN K125 d_jdk_42_method_154_code_6 (pc' := 7) rfl rfl rfl ?_
  refine k_getF K125 (w132 hw) Via.refl S.2.1 d_jdk_42_method_154_code_7 (pc' := 10) rfl ?_
  intro T126 K126
  refine k_if_ne K126 d_jdk_42_method_154_code_10 (by decide) (pc' := 17) (pc2 := 13) (by decide) rfl (fun hc10 => ?_) (fun hc10 => ?_)
  · refine k_iconst K126 (0 : Int32) d_jdk_42_method_154_code_17 (pc' := 18) rfl rfl ?_
    exact k_nret K126 d_jdk_42_method_154_code_18 rfl (by simp) rfl (fun sf ht => ⟨by rw [if_neg hc10], rfl⟩) (by decide) (by decide)
  · refine k_iconst K126 (1 : Int32) d_jdk_42_method_154_code_13 (pc' := 14) rfl rfl ?_
    refine k_goto K126 d_jdk_42_method_154_code_14 (by decide) (pc' := 18) (by decide) ?_
    exact k_nret K126 d_jdk_42_method_154_code_18 rfl (by simp) rfl (fun sf ht => ⟨by rw [if_pos hc10], rfl⟩) (by decide) (by decide)
theorem d_jdk_41_method_11_code_0 : decode jdk_41_method_11_code 0 = .ok (.iload_n 0, 1) := by decide +kernel
theorem d_jdk_41_method_11_code_1 : decode jdk_41_method_11_code 1 = .ok (.ifCond .lt 8, 3) := by decide +kernel
theorem d_jdk_41_method_11_code_4 : decode jdk_41_method_11_code 4 = .ok (.iload_n 0, 1) := by decide +kernel
theorem d_jdk_41_method_11_code_5 : decode jdk_41_method_11_code 5 = .ok (.iload_n 1, 1) := by decide +kernel
theorem d_jdk_41_method_11_code_6 : decode jdk_41_method_11_code 6 = .ok (.if_icmp .lt 10, 3) := by decide +kernel
theorem d_jdk_41_method_11_code_16 : decode jdk_41_method_11_code 16 = .ok (.iload_n 0, 1) := by decide +kernel
theorem d_jdk_41_method_11_code_17 : decode jdk_41_method_11_code 17 = .ok (.ireturn, 1) := by decide +kernel
theorem pl_jdk_internal_util_Preconditions : plainName "jdk/internal/util/Preconditions" = true := by first | (simp [plainName, overriddenIn]; done) | decide +kernel
set_option maxRecDepth 65536 in
set_option maxHeartbeats 40000000 in
theorem c_checkIndexP (l : Launch) (Z : State) (a0 : Array Value) (hw : Tb a0 Z) (hEW : EW Z a0 EL0) (n0 : Nat) (i n : Int32) (ff : Value) (h0 : Heap) (O : Old Z n0 h0) (hff : ff.isRef = true) (h1 : ¬ i < 0) (h2 : i < n) :
    Ct l Z EL0 n0 (⟨"jdk/internal/util/Preconditions", "checkIndex", "(IILjava/util/function/BiFunction;)I"⟩ : MethodName) jdk_41_method_11_code 3 (some .int) ({ frames := 0, cells := 0, slots := 0, locals := 0 } : Room) #[(.int i), (.int n), ff] h0 [] (Pu (some (.int i)) h0) := by
  refine Ct.of (a0 := a0) #[.val (.int i), .val (.int n), .val ff] hEW O (plainFor_of_name pl_jdk_internal_util_Preconditions) (fun m => by rcases own_refc hff with rfl | ⟨r, rfl⟩ <;> first | (simp [entryFrame, mkF, argsToLocals, Value.category]; done) | rfl) ?_
  intro p_ e_ s_ m_ below_ meth_ c_ b_ T_ K hSP hsh
  refine k_iloadN K d_jdk_41_method_11_code_0 (pc' := 1) rfl rfl ?_
  refine k_if_lt K d_jdk_41_method_11_code_1 (by decide) (pc' := 9) (pc2 := 4) (by decide) rfl (fun q => absurd q h1) (fun hc1 => ?_)
  refine k_iloadN K d_jdk_41_method_11_code_4 (pc' := 5) rfl rfl ?_
  refine k_iloadN K d_jdk_41_method_11_code_5 (pc' := 6) rfl rfl ?_
  refine k_icmp_lt K d_jdk_41_method_11_code_6 (by decide) (pc' := 16) (pc2 := 9) (by decide) rfl (fun hc6 => ?_) (fun q => absurd h2 q)
  refine k_iloadN K d_jdk_41_method_11_code_16 (pc' := 17) rfl rfl ?_
  exact k_iret K d_jdk_41_method_11_code_17 rfl (fun sf ht => ⟨rfl, rfl⟩) (by decide) (by decide)
theorem d_jdk_42_method_155_code_0 : decode jdk_42_method_155_code 0 = .ok (.iload_n 0, 1) := by decide +kernel
theorem d_jdk_42_method_155_code_1 : decode jdk_42_method_155_code 1 = .ok (.iload_n 1, 1) := by decide +kernel
theorem d_jdk_42_method_155_code_2 : decode jdk_42_method_155_code 2 = .ok (.getstatic 1053, 3) := by decide +kernel
theorem w302 {Z : State} {a0 : Array Value} (hw : Tb a0 Z) : (Jvm.Cond.fieldLink "java/lang/String" (1053 : Nat) "jdk/internal/util/Preconditions" "SIOOBE_FORMATTER" "Ljava/util/function/BiFunction;").before a0 Z = true := hw _ (List.mem_of_getElem? (i := 302) rfl)
theorem d_jdk_42_method_155_code_5 : decode jdk_42_method_155_code 5 = .ok (.invokestatic 1059, 3) := by decide +kernel
theorem w304 {Z : State} {a0 : Array Value} (hw : Tb a0 Z) : (Jvm.Cond.methodLink "java/lang/String" (1059 : Nat) ({ cls := "jdk/internal/util/Preconditions", name := "checkIndex", desc := "(IILjava/util/function/BiFunction;)I" } : Jvm.MethodName)).before a0 Z = true := hw _ (List.mem_of_getElem? (i := 304) rfl)
theorem w303 {Z : State} {a0 : Array Value} (hw : Tb a0 Z) : (Jvm.Cond.initialized "jdk/internal/util/Preconditions").before a0 Z = true := hw _ (List.mem_of_getElem? (i := 303) rfl)
theorem w306 {Z : State} {a0 : Array Value} (hw : Tb a0 Z) : (Jvm.Cond.code ({ cls := "jdk/internal/util/Preconditions", name := "checkIndex", desc := "(IILjava/util/function/BiFunction;)I" } : Jvm.MethodName) jdk_41_method_11_code (3 : Nat) (Option.some Jvm.ClassFile.FieldType.int)).before a0 Z = true := hw _ (List.mem_of_getElem? (i := 306) rfl)
theorem w305 {Z : State} {a0 : Array Value} (hw : Tb a0 Z) : (Jvm.Cond.static ({ cls := "jdk/internal/util/Preconditions", name := "checkIndex", desc := "(IILjava/util/function/BiFunction;)I" } : Jvm.MethodName)).before a0 Z = true := hw _ (List.mem_of_getElem? (i := 305) rfl)
theorem pd__IILjava_util_function_BiFunction__I_2091 : parseMethodDescriptor "(IILjava/util/function/BiFunction;)I" = some ⟨[.int, .int, (.object "java/util/function/BiFunction")], some .int⟩ := by decide +kernel
theorem d_jdk_42_method_155_code_8 : decode jdk_42_method_155_code 8 = .ok (.pop, 1) := by decide +kernel
theorem d_jdk_42_method_155_code_9 : decode jdk_42_method_155_code 9 = .ok (.return_, 1) := by decide +kernel
set_option maxRecDepth 65536 in
set_option maxHeartbeats 40000000 in
theorem c_checkIndexS (l : Launch) (Z : State) (a0 : Array Value) (hw : Tb a0 Z) (hEW : EW Z a0 EL0) (n0 : Nat) (i n : Int32) (ff : Value) (h0 : Heap) (O : Old Z n0 h0) (SF : Sta Z Z.heap "jdk/internal/util/Preconditions" "SIOOBE_FORMATTER" "Ljava/util/function/BiFunction;" ff) (hff : ff.isRef = true) (h1 : ¬ i < 0) (h2 : i < n) :
    Ct l Z EL0 n0 (⟨"java/lang/String", "checkIndex", "(II)V"⟩ : MethodName) jdk_42_method_155_code 2 none ({ frames := 1, cells := 0, slots := 0, locals := 14 } : Room) #[(.int i), (.int n)] h0 [] (Pu none h0) := by
  refine Ct.of (a0 := a0) #[.val (.int i), .val (.int n)] hEW O (plainFor_of_name pl_java_lang_String) (fun m => by first | (simp [entryFrame, mkF, argsToLocals, Value.category]; done) | rfl) ?_
  intro p_ e_ s_ m_ below_ meth_ c_ b_ T_ K hSP hsh
  refine k_iloadN K d_jdk_42_method_155_code_0 (pc' := 1) rfl rfl ?_
  refine k_iloadN K d_jdk_42_method_155_code_1 (pc' := 2) rfl rfl ?_
  refine k_getS K (w302 hw) Via.refl SF d_jdk_42_method_155_code_2 (pc' := 5) rfl ?_
  intro T127 K127
  refine k_staticP K127 [(.int i), (.int n), ff] [] 0 (w304 hw) (w305 hw) (w303 hw) (w306 hw) (by decide) pd__IILjava_util_function_BiFunction__I_2091 (c_checkIndexP l Z a0 hw hEW n0 i n ff h0 K127.old hff h1 h2) d_jdk_42_method_155_code_5 nofun (pc' := 8) rfl rfl rfl rfl (Nat.le_of_eq rfl) (by decide) (by decide) (by decide) (by decide) ?_
  intro b128 T128 L128 K128 tr128
  show Goes p_.tables e_ below_ _ (T128.setTop (mkF m_ 8 #[.val (.int i), .val (.int n)] [(.int i)]))
  refine k_pop K128 d_jdk_42_method_155_code_8 (pc' := 9) rfl rfl ?_
  exact k_return K128 d_jdk_42_method_155_code_9 rfl (fun sf ht => ⟨rfl, rfl⟩) (by decide) (by decide)
theorem d_jdk_43_method_2_code_0 : decode jdk_43_method_2_code 0 = .ok (.iload_n 1, 1) := by decide +kernel
theorem d_jdk_43_method_2_code_1 : decode jdk_43_method_2_code 1 = .ok (.aload_n 0, 1) := by decide +kernel
theorem d_jdk_43_method_2_code_2 : decode jdk_43_method_2_code 2 = .ok (.arraylength, 1) := by decide +kernel
theorem d_jdk_43_method_2_code_3 : decode jdk_43_method_2_code 3 = .ok (.invokestatic 9, 3) := by decide +kernel
theorem w299 {Z : State} {a0 : Array Value} (hw : Tb a0 Z) : (Jvm.Cond.methodLink "java/lang/StringLatin1" (9 : Nat) ({ cls := "java/lang/String", name := "checkIndex", desc := "(II)V" } : Jvm.MethodName)).before a0 Z = true := hw _ (List.mem_of_getElem? (i := 299) rfl)
theorem w301 {Z : State} {a0 : Array Value} (hw : Tb a0 Z) : (Jvm.Cond.code ({ cls := "java/lang/String", name := "checkIndex", desc := "(II)V" } : Jvm.MethodName) jdk_42_method_155_code (2 : Nat) (Option.none : Option Jvm.ClassFile.FieldType)).before a0 Z = true := hw _ (List.mem_of_getElem? (i := 301) rfl)
theorem w300 {Z : State} {a0 : Array Value} (hw : Tb a0 Z) : (Jvm.Cond.static ({ cls := "java/lang/String", name := "checkIndex", desc := "(II)V" } : Jvm.MethodName)).before a0 Z = true := hw _ (List.mem_of_getElem? (i := 300) rfl)
theorem d_jdk_43_method_2_code_6 : decode jdk_43_method_2_code 6 = .ok (.aload_n 0, 1) := by decide +kernel
theorem d_jdk_43_method_2_code_7 : decode jdk_43_method_2_code 7 = .ok (.iload_n 1, 1) := by decide +kernel
theorem d_jdk_43_method_2_code_8 : decode jdk_43_method_2_code 8 = .ok (.baload, 1) := by decide +kernel
theorem d_jdk_43_method_2_code_9 : decode jdk_43_method_2_code 9 = .ok (.sipush 255, 3) := by decide +kernel
theorem d_jdk_43_method_2_code_12 : decode jdk_43_method_2_code 12 = .ok (.iand, 1) := by decide +kernel
theorem d_jdk_43_method_2_code_13 : decode jdk_43_method_2_code 13 = .ok (.i2c, 1) := by decide +kernel
theorem d_jdk_43_method_2_code_14 : decode jdk_43_method_2_code 14 = .ok (.ireturn, 1) := by decide +kernel
theorem pl_java_lang_StringLatin1 : plainName "java/lang/StringLatin1" = true := by first | (simp [plainName, overriddenIn]; done) | decide +kernel
set_option maxRecDepth 65536 in
set_option maxHeartbeats 40000000 in
theorem c_l1charAt (l : Launch) (Z : State) (a0 : Array Value) (hw : Tb a0 Z) (hEW : EW Z a0 EL0) (n0 : Nat) (e : Addr) (ke : ClassId) (z i x : Int32) (vs : List Value) (ff : Value) (h0 : Heap) (O : Old Z n0 h0) (SF : Sta Z Z.heap "jdk/internal/util/Preconditions" "SIOOBE_FORMATTER" "Ljava/util/function/BiFunction;" ff) (hff : ff.isRef = true) (V_e : Arv Z h0 e ke .byte z vs (.int 0)) (h1 : ¬ i < 0) (h2 : i < z) (hv : vs.getD i.toNatClampNeg (.int 0) = .int x) :
    Ct l Z EL0 n0 (⟨"java/lang/StringLatin1", "charAt", "([BI)C"⟩ : MethodName) jdk_43_method_2_code 2 (some .char) ({ frames := 2, cells := 0, slots := 0, locals := 27 } : Room) #[(.ref e), (.int i)] h0 [] (Pu (some (.int (x &&& 255).toUInt32.toUInt16.toUInt32.toInt32)) h0) := by
  refine Ct.of (a0 := a0) #[.val (.ref e), .val (.int i)] hEW O (plainFor_of_name pl_java_lang_StringLatin1) (fun m => by first | (simp [entryFrame, mkF, argsToLocals, Value.category]; done) | rfl) ?_
  intro p_ e_ s_ m_ below_ meth_ c_ b_ T_ K hSP hsh
  refine k_iloadN K d_jdk_43_method_2_code_0 (pc' := 1) rfl rfl ?_
  refine k_aloadN K d_jdk_43_method_2_code_1 (pc' := 2) rfl rfl rfl ?_
  refine k_len K V_e d_jdk_43_method_2_code_2 (pc' := 3) rfl ?_
  refine k_staticP K [(.int i), (.int z)] [] 0 (w299 hw) (w300 hw) (w98 hw) (w301 hw) (by decide) pd__II_V_999 (c_checkIndexS l Z a0 hw hEW n0 i z ff h0 K.old SF hff h1 h2) d_jdk_43_method_2_code_3 nofun (pc' := 6) rfl rfl rfl rfl (Nat.le_of_eq rfl) (by decide) (by decide) (by decide) (by decide) ?_
  intro b129 T129 L129 K129 tr129
  show Goes p_.tables e_ below_ _ (T129.setTop (mkF m_ 6 #[.val (.ref e), .val (.int i)] []))
  refine k_aloadN K129 d_jdk_43_method_2_code_6 (pc' := 7) rfl rfl rfl ?_
  refine k_iloadN K129 d_jdk_43_method_2_code_7 (pc' := 8) rfl rfl ?_
  refine k_baload K129 (j := i) V_e ⟨h1, h2⟩ hv d_jdk_43_method_2_code_8 (pc' := 9) rfl ?_
  have hr := own_i2c (x &&& 255)
  refine k_sipush K129 (255 : Int32) d_jdk_43_method_2_code_9 (pc' := 12) rfl rfl ?_
  refine k_iand K129 d_jdk_43_method_2_code_12 (pc' := 13) rfl ?_
  refine k_i2c K129 d_jdk_43_method_2_code_13 (pc' := 14) rfl ?_
  exact k_nret K129 d_jdk_43_method_2_code_14 rfl (by simp) (own_narrowc hr.1 hr.2) (fun sf ht => ⟨rfl, rfl⟩) (by decide) (by decide)
theorem own_and255 {c : Int32} (h : 0 ≤ c.toInt ∧ c.toInt < 128) : (c &&& 255).toUInt32.toUInt16.toUInt32.toInt32 = c := by
  obtain ⟨n, hn⟩ := Int.eq_ofNat_of_zero_le h.1
  have e := own_nat hn
  have e2 : (c &&& 255).toBitVec.toNat = n % 256 := by
    show (c.toBitVec &&& 255#32).toNat = _
    rw [BitVec.toNat_and, e]; exact Nat.and_two_pow_sub_one_eq_mod _ 8
  apply Int32.toBitVec_inj.mp
  apply BitVec.eq_of_toNat_eq
  rw [own_i2cN, e2, e]; omega
theorem own_digL {x P : Int64} {n sg k : Nat} (h : Sg x n sg) (hP : P.toInt = (10 ^ k : Nat)) : ((48 : Int32) + (if (x / P - x / P / 10 * 10) < 0 then -(x / P - x / P / 10 * 10) else (x / P - x / P / 10 * 10)).toInt32).toUInt32.toUInt16.toUInt32.toInt32 = dig n k := by
  have e := own_ab64 (own_rm64 (own_q64 h hP)) (Nat.mod_lt _ (by decide))
  have e4 : (48 : Int32) + (if (x / P - x / P / 10 * 10) < 0 then -(x / P - x / P / 10 * 10) else (x / P - x / P / 10 * 10)).toInt32 = dig n k := own_i32e (by
    rw [XT.add32 (by rw [e, show (48 : Int32).toInt = 48 by decide]; constructor <;> omega), e, show (48 : Int32).toInt = 48 by decide, dig, Int32.toInt_ofNat_of_lt (by omega)]; omega)
  have hb := dig_b n k
  rw [e4, own_i2cI hb.1 (by omega)]
theorem own_cntI (n k : Nat) (h1 : 1 ≤ k) (h2 : k ≤ 18) : Int32.ofNat (min (szL n) k) + Int32.ofNat (if n < 10 ^ k then 0 else 1) = Int32.ofNat (min (szL n) (k + 1)) := by
  rw [← own_cnt n k h1 h2]
  exact own_sumN (own_of (by split <;> omega)) (by have := szL_b n; split <;> omega)
theorem own_cnt1 (n : Nat) : (1 : Int32) = Int32.ofNat (min (szL n) 1) := by
  rw [show min (szL n) 1 = 1 by have := (szL_b n).1; omega]; rfl
def PW : List Int64 := [1, 10, 100, 1000, 10000, 100000, 1000000, 10000000, 100000000, 1000000000, 10000000000, 100000000000, 1000000000000, 10000000000000, 100000000000000, 1000000000000000, 10000000000000000, 100000000000000000, 1000000000000000000]
theorem d_jdk_42_method_56_code_0 : decode jdk_42_method_56_code 0 = .ok (.aload_n 0, 1) := by decide +kernel
theorem d_jdk_42_method_56_code_1 : decode jdk_42_method_56_code 1 = .ok (.invokevirtual 492, 3) := by decide +kernel
theorem w290 {Z : State} {a0 : Array Value} (hw : Tb a0 Z) : (Jvm.Cond.methodLink "java/lang/String" (492 : Nat) ({ cls := "java/lang/String", name := "isLatin1", desc := "()Z" } : Jvm.MethodName)).before a0 Z = true := hw _ (List.mem_of_getElem? (i := 290) rfl)
theorem w294 {Z : State} {a0 : Array Value} (hw : Tb a0 Z) : (Jvm.Cond.code ({ cls := "java/lang/String", name := "isLatin1", desc := "()Z" } : Jvm.MethodName) jdk_42_method_154_code (1 : Nat) (Option.some Jvm.ClassFile.FieldType.boolean)).before a0 Z = true := hw _ (List.mem_of_getElem? (i := 294) rfl)
theorem w293 {Z : State} {a0 : Array Value} (hw : Tb a0 Z) : (Jvm.Cond.selects "java/lang/String" ({ cls := "java/lang/String", name := "isLatin1", desc := "()Z" } : Jvm.MethodName) ({ cls := "java/lang/String", name := "isLatin1", desc := "()Z" } : Jvm.MethodName)).before a0 Z = true := hw _ (List.mem_of_getElem? (i := 293) rfl)
theorem w291 {Z : State} {a0 : Array Value} (hw : Tb a0 Z) : (Jvm.Cond.declares ({ cls := "java/lang/String", name := "isLatin1", desc := "()Z" } : Jvm.MethodName)).before a0 Z = true := hw _ (List.mem_of_getElem? (i := 291) rfl)
theorem w292 {Z : State} {a0 : Array Value} (hw : Tb a0 Z) : (Jvm.Cond.instanceMethod ({ cls := "java/lang/String", name := "isLatin1", desc := "()Z" } : Jvm.MethodName)).before a0 Z = true := hw _ (List.mem_of_getElem? (i := 292) rfl)
theorem d_jdk_42_method_56_code_4 : decode jdk_42_method_56_code 4 = .ok (.ifCond .eq 12, 3) := by decide +kernel
theorem d_jdk_42_method_56_code_7 : decode jdk_42_method_56_code 7 = .ok (.aload_n 0, 1) := by decide +kernel
theorem d_jdk_42_method_56_code_8 : decode jdk_42_method_56_code 8 = .ok (.getfield 9, 3) := by decide +kernel
theorem d_jdk_42_method_56_code_11 : decode jdk_42_method_56_code 11 = .ok (.iload_n 1, 1) := by decide +kernel
theorem d_jdk_42_method_56_code_12 : decode jdk_42_method_56_code 12 = .ok (.invokestatic 495, 3) := by decide +kernel
theorem w295 {Z : State} {a0 : Array Value} (hw : Tb a0 Z) : (Jvm.Cond.methodLink "java/lang/String" (495 : Nat) ({ cls := "java/lang/StringLatin1", name := "charAt", desc := "([BI)C" } : Jvm.MethodName)).before a0 Z = true := hw _ (List.mem_of_getElem? (i := 295) rfl)
theorem w297 {Z : State} {a0 : Array Value} (hw : Tb a0 Z) : (Jvm.Cond.initialized "java/lang/StringLatin1").before a0 Z = true := hw _ (List.mem_of_getElem? (i := 297) rfl)
theorem w298 {Z : State} {a0 : Array Value} (hw : Tb a0 Z) : (Jvm.Cond.code ({ cls := "java/lang/StringLatin1", name := "charAt", desc := "([BI)C" } : Jvm.MethodName) jdk_43_method_2_code (2 : Nat) (Option.some Jvm.ClassFile.FieldType.char)).before a0 Z = true := hw _ (List.mem_of_getElem? (i := 298) rfl)
theorem w296 {Z : State} {a0 : Array Value} (hw : Tb a0 Z) : (Jvm.Cond.static ({ cls := "java/lang/StringLatin1", name := "charAt", desc := "([BI)C" } : Jvm.MethodName)).before a0 Z = true := hw _ (List.mem_of_getElem? (i := 296) rfl)
theorem pd___BI_C_1319 : parseMethodDescriptor "([BI)C" = some ⟨[(.array .byte), .int], some .char⟩ := by decide +kernel
theorem d_jdk_42_method_56_code_15 : decode jdk_42_method_56_code 15 = .ok (.ireturn, 1) := by decide +kernel
set_option maxRecDepth 65536 in
set_option maxHeartbeats 40000000 in
theorem c_charAtB (l : Launch) (Z : State) (a0 : Array Value) (hw : Tb a0 Z) (hEW : EW Z a0 EL0) (n0 : Nat) (a t : Addr) (kt : ClassId) (xs : List Int32) (ff : Value) (cs0 : Int32) (i : Int32) (j : Nat) (h0 : Heap) (O : Old Z n0 h0) (SF : Sta Z Z.heap "jdk/internal/util/Preconditions" "SIOOBE_FORMATTER" "Ljava/util/function/BiFunction;" ff) (hff : ff.isRef = true) (S : Str Z h0 a t kt 0 (Int32.ofNat xs.length) (xs.map Value.int)) (hl7 : xs.length ≤ 70) (hax : ∀ x ∈ xs, 0 ≤ x.toInt ∧ x.toInt < 128) (hj : i.toInt = j) (hjl : j < xs.length) (SC : Sta Z Z.heap "java/lang/String" "COMPACT_STRINGS" "Z" (.int cs0)) (hcs : ¬ cs0 = 0) :
    Ct l Z EL0 n0 (⟨"java/lang/String", "charAt", "(I)C"⟩ : MethodName) jdk_42_method_56_code 2 (some .char) ({ frames := 3, cells := 0, slots := 0, locals := 40 } : Room) #[(.ref a), (.int i)] h0 [] (Pu (some (.int xs[j])) h0) := by
  refine Ct.of (a0 := a0) #[.val (.ref a), .val (.int i)] hEW O (plainFor_of_name pl_java_lang_String) (fun m => by first | (simp [entryFrame, mkF, argsToLocals, Value.category]; done) | rfl) ?_
  intro p_ e_ s_ m_ below_ meth_ c_ b_ T_ K hSP hsh
  have hcj := hax xs[j] (List.getElem_mem hjl)
  have hin := own_in hj (own_of (n := xs.length) (by omega)) hjl
  have ech := own_and255 hcj
  refine k_aloadN K d_jdk_42_method_56_code_0 (pc' := 1) rfl rfl rfl ?_
  refine k_virtualP K [] [] 0 (w290 hw) (w291 hw) (w292 hw) (w293 hw) (w98 hw) (w294 hw) (notFace_of_selects (args := #[]) (mvT K.hZ (w293 hw))) rfl (by decide) S.1 (by decide) pd___Z_392 (c_isLatin1 l Z a0 hw hEW n0 a t kt 0 _ _ cs0 h0 K.old S (Or.inl rfl) SC hcs) d_jdk_42_method_56_code_1 nofun (pc' := 4) rfl rfl rfl rfl (Nat.le_of_eq rfl) (by decide) (by decide) (by decide) (by decide) ?_
  intro b130 T130 L130 K130 tr130
  show Goes p_.tables e_ below_ _ (T130.setTop (mkF m_ 4 #[.val (.ref a), .val (.int i)] [(.int (if (0 : Int32) = 0 then 1 else 0))]))
  rw [if_pos rfl]
  refine k_if_eq K130 d_jdk_42_method_56_code_4 (by decide) (pc' := 16) (pc2 := 7) (by decide) rfl (fun q => absurd q (by decide)) (fun hc4 => ?_)
  refine k_aloadN K130 d_jdk_42_method_56_code_7 (pc' := 8) rfl rfl rfl ?_
  refine k_getF K130 (w125 hw) Via.refl S.2.2.1 d_jdk_42_method_56_code_8 (pc' := 11) rfl ?_
  intro T131 K131
  refine k_iloadN K131 d_jdk_42_method_56_code_11 (pc' := 12) rfl rfl ?_
  refine k_staticP K131 [(.ref t), (.int i)] [] 0 (w295 hw) (w296 hw) (w297 hw) (w298 hw) (by decide) pd___BI_C_1319 (c_l1charAt l Z a0 hw hEW n0 t kt _ i xs[j] _ ff h0 K131.old SF hff S.2.2.2 hin.1 hin.2 (by rw [own_clamp hj]; simp [List.getD_eq_getElem?_getD, hjl])) d_jdk_42_method_56_code_12 nofun (pc' := 15) rfl rfl rfl rfl (Nat.le_of_eq rfl) (by decide) (by decide) (by decide) (by decide) ?_
  intro b132 T132 L132 K132 tr132
  show Goes p_.tables e_ below_ _ (T132.setTop (mkF m_ 15 #[.val (.ref a), .val (.int i)] [(.int (xs[j] &&& 255).toUInt32.toUInt16.toUInt32.toInt32)]))
  rw [ech]
  exact k_nret K132 d_jdk_42_method_56_code_15 rfl (by simp) (own_narrowc hcj.1 (by omega)) (fun sf ht => ⟨rfl, rfl⟩) (by decide) (by decide)
theorem d_method_8_code_0 : decode method_8_code 0 = .ok (.iload_n 3, 1) := by decide +kernel
theorem d_method_8_code_1 : decode method_8_code 1 = .ok (.aload_n 2, 1) := by decide +kernel
theorem d_method_8_code_2 : decode method_8_code 2 = .ok (.invokevirtual 32, 3) := by decide +kernel
theorem w248 {Z : State} {a0 : Array Value} (hw : Tb a0 Z) : (Jvm.Cond.methodLink "com/example/warm_tariff/warmtariff/UndecodableGetMessagePinLaw" (32 : Nat) ({ cls := "java/lang/String", name := "length", desc := "()I" } : Jvm.MethodName)).before a0 Z = true := hw _ (List.mem_of_getElem? (i := 248) rfl)
theorem d_method_8_code_5 : decode method_8_code 5 = .ok (.if_icmp .ge 18, 3) := by decide +kernel
theorem d_method_8_code_23 : decode method_8_code 23 = .ok (.iconst 1, 1) := by decide +kernel
theorem d_method_8_code_24 : decode method_8_code 24 = .ok (.goto 4, 3) := by decide +kernel
theorem d_method_8_code_28 : decode method_8_code 28 = .ok (.ireturn, 1) := by decide +kernel
theorem d_method_8_code_8 : decode method_8_code 8 = .ok (.aload_n 0, 1) := by decide +kernel
theorem d_method_8_code_9 : decode method_8_code 9 = .ok (.iload_n 1, 1) := by decide +kernel
theorem d_method_8_code_10 : decode method_8_code 10 = .ok (.iload_n 3, 1) := by decide +kernel
theorem d_method_8_code_11 : decode method_8_code 11 = .ok (.iadd, 1) := by decide +kernel
theorem d_method_8_code_12 : decode method_8_code 12 = .ok (.invokevirtual 50, 3) := by decide +kernel
theorem w285 {Z : State} {a0 : Array Value} (hw : Tb a0 Z) : (Jvm.Cond.methodLink "com/example/warm_tariff/warmtariff/UndecodableGetMessagePinLaw" (50 : Nat) ({ cls := "java/lang/String", name := "charAt", desc := "(I)C" } : Jvm.MethodName)).before a0 Z = true := hw _ (List.mem_of_getElem? (i := 285) rfl)
theorem w289 {Z : State} {a0 : Array Value} (hw : Tb a0 Z) : (Jvm.Cond.code ({ cls := "java/lang/String", name := "charAt", desc := "(I)C" } : Jvm.MethodName) jdk_42_method_56_code (2 : Nat) (Option.some Jvm.ClassFile.FieldType.char)).before a0 Z = true := hw _ (List.mem_of_getElem? (i := 289) rfl)
theorem w288 {Z : State} {a0 : Array Value} (hw : Tb a0 Z) : (Jvm.Cond.selects "java/lang/String" ({ cls := "java/lang/String", name := "charAt", desc := "(I)C" } : Jvm.MethodName) ({ cls := "java/lang/String", name := "charAt", desc := "(I)C" } : Jvm.MethodName)).before a0 Z = true := hw _ (List.mem_of_getElem? (i := 288) rfl)
theorem w286 {Z : State} {a0 : Array Value} (hw : Tb a0 Z) : (Jvm.Cond.declares ({ cls := "java/lang/String", name := "charAt", desc := "(I)C" } : Jvm.MethodName)).before a0 Z = true := hw _ (List.mem_of_getElem? (i := 286) rfl)
theorem w287 {Z : State} {a0 : Array Value} (hw : Tb a0 Z) : (Jvm.Cond.instanceMethod ({ cls := "java/lang/String", name := "charAt", desc := "(I)C" } : Jvm.MethodName)).before a0 Z = true := hw _ (List.mem_of_getElem? (i := 287) rfl)
theorem pd__I_C_577 : parseMethodDescriptor "(I)C" = some ⟨[.int], some .char⟩ := by decide +kernel
theorem d_method_8_code_15 : decode method_8_code 15 = .ok (.aload_n 2, 1) := by decide +kernel
theorem d_method_8_code_16 : decode method_8_code 16 = .ok (.iload_n 3, 1) := by decide +kernel
theorem d_method_8_code_17 : decode method_8_code 17 = .ok (.invokevirtual 50, 3) := by decide +kernel
theorem d_method_8_code_20 : decode method_8_code 20 = .ok (.if_icmp .ne 7, 3) := by decide +kernel
theorem pl_com_example_warm_tariff_warmtariff_UndecodableGetMessagePinLaw : plainName "com/example/warm_tariff/warmtariff/UndecodableGetMessagePinLaw" = true := by first | (simp [plainName, overriddenIn]; done) | decide +kernel
set_option maxRecDepth 65536 in
set_option maxHeartbeats 40000000 in
theorem c_at (l : Launch) (Z : State) (a0 : Array Value) (hw : Tb a0 Z) (hEW : EW Z a0 EL0) (n0 : Nat) (a t : Addr) (kt : ClassId) (xs : List Int32) (ff : Value) (cs0 : Int32) (q u : Addr) (ku : ClassId) (ys : List Int32) (off : Int32) (on : Nat) (jI : Int32) (jn : Nat) (h0 : Heap) (O : Old Z n0 h0) (SF : Sta Z Z.heap "jdk/internal/util/Preconditions" "SIOOBE_FORMATTER" "Ljava/util/function/BiFunction;" ff) (hff : ff.isRef = true) (S : Str Z h0 a t kt 0 (Int32.ofNat xs.length) (xs.map Value.int)) (hl7 : xs.length ≤ 70) (hax : ∀ x ∈ xs, 0 ≤ x.toInt ∧ x.toInt < 128) (S2 : Str Z h0 q u ku 0 (Int32.ofNat ys.length) (ys.map Value.int)) (hy11 : ys.length ≤ 11) (hay : ∀ x ∈ ys, 0 ≤ x.toInt ∧ x.toInt < 128) (hoff : off.toInt = on) (hfit : on + ys.length ≤ xs.length) (heq : ∀ j, j < ys.length → xs.getD (on + j) 0 = ys.getD j 0) (hj : jI.toInt = jn) (SC : Sta Z Z.heap "java/lang/String" "COMPACT_STRINGS" "Z" (.int cs0)) (hcs : ¬ cs0 = 0) :
    Ct l Z EL0 n0 (⟨"com/example/warm_tariff/warmtariff/UndecodableGetMessagePinLaw", "at", "(Ljava/lang/String;ILjava/lang/String;I)Z"⟩ : MethodName) method_8_code 4 (some .boolean) ({ frames := 4, cells := 0, slots := 0, locals := 54 } : Room) #[(.ref a), (.int off), (.ref q), (.int jI)] h0 [] (Pu (some (.int 1)) h0) := by
  refine Ct.of (a0 := a0) #[.val (.ref a), .val (.int off), .val (.ref q), .val (.int jI)] hEW O (plainFor_of_name pl_com_example_warm_tariff_warmtariff_UndecodableGetMessagePinLaw) (fun m => by first | (simp [entryFrame, mkF, argsToLocals, Value.category]; done) | rfl) ?_
  intro p_ e_ s_ m_ below_ meth_ c_ b_ T_ K hSP hsh
  refine k_iloadN K d_method_8_code_0 (pc' := 1) rfl rfl ?_
  refine k_aloadN K d_method_8_code_1 (pc' := 2) rfl rfl rfl ?_
  refine k_virtualP K [] [(.int jI)] 1 (w248 hw) (w121 hw) (w122 hw) (w123 hw) (w98 hw) (w124 hw) (notFace_of_selects (args := #[]) (mvT K.hZ (w123 hw))) rfl (by decide) S2.1 (by decide) pd___I_341 (c_length l Z a0 hw hEW n0 q u ku 0 _ _ cs0 h0 K.old S2 (Or.inl rfl) SC hcs) d_method_8_code_2 nofun (pc' := 5) rfl rfl rfl rfl (Nat.le_of_eq rfl) (by decide) (by decide) (by decide) (by decide) ?_
  intro b133 T133 L133 K133 tr133
  show Goes p_.tables e_ below_ _ (T133.setTop (mkF m_ 5 #[.val (.ref a), .val (.int off), .val (.ref q), .val (.int jI)] [(.int ((Int32.ofNat ys.length) >>> ((0 : Int32) &&& 31))), (.int jI)]))
  rw [own_shr0]
  refine k_icmp_ge K133 d_method_8_code_5 (by decide) (pc' := 23) (pc2 := 8) (by decide) rfl (fun hc5 => ?_) (fun hc5 => ?_)
  · refine k_iconst K133 (1 : Int32) d_method_8_code_23 (pc' := 24) rfl rfl ?_
    refine k_goto K133 d_method_8_code_24 (by decide) (pc' := 28) (by decide) ?_
    exact k_nret K133 d_method_8_code_28 rfl (by simp) rfl (fun sf ht => ⟨rfl, rfl⟩) (by decide) (by decide)
  · have hlt : jn < ys.length := by rw [own_i32, hj, own_of (by omega)] at hc5; omega
    have h1 : on + jn < xs.length := by omega
    have hix := own_sum2 hoff hj (by omega)
    refine k_aloadN K133 d_method_8_code_8 (pc' := 9) rfl rfl rfl ?_
    refine k_iloadN K133 d_method_8_code_9 (pc' := 10) rfl rfl ?_
    refine k_iloadN K133 d_method_8_code_10 (pc' := 11) rfl rfl ?_
    refine k_iadd K133 d_method_8_code_11 (pc' := 12) rfl ?_
    refine k_virtualP K133 [(.int (off + jI))] [] 0 (w285 hw) (w286 hw) (w287 hw) (w288 hw) (w98 hw) (w289 hw) (notFace_of_selects (args := #[]) (mvT K133.hZ (w288 hw))) rfl (by decide) S.1 (by decide) pd__I_C_577 (c_charAtB l Z a0 hw hEW n0 a t kt xs ff cs0 (off + jI) (on + jn) h0 K133.old SF hff S hl7 hax hix h1 SC hcs) d_method_8_code_12 nofun (pc' := 15) rfl rfl rfl rfl (Nat.le_of_eq rfl) (by decide) (by decide) (by decide) (by decide) ?_
    intro b134 T134 L134 K134 tr134
    show Goes p_.tables e_ below_ _ (T134.setTop (mkF m_ 15 #[.val (.ref a), .val (.int off), .val (.ref q), .val (.int jI)] [(.int (xs[on + jn]'h1))]))
    refine k_aloadN K134 d_method_8_code_15 (pc' := 16) rfl rfl rfl ?_
    refine k_iloadN K134 d_method_8_code_16 (pc' := 17) rfl rfl ?_
    refine k_virtualP K134 [(.int jI)] [(.int (xs[on + jn]'h1))] 1 (w285 hw) (w286 hw) (w287 hw) (w288 hw) (w98 hw) (w289 hw) (notFace_of_selects (args := #[]) (mvT K134.hZ (w288 hw))) rfl (by decide) S2.1 (by decide) pd__I_C_577 (c_charAtB l Z a0 hw hEW n0 q u ku ys ff cs0 jI jn h0 K134.old SF hff S2 (by omega) hay hj hlt SC hcs) d_method_8_code_17 nofun (pc' := 20) rfl rfl rfl rfl (Nat.le_of_eq rfl) (by decide) (by decide) (by decide) (by decide) ?_
    intro b135 T135 L135 K135 tr135
    show Goes p_.tables e_ below_ _ (T135.setTop (mkF m_ 20 #[.val (.ref a), .val (.int off), .val (.ref q), .val (.int jI)] [(.int (ys[jn]'hlt)), (.int (xs[on + jn]'h1))]))
    refine k_icmp_ne K135 d_method_8_code_20 (by decide) (pc' := 27) (pc2 := 23) (by decide) rfl (fun q => absurd (by rw [own_get h1 (heq jn hlt), own_get hlt rfl]) q) (fun hc20 => ?_)
    refine k_iconst K135 (1 : Int32) d_method_8_code_23 (pc' := 24) rfl rfl ?_
    refine k_goto K135 d_method_8_code_24 (by decide) (pc' := 28) (by decide) ?_
    exact k_nret K135 d_method_8_code_28 rfl (by simp) rfl (fun sf ht => ⟨rfl, rfl⟩) (by decide) (by decide)
theorem d_method_9_code_0 : decode method_9_code 0 = .ok (.aload_n 0, 1) := by decide +kernel
theorem d_method_9_code_1 : decode method_9_code 1 = .ok (.iload_n 1, 1) := by decide +kernel
theorem d_method_9_code_2 : decode method_9_code 2 = .ok (.aload_n 2, 1) := by decide +kernel
theorem d_method_9_code_3 : decode method_9_code 3 = .ok (.iconst 0, 1) := by decide +kernel
theorem d_method_9_code_4 : decode method_9_code 4 = .ok (.invokestatic 116, 3) := by decide +kernel
theorem w282 {Z : State} {a0 : Array Value} (hw : Tb a0 Z) : (Jvm.Cond.methodLink "com/example/warm_tariff/warmtariff/UndecodableGetMessagePinLaw" (116 : Nat) ({ cls := "com/example/warm_tariff/warmtariff/UndecodableGetMessagePinLaw", name := "at", desc := "(Ljava/lang/String;ILjava/lang/String;I)Z" } : Jvm.MethodName)).before a0 Z = true := hw _ (List.mem_of_getElem? (i := 282) rfl)
theorem w251 {Z : State} {a0 : Array Value} (hw : Tb a0 Z) : (Jvm.Cond.initialized "com/example/warm_tariff/warmtariff/UndecodableGetMessagePinLaw").before a0 Z = true := hw _ (List.mem_of_getElem? (i := 251) rfl)
theorem w284 {Z : State} {a0 : Array Value} (hw : Tb a0 Z) : (Jvm.Cond.code ({ cls := "com/example/warm_tariff/warmtariff/UndecodableGetMessagePinLaw", name := "at", desc := "(Ljava/lang/String;ILjava/lang/String;I)Z" } : Jvm.MethodName) method_8_code (4 : Nat) (Option.some Jvm.ClassFile.FieldType.boolean)).before a0 Z = true := hw _ (List.mem_of_getElem? (i := 284) rfl)
theorem w283 {Z : State} {a0 : Array Value} (hw : Tb a0 Z) : (Jvm.Cond.static ({ cls := "com/example/warm_tariff/warmtariff/UndecodableGetMessagePinLaw", name := "at", desc := "(Ljava/lang/String;ILjava/lang/String;I)Z" } : Jvm.MethodName)).before a0 Z = true := hw _ (List.mem_of_getElem? (i := 283) rfl)
theorem pd__Ljava_lang_String_ILjava_lang_String_I_Z_7752 : parseMethodDescriptor "(Ljava/lang/String;ILjava/lang/String;I)Z" = some ⟨[(.object "java/lang/String"), .int, (.object "java/lang/String"), .int], some .boolean⟩ := by decide +kernel
theorem d_method_9_code_7 : decode method_9_code 7 = .ok (.ifCond .eq 112, 3) := by decide +kernel
theorem d_method_9_code_10 : decode method_9_code 10 = .ok (.aload_n 0, 1) := by decide +kernel
theorem d_method_9_code_11 : decode method_9_code 11 = .ok (.iload_n 1, 1) := by decide +kernel
theorem d_method_9_code_12 : decode method_9_code 12 = .ok (.aload_n 2, 1) := by decide +kernel
theorem d_method_9_code_13 : decode method_9_code 13 = .ok (.iconst 1, 1) := by decide +kernel
theorem d_method_9_code_14 : decode method_9_code 14 = .ok (.invokestatic 116, 3) := by decide +kernel
theorem d_method_9_code_17 : decode method_9_code 17 = .ok (.ifCond .eq 102, 3) := by decide +kernel
theorem d_method_9_code_20 : decode method_9_code 20 = .ok (.aload_n 0, 1) := by decide +kernel
theorem d_method_9_code_21 : decode method_9_code 21 = .ok (.iload_n 1, 1) := by decide +kernel
theorem d_method_9_code_22 : decode method_9_code 22 = .ok (.aload_n 2, 1) := by decide +kernel
theorem d_method_9_code_23 : decode method_9_code 23 = .ok (.iconst 2, 1) := by decide +kernel
theorem d_method_9_code_24 : decode method_9_code 24 = .ok (.invokestatic 116, 3) := by decide +kernel
theorem d_method_9_code_27 : decode method_9_code 27 = .ok (.ifCond .eq 92, 3) := by decide +kernel
theorem d_method_9_code_30 : decode method_9_code 30 = .ok (.aload_n 0, 1) := by decide +kernel
theorem d_method_9_code_31 : decode method_9_code 31 = .ok (.iload_n 1, 1) := by decide +kernel
theorem d_method_9_code_32 : decode method_9_code 32 = .ok (.aload_n 2, 1) := by decide +kernel
theorem d_method_9_code_33 : decode method_9_code 33 = .ok (.iconst 3, 1) := by decide +kernel
theorem d_method_9_code_34 : decode method_9_code 34 = .ok (.invokestatic 116, 3) := by decide +kernel
theorem d_method_9_code_37 : decode method_9_code 37 = .ok (.ifCond .eq 82, 3) := by decide +kernel
theorem d_method_9_code_40 : decode method_9_code 40 = .ok (.aload_n 0, 1) := by decide +kernel
theorem d_method_9_code_41 : decode method_9_code 41 = .ok (.iload_n 1, 1) := by decide +kernel
theorem d_method_9_code_42 : decode method_9_code 42 = .ok (.aload_n 2, 1) := by decide +kernel
theorem d_method_9_code_43 : decode method_9_code 43 = .ok (.iconst 4, 1) := by decide +kernel
theorem d_method_9_code_44 : decode method_9_code 44 = .ok (.invokestatic 116, 3) := by decide +kernel
theorem d_method_9_code_47 : decode method_9_code 47 = .ok (.ifCond .eq 72, 3) := by decide +kernel
theorem d_method_9_code_50 : decode method_9_code 50 = .ok (.aload_n 0, 1) := by decide +kernel
theorem d_method_9_code_51 : decode method_9_code 51 = .ok (.iload_n 1, 1) := by decide +kernel
theorem d_method_9_code_52 : decode method_9_code 52 = .ok (.aload_n 2, 1) := by decide +kernel
theorem d_method_9_code_53 : decode method_9_code 53 = .ok (.iconst 5, 1) := by decide +kernel
theorem d_method_9_code_54 : decode method_9_code 54 = .ok (.invokestatic 116, 3) := by decide +kernel
theorem d_method_9_code_57 : decode method_9_code 57 = .ok (.ifCond .eq 62, 3) := by decide +kernel
theorem d_method_9_code_60 : decode method_9_code 60 = .ok (.aload_n 0, 1) := by decide +kernel
theorem d_method_9_code_61 : decode method_9_code 61 = .ok (.iload_n 1, 1) := by decide +kernel
theorem d_method_9_code_62 : decode method_9_code 62 = .ok (.aload_n 2, 1) := by decide +kernel
theorem d_method_9_code_63 : decode method_9_code 63 = .ok (.bipush 6, 2) := by decide +kernel
theorem d_method_9_code_65 : decode method_9_code 65 = .ok (.invokestatic 116, 3) := by decide +kernel
theorem d_method_9_code_68 : decode method_9_code 68 = .ok (.ifCond .eq 51, 3) := by decide +kernel
theorem d_method_9_code_71 : decode method_9_code 71 = .ok (.aload_n 0, 1) := by decide +kernel
theorem d_method_9_code_72 : decode method_9_code 72 = .ok (.iload_n 1, 1) := by decide +kernel
theorem d_method_9_code_73 : decode method_9_code 73 = .ok (.aload_n 2, 1) := by decide +kernel
theorem d_method_9_code_74 : decode method_9_code 74 = .ok (.bipush 7, 2) := by decide +kernel
theorem d_method_9_code_76 : decode method_9_code 76 = .ok (.invokestatic 116, 3) := by decide +kernel
theorem d_method_9_code_79 : decode method_9_code 79 = .ok (.ifCond .eq 40, 3) := by decide +kernel
theorem d_method_9_code_82 : decode method_9_code 82 = .ok (.aload_n 0, 1) := by decide +kernel
theorem d_method_9_code_83 : decode method_9_code 83 = .ok (.iload_n 1, 1) := by decide +kernel
theorem d_method_9_code_84 : decode method_9_code 84 = .ok (.aload_n 2, 1) := by decide +kernel
theorem d_method_9_code_85 : decode method_9_code 85 = .ok (.bipush 8, 2) := by decide +kernel
theorem d_method_9_code_87 : decode method_9_code 87 = .ok (.invokestatic 116, 3) := by decide +kernel
theorem d_method_9_code_90 : decode method_9_code 90 = .ok (.ifCond .eq 29, 3) := by decide +kernel
theorem d_method_9_code_93 : decode method_9_code 93 = .ok (.aload_n 0, 1) := by decide +kernel
theorem d_method_9_code_94 : decode method_9_code 94 = .ok (.iload_n 1, 1) := by decide +kernel
theorem d_method_9_code_95 : decode method_9_code 95 = .ok (.aload_n 2, 1) := by decide +kernel
theorem d_method_9_code_96 : decode method_9_code 96 = .ok (.bipush 9, 2) := by decide +kernel
theorem d_method_9_code_98 : decode method_9_code 98 = .ok (.invokestatic 116, 3) := by decide +kernel
theorem d_method_9_code_101 : decode method_9_code 101 = .ok (.ifCond .eq 18, 3) := by decide +kernel
theorem d_method_9_code_104 : decode method_9_code 104 = .ok (.aload_n 0, 1) := by decide +kernel
theorem d_method_9_code_105 : decode method_9_code 105 = .ok (.iload_n 1, 1) := by decide +kernel
theorem d_method_9_code_106 : decode method_9_code 106 = .ok (.aload_n 2, 1) := by decide +kernel
theorem d_method_9_code_107 : decode method_9_code 107 = .ok (.bipush 10, 2) := by decide +kernel
theorem d_method_9_code_109 : decode method_9_code 109 = .ok (.invokestatic 116, 3) := by decide +kernel
theorem d_method_9_code_112 : decode method_9_code 112 = .ok (.ifCond .eq 7, 3) := by decide +kernel
theorem d_method_9_code_115 : decode method_9_code 115 = .ok (.iconst 1, 1) := by decide +kernel
theorem d_method_9_code_116 : decode method_9_code 116 = .ok (.goto 4, 3) := by decide +kernel
theorem d_method_9_code_120 : decode method_9_code 120 = .ok (.ireturn, 1) := by decide +kernel
set_option maxRecDepth 65536 in
set_option maxHeartbeats 40000000 in
theorem c_region (l : Launch) (Z : State) (a0 : Array Value) (hw : Tb a0 Z) (hEW : EW Z a0 EL0) (n0 : Nat) (a t : Addr) (kt : ClassId) (xs : List Int32) (ff : Value) (cs0 : Int32) (q u : Addr) (ku : ClassId) (ys : List Int32) (off : Int32) (on : Nat) (h0 : Heap) (O : Old Z n0 h0) (SF : Sta Z Z.heap "jdk/internal/util/Preconditions" "SIOOBE_FORMATTER" "Ljava/util/function/BiFunction;" ff) (hff : ff.isRef = true) (S : Str Z h0 a t kt 0 (Int32.ofNat xs.length) (xs.map Value.int)) (hl7 : xs.length ≤ 70) (hax : ∀ x ∈ xs, 0 ≤ x.toInt ∧ x.toInt < 128) (S2 : Str Z h0 q u ku 0 (Int32.ofNat ys.length) (ys.map Value.int)) (hy11 : ys.length ≤ 11) (hay : ∀ x ∈ ys, 0 ≤ x.toInt ∧ x.toInt < 128) (hoff : off.toInt = on) (hfit : on + ys.length ≤ xs.length) (heq : ∀ j, j < ys.length → xs.getD (on + j) 0 = ys.getD j 0) (SC : Sta Z Z.heap "java/lang/String" "COMPACT_STRINGS" "Z" (.int cs0)) (hcs : ¬ cs0 = 0) :
    Ct l Z EL0 n0 (⟨"com/example/warm_tariff/warmtariff/UndecodableGetMessagePinLaw", "region", "(Ljava/lang/String;ILjava/lang/String;)Z"⟩ : MethodName) method_9_code 3 (some .boolean) ({ frames := 5, cells := 0, slots := 0, locals := 69 } : Room) #[(.ref a), (.int off), (.ref q)] h0 [] (Pu (some (.int 1)) h0) := by
  refine Ct.of (a0 := a0) #[.val (.ref a), .val (.int off), .val (.ref q)] hEW O (plainFor_of_name pl_com_example_warm_tariff_warmtariff_UndecodableGetMessagePinLaw) (fun m => by first | (simp [entryFrame, mkF, argsToLocals, Value.category]; done) | rfl) ?_
  intro p_ e_ s_ m_ below_ meth_ c_ b_ T_ K hSP hsh
  refine k_aloadN K d_method_9_code_0 (pc' := 1) rfl rfl rfl ?_
  refine k_iloadN K d_method_9_code_1 (pc' := 2) rfl rfl ?_
  refine k_aloadN K d_method_9_code_2 (pc' := 3) rfl rfl rfl ?_
  refine k_iconst K (0 : Int32) d_method_9_code_3 (pc' := 4) rfl rfl ?_
  refine k_staticP K [(.ref a), (.int off), (.ref q), (.int (0 : Int32))] [] 0 (w282 hw) (w283 hw) (w251 hw) (w284 hw) (by decide) pd__Ljava_lang_String_ILjava_lang_String_I_Z_7752 (c_at l Z a0 hw hEW n0 a t kt xs ff cs0 q u ku ys off on 0 0 h0 K.old SF hff S hl7 hax S2 hy11 hay hoff hfit heq rfl SC hcs) d_method_9_code_4 nofun (pc' := 7) rfl rfl rfl rfl (Nat.le_of_eq rfl) (by decide) (by decide) (by decide) (by decide) ?_
  intro b136 T136 L136 K136 tr136
  show Goes p_.tables e_ below_ _ (T136.setTop (mkF m_ 7 #[.val (.ref a), .val (.int off), .val (.ref q)] [(.int (1 : Int32))]))
  refine k_if_eq K136 d_method_9_code_7 (by decide) (pc' := 119) (pc2 := 10) (by decide) rfl (fun q => absurd q (by decide)) (fun hc7 => ?_)
  refine k_aloadN K136 d_method_9_code_10 (pc' := 11) rfl rfl rfl ?_
  refine k_iloadN K136 d_method_9_code_11 (pc' := 12) rfl rfl ?_
  refine k_aloadN K136 d_method_9_code_12 (pc' := 13) rfl rfl rfl ?_
  refine k_iconst K136 (1 : Int32) d_method_9_code_13 (pc' := 14) rfl rfl ?_
  refine k_staticP K136 [(.ref a), (.int off), (.ref q), (.int (1 : Int32))] [] 0 (w282 hw) (w283 hw) (w251 hw) (w284 hw) (by decide) pd__Ljava_lang_String_ILjava_lang_String_I_Z_7752 (c_at l Z a0 hw hEW n0 a t kt xs ff cs0 q u ku ys off on 1 1 h0 K136.old SF hff S hl7 hax S2 hy11 hay hoff hfit heq rfl SC hcs) d_method_9_code_14 nofun (pc' := 17) rfl rfl rfl rfl (Nat.le_of_eq rfl) (by decide) (by decide) (by decide) (by decide) ?_
  intro b137 T137 L137 K137 tr137
  show Goes p_.tables e_ below_ _ (T137.setTop (mkF m_ 17 #[.val (.ref a), .val (.int off), .val (.ref q)] [(.int (1 : Int32))]))
  refine k_if_eq K137 d_method_9_code_17 (by decide) (pc' := 119) (pc2 := 20) (by decide) rfl (fun q => absurd q (by decide)) (fun hc17 => ?_)
  refine k_aloadN K137 d_method_9_code_20 (pc' := 21) rfl rfl rfl ?_
  refine k_iloadN K137 d_method_9_code_21 (pc' := 22) rfl rfl ?_
  refine k_aloadN K137 d_method_9_code_22 (pc' := 23) rfl rfl rfl ?_
  refine k_iconst K137 (2 : Int32) d_method_9_code_23 (pc' := 24) rfl rfl ?_
  refine k_staticP K137 [(.ref a), (.int off), (.ref q), (.int (2 : Int32))] [] 0 (w282 hw) (w283 hw) (w251 hw) (w284 hw) (by decide) pd__Ljava_lang_String_ILjava_lang_String_I_Z_7752 (c_at l Z a0 hw hEW n0 a t kt xs ff cs0 q u ku ys off on 2 2 h0 K137.old SF hff S hl7 hax S2 hy11 hay hoff hfit heq rfl SC hcs) d_method_9_code_24 nofun (pc' := 27) rfl rfl rfl rfl (Nat.le_of_eq rfl) (by decide) (by decide) (by decide) (by decide) ?_
  intro b138 T138 L138 K138 tr138
  show Goes p_.tables e_ below_ _ (T138.setTop (mkF m_ 27 #[.val (.ref a), .val (.int off), .val (.ref q)] [(.int (1 : Int32))]))
  refine k_if_eq K138 d_method_9_code_27 (by decide) (pc' := 119) (pc2 := 30) (by decide) rfl (fun q => absurd q (by decide)) (fun hc27 => ?_)
  refine k_aloadN K138 d_method_9_code_30 (pc' := 31) rfl rfl rfl ?_
  refine k_iloadN K138 d_method_9_code_31 (pc' := 32) rfl rfl ?_
  refine k_aloadN K138 d_method_9_code_32 (pc' := 33) rfl rfl rfl ?_
  refine k_iconst K138 (3 : Int32) d_method_9_code_33 (pc' := 34) rfl rfl ?_
  refine k_staticP K138 [(.ref a), (.int off), (.ref q), (.int (3 : Int32))] [] 0 (w282 hw) (w283 hw) (w251 hw) (w284 hw) (by decide) pd__Ljava_lang_String_ILjava_lang_String_I_Z_7752 (c_at l Z a0 hw hEW n0 a t kt xs ff cs0 q u ku ys off on 3 3 h0 K138.old SF hff S hl7 hax S2 hy11 hay hoff hfit heq rfl SC hcs) d_method_9_code_34 nofun (pc' := 37) rfl rfl rfl rfl (Nat.le_of_eq rfl) (by decide) (by decide) (by decide) (by decide) ?_
  intro b139 T139 L139 K139 tr139
  show Goes p_.tables e_ below_ _ (T139.setTop (mkF m_ 37 #[.val (.ref a), .val (.int off), .val (.ref q)] [(.int (1 : Int32))]))
  refine k_if_eq K139 d_method_9_code_37 (by decide) (pc' := 119) (pc2 := 40) (by decide) rfl (fun q => absurd q (by decide)) (fun hc37 => ?_)
  refine k_aloadN K139 d_method_9_code_40 (pc' := 41) rfl rfl rfl ?_
  refine k_iloadN K139 d_method_9_code_41 (pc' := 42) rfl rfl ?_
  refine k_aloadN K139 d_method_9_code_42 (pc' := 43) rfl rfl rfl ?_
  refine k_iconst K139 (4 : Int32) d_method_9_code_43 (pc' := 44) rfl rfl ?_
  refine k_staticP K139 [(.ref a), (.int off), (.ref q), (.int (4 : Int32))] [] 0 (w282 hw) (w283 hw) (w251 hw) (w284 hw) (by decide) pd__Ljava_lang_String_ILjava_lang_String_I_Z_7752 (c_at l Z a0 hw hEW n0 a t kt xs ff cs0 q u ku ys off on 4 4 h0 K139.old SF hff S hl7 hax S2 hy11 hay hoff hfit heq rfl SC hcs) d_method_9_code_44 nofun (pc' := 47) rfl rfl rfl rfl (Nat.le_of_eq rfl) (by decide) (by decide) (by decide) (by decide) ?_
  intro b140 T140 L140 K140 tr140
  show Goes p_.tables e_ below_ _ (T140.setTop (mkF m_ 47 #[.val (.ref a), .val (.int off), .val (.ref q)] [(.int (1 : Int32))]))
  refine k_if_eq K140 d_method_9_code_47 (by decide) (pc' := 119) (pc2 := 50) (by decide) rfl (fun q => absurd q (by decide)) (fun hc47 => ?_)
  refine k_aloadN K140 d_method_9_code_50 (pc' := 51) rfl rfl rfl ?_
  refine k_iloadN K140 d_method_9_code_51 (pc' := 52) rfl rfl ?_
  refine k_aloadN K140 d_method_9_code_52 (pc' := 53) rfl rfl rfl ?_
  refine k_iconst K140 (5 : Int32) d_method_9_code_53 (pc' := 54) rfl rfl ?_
  refine k_staticP K140 [(.ref a), (.int off), (.ref q), (.int (5 : Int32))] [] 0 (w282 hw) (w283 hw) (w251 hw) (w284 hw) (by decide) pd__Ljava_lang_String_ILjava_lang_String_I_Z_7752 (c_at l Z a0 hw hEW n0 a t kt xs ff cs0 q u ku ys off on 5 5 h0 K140.old SF hff S hl7 hax S2 hy11 hay hoff hfit heq rfl SC hcs) d_method_9_code_54 nofun (pc' := 57) rfl rfl rfl rfl (Nat.le_of_eq rfl) (by decide) (by decide) (by decide) (by decide) ?_
  intro b141 T141 L141 K141 tr141
  show Goes p_.tables e_ below_ _ (T141.setTop (mkF m_ 57 #[.val (.ref a), .val (.int off), .val (.ref q)] [(.int (1 : Int32))]))
  refine k_if_eq K141 d_method_9_code_57 (by decide) (pc' := 119) (pc2 := 60) (by decide) rfl (fun q => absurd q (by decide)) (fun hc57 => ?_)
  refine k_aloadN K141 d_method_9_code_60 (pc' := 61) rfl rfl rfl ?_
  refine k_iloadN K141 d_method_9_code_61 (pc' := 62) rfl rfl ?_
  refine k_aloadN K141 d_method_9_code_62 (pc' := 63) rfl rfl rfl ?_
  refine k_bipush K141 (6 : Int32) d_method_9_code_63 (pc' := 65) rfl rfl ?_
  refine k_staticP K141 [(.ref a), (.int off), (.ref q), (.int (6 : Int32))] [] 0 (w282 hw) (w283 hw) (w251 hw) (w284 hw) (by decide) pd__Ljava_lang_String_ILjava_lang_String_I_Z_7752 (c_at l Z a0 hw hEW n0 a t kt xs ff cs0 q u ku ys off on 6 6 h0 K141.old SF hff S hl7 hax S2 hy11 hay hoff hfit heq rfl SC hcs) d_method_9_code_65 nofun (pc' := 68) rfl rfl rfl rfl (Nat.le_of_eq rfl) (by decide) (by decide) (by decide) (by decide) ?_
  intro b142 T142 L142 K142 tr142
  show Goes p_.tables e_ below_ _ (T142.setTop (mkF m_ 68 #[.val (.ref a), .val (.int off), .val (.ref q)] [(.int (1 : Int32))]))
  refine k_if_eq K142 d_method_9_code_68 (by decide) (pc' := 119) (pc2 := 71) (by decide) rfl (fun q => absurd q (by decide)) (fun hc68 => ?_)
  refine k_aloadN K142 d_method_9_code_71 (pc' := 72) rfl rfl rfl ?_
  refine k_iloadN K142 d_method_9_code_72 (pc' := 73) rfl rfl ?_
  refine k_aloadN K142 d_method_9_code_73 (pc' := 74) rfl rfl rfl ?_
  refine k_bipush K142 (7 : Int32) d_method_9_code_74 (pc' := 76) rfl rfl ?_
  refine k_staticP K142 [(.ref a), (.int off), (.ref q), (.int (7 : Int32))] [] 0 (w282 hw) (w283 hw) (w251 hw) (w284 hw) (by decide) pd__Ljava_lang_String_ILjava_lang_String_I_Z_7752 (c_at l Z a0 hw hEW n0 a t kt xs ff cs0 q u ku ys off on 7 7 h0 K142.old SF hff S hl7 hax S2 hy11 hay hoff hfit heq rfl SC hcs) d_method_9_code_76 nofun (pc' := 79) rfl rfl rfl rfl (Nat.le_of_eq rfl) (by decide) (by decide) (by decide) (by decide) ?_
  intro b143 T143 L143 K143 tr143
  show Goes p_.tables e_ below_ _ (T143.setTop (mkF m_ 79 #[.val (.ref a), .val (.int off), .val (.ref q)] [(.int (1 : Int32))]))
  refine k_if_eq K143 d_method_9_code_79 (by decide) (pc' := 119) (pc2 := 82) (by decide) rfl (fun q => absurd q (by decide)) (fun hc79 => ?_)
  refine k_aloadN K143 d_method_9_code_82 (pc' := 83) rfl rfl rfl ?_
  refine k_iloadN K143 d_method_9_code_83 (pc' := 84) rfl rfl ?_
  refine k_aloadN K143 d_method_9_code_84 (pc' := 85) rfl rfl rfl ?_
  refine k_bipush K143 (8 : Int32) d_method_9_code_85 (pc' := 87) rfl rfl ?_
  refine k_staticP K143 [(.ref a), (.int off), (.ref q), (.int (8 : Int32))] [] 0 (w282 hw) (w283 hw) (w251 hw) (w284 hw) (by decide) pd__Ljava_lang_String_ILjava_lang_String_I_Z_7752 (c_at l Z a0 hw hEW n0 a t kt xs ff cs0 q u ku ys off on 8 8 h0 K143.old SF hff S hl7 hax S2 hy11 hay hoff hfit heq rfl SC hcs) d_method_9_code_87 nofun (pc' := 90) rfl rfl rfl rfl (Nat.le_of_eq rfl) (by decide) (by decide) (by decide) (by decide) ?_
  intro b144 T144 L144 K144 tr144
  show Goes p_.tables e_ below_ _ (T144.setTop (mkF m_ 90 #[.val (.ref a), .val (.int off), .val (.ref q)] [(.int (1 : Int32))]))
  refine k_if_eq K144 d_method_9_code_90 (by decide) (pc' := 119) (pc2 := 93) (by decide) rfl (fun q => absurd q (by decide)) (fun hc90 => ?_)
  refine k_aloadN K144 d_method_9_code_93 (pc' := 94) rfl rfl rfl ?_
  refine k_iloadN K144 d_method_9_code_94 (pc' := 95) rfl rfl ?_
  refine k_aloadN K144 d_method_9_code_95 (pc' := 96) rfl rfl rfl ?_
  refine k_bipush K144 (9 : Int32) d_method_9_code_96 (pc' := 98) rfl rfl ?_
  refine k_staticP K144 [(.ref a), (.int off), (.ref q), (.int (9 : Int32))] [] 0 (w282 hw) (w283 hw) (w251 hw) (w284 hw) (by decide) pd__Ljava_lang_String_ILjava_lang_String_I_Z_7752 (c_at l Z a0 hw hEW n0 a t kt xs ff cs0 q u ku ys off on 9 9 h0 K144.old SF hff S hl7 hax S2 hy11 hay hoff hfit heq rfl SC hcs) d_method_9_code_98 nofun (pc' := 101) rfl rfl rfl rfl (Nat.le_of_eq rfl) (by decide) (by decide) (by decide) (by decide) ?_
  intro b145 T145 L145 K145 tr145
  show Goes p_.tables e_ below_ _ (T145.setTop (mkF m_ 101 #[.val (.ref a), .val (.int off), .val (.ref q)] [(.int (1 : Int32))]))
  refine k_if_eq K145 d_method_9_code_101 (by decide) (pc' := 119) (pc2 := 104) (by decide) rfl (fun q => absurd q (by decide)) (fun hc101 => ?_)
  refine k_aloadN K145 d_method_9_code_104 (pc' := 105) rfl rfl rfl ?_
  refine k_iloadN K145 d_method_9_code_105 (pc' := 106) rfl rfl ?_
  refine k_aloadN K145 d_method_9_code_106 (pc' := 107) rfl rfl rfl ?_
  refine k_bipush K145 (10 : Int32) d_method_9_code_107 (pc' := 109) rfl rfl ?_
  refine k_staticP K145 [(.ref a), (.int off), (.ref q), (.int (10 : Int32))] [] 0 (w282 hw) (w283 hw) (w251 hw) (w284 hw) (by decide) pd__Ljava_lang_String_ILjava_lang_String_I_Z_7752 (c_at l Z a0 hw hEW n0 a t kt xs ff cs0 q u ku ys off on 10 10 h0 K145.old SF hff S hl7 hax S2 hy11 hay hoff hfit heq rfl SC hcs) d_method_9_code_109 nofun (pc' := 112) rfl rfl rfl rfl (Nat.le_of_eq rfl) (by decide) (by decide) (by decide) (by decide) ?_
  intro b146 T146 L146 K146 tr146
  show Goes p_.tables e_ below_ _ (T146.setTop (mkF m_ 112 #[.val (.ref a), .val (.int off), .val (.ref q)] [(.int (1 : Int32))]))
  refine k_if_eq K146 d_method_9_code_112 (by decide) (pc' := 119) (pc2 := 115) (by decide) rfl (fun q => absurd q (by decide)) (fun hc112 => ?_)
  refine k_iconst K146 (1 : Int32) d_method_9_code_115 (pc' := 116) rfl rfl ?_
  refine k_goto K146 d_method_9_code_116 (by decide) (pc' := 120) (by decide) ?_
  exact k_nret K146 d_method_9_code_120 rfl (by simp) rfl (fun sf ht => ⟨rfl, rfl⟩) (by decide) (by decide)
theorem d_method_3_code_0 : decode method_3_code 0 = .ok (.bipush 19, 2) := by decide +kernel
theorem d_method_3_code_2 : decode method_3_code 2 = .ok (.newarray .long, 2) := by decide +kernel
theorem w256 {Z : State} {a0 : Array Value} (hw : Tb a0 Z) : (Jvm.Cond.arrayClass Jvm.ClassFile.FieldType.long).before a0 Z = true := hw _ (List.mem_of_getElem? (i := 256) rfl)
theorem d_method_3_code_4 : decode method_3_code 4 = .ok (.dup, 1) := by decide +kernel
theorem d_method_3_code_5 : decode method_3_code 5 = .ok (.iconst 0, 1) := by decide +kernel
theorem d_method_3_code_6 : decode method_3_code 6 = .ok (.lconst 1, 1) := by decide +kernel
theorem d_method_3_code_7 : decode method_3_code 7 = .ok (.lastore, 1) := by decide +kernel
theorem d_method_3_code_8 : decode method_3_code 8 = .ok (.dup, 1) := by decide +kernel
theorem d_method_3_code_9 : decode method_3_code 9 = .ok (.iconst 1, 1) := by decide +kernel
theorem d_method_3_code_10 : decode method_3_code 10 = .ok (.ldc2_w 62, 3) := by decide +kernel
theorem w257 {Z : State} {a0 : Array Value} (hw : Tb a0 Z) : (Jvm.Cond.constantLong "com/example/warm_tariff/warmtariff/UndecodableGetMessagePinLaw" (62 : Nat) (10 : Int64)).before a0 Z = true := hw _ (List.mem_of_getElem? (i := 257) rfl)
theorem d_method_3_code_13 : decode method_3_code 13 = .ok (.lastore, 1) := by decide +kernel
theorem d_method_3_code_14 : decode method_3_code 14 = .ok (.dup, 1) := by decide +kernel
theorem d_method_3_code_15 : decode method_3_code 15 = .ok (.iconst 2, 1) := by decide +kernel
theorem d_method_3_code_16 : decode method_3_code 16 = .ok (.ldc2_w 64, 3) := by decide +kernel
theorem w258 {Z : State} {a0 : Array Value} (hw : Tb a0 Z) : (Jvm.Cond.constantLong "com/example/warm_tariff/warmtariff/UndecodableGetMessagePinLaw" (64 : Nat) (100 : Int64)).before a0 Z = true := hw _ (List.mem_of_getElem? (i := 258) rfl)
theorem d_method_3_code_19 : decode method_3_code 19 = .ok (.lastore, 1) := by decide +kernel
theorem d_method_3_code_20 : decode method_3_code 20 = .ok (.dup, 1) := by decide +kernel
theorem d_method_3_code_21 : decode method_3_code 21 = .ok (.iconst 3, 1) := by decide +kernel
theorem d_method_3_code_22 : decode method_3_code 22 = .ok (.ldc2_w 66, 3) := by decide +kernel
theorem w259 {Z : State} {a0 : Array Value} (hw : Tb a0 Z) : (Jvm.Cond.constantLong "com/example/warm_tariff/warmtariff/UndecodableGetMessagePinLaw" (66 : Nat) (1000 : Int64)).before a0 Z = true := hw _ (List.mem_of_getElem? (i := 259) rfl)
theorem d_method_3_code_25 : decode method_3_code 25 = .ok (.lastore, 1) := by decide +kernel
theorem d_method_3_code_26 : decode method_3_code 26 = .ok (.dup, 1) := by decide +kernel
theorem d_method_3_code_27 : decode method_3_code 27 = .ok (.iconst 4, 1) := by decide +kernel
theorem d_method_3_code_28 : decode method_3_code 28 = .ok (.ldc2_w 68, 3) := by decide +kernel
theorem w260 {Z : State} {a0 : Array Value} (hw : Tb a0 Z) : (Jvm.Cond.constantLong "com/example/warm_tariff/warmtariff/UndecodableGetMessagePinLaw" (68 : Nat) (10000 : Int64)).before a0 Z = true := hw _ (List.mem_of_getElem? (i := 260) rfl)
theorem d_method_3_code_31 : decode method_3_code 31 = .ok (.lastore, 1) := by decide +kernel
theorem d_method_3_code_32 : decode method_3_code 32 = .ok (.dup, 1) := by decide +kernel
theorem d_method_3_code_33 : decode method_3_code 33 = .ok (.iconst 5, 1) := by decide +kernel
theorem d_method_3_code_34 : decode method_3_code 34 = .ok (.ldc2_w 70, 3) := by decide +kernel
theorem w261 {Z : State} {a0 : Array Value} (hw : Tb a0 Z) : (Jvm.Cond.constantLong "com/example/warm_tariff/warmtariff/UndecodableGetMessagePinLaw" (70 : Nat) (100000 : Int64)).before a0 Z = true := hw _ (List.mem_of_getElem? (i := 261) rfl)
theorem d_method_3_code_37 : decode method_3_code 37 = .ok (.lastore, 1) := by decide +kernel
theorem d_method_3_code_38 : decode method_3_code 38 = .ok (.dup, 1) := by decide +kernel
theorem d_method_3_code_39 : decode method_3_code 39 = .ok (.bipush 6, 2) := by decide +kernel
theorem d_method_3_code_41 : decode method_3_code 41 = .ok (.ldc2_w 72, 3) := by decide +kernel
theorem w262 {Z : State} {a0 : Array Value} (hw : Tb a0 Z) : (Jvm.Cond.constantLong "com/example/warm_tariff/warmtariff/UndecodableGetMessagePinLaw" (72 : Nat) (1000000 : Int64)).before a0 Z = true := hw _ (List.mem_of_getElem? (i := 262) rfl)
theorem d_method_3_code_44 : decode method_3_code 44 = .ok (.lastore, 1) := by decide +kernel
theorem d_method_3_code_45 : decode method_3_code 45 = .ok (.dup, 1) := by decide +kernel
theorem d_method_3_code_46 : decode method_3_code 46 = .ok (.bipush 7, 2) := by decide +kernel
theorem d_method_3_code_48 : decode method_3_code 48 = .ok (.ldc2_w 74, 3) := by decide +kernel
theorem w263 {Z : State} {a0 : Array Value} (hw : Tb a0 Z) : (Jvm.Cond.constantLong "com/example/warm_tariff/warmtariff/UndecodableGetMessagePinLaw" (74 : Nat) (10000000 : Int64)).before a0 Z = true := hw _ (List.mem_of_getElem? (i := 263) rfl)
theorem d_method_3_code_51 : decode method_3_code 51 = .ok (.lastore, 1) := by decide +kernel
theorem d_method_3_code_52 : decode method_3_code 52 = .ok (.dup, 1) := by decide +kernel
theorem d_method_3_code_53 : decode method_3_code 53 = .ok (.bipush 8, 2) := by decide +kernel
theorem d_method_3_code_55 : decode method_3_code 55 = .ok (.ldc2_w 76, 3) := by decide +kernel
theorem w264 {Z : State} {a0 : Array Value} (hw : Tb a0 Z) : (Jvm.Cond.constantLong "com/example/warm_tariff/warmtariff/UndecodableGetMessagePinLaw" (76 : Nat) (100000000 : Int64)).before a0 Z = true := hw _ (List.mem_of_getElem? (i := 264) rfl)
theorem d_method_3_code_58 : decode method_3_code 58 = .ok (.lastore, 1) := by decide +kernel
theorem d_method_3_code_59 : decode method_3_code 59 = .ok (.dup, 1) := by decide +kernel
theorem d_method_3_code_60 : decode method_3_code 60 = .ok (.bipush 9, 2) := by decide +kernel
theorem d_method_3_code_62 : decode method_3_code 62 = .ok (.ldc2_w 78, 3) := by decide +kernel
theorem w265 {Z : State} {a0 : Array Value} (hw : Tb a0 Z) : (Jvm.Cond.constantLong "com/example/warm_tariff/warmtariff/UndecodableGetMessagePinLaw" (78 : Nat) (1000000000 : Int64)).before a0 Z = true := hw _ (List.mem_of_getElem? (i := 265) rfl)
theorem d_method_3_code_65 : decode method_3_code 65 = .ok (.lastore, 1) := by decide +kernel
theorem d_method_3_code_66 : decode method_3_code 66 = .ok (.dup, 1) := by decide +kernel
theorem d_method_3_code_67 : decode method_3_code 67 = .ok (.bipush 10, 2) := by decide +kernel
theorem d_method_3_code_69 : decode method_3_code 69 = .ok (.ldc2_w 80, 3) := by decide +kernel
theorem w266 {Z : State} {a0 : Array Value} (hw : Tb a0 Z) : (Jvm.Cond.constantLong "com/example/warm_tariff/warmtariff/UndecodableGetMessagePinLaw" (80 : Nat) (10000000000 : Int64)).before a0 Z = true := hw _ (List.mem_of_getElem? (i := 266) rfl)
theorem d_method_3_code_72 : decode method_3_code 72 = .ok (.lastore, 1) := by decide +kernel
theorem d_method_3_code_73 : decode method_3_code 73 = .ok (.dup, 1) := by decide +kernel
theorem d_method_3_code_74 : decode method_3_code 74 = .ok (.bipush 11, 2) := by decide +kernel
theorem d_method_3_code_76 : decode method_3_code 76 = .ok (.ldc2_w 82, 3) := by decide +kernel
theorem w267 {Z : State} {a0 : Array Value} (hw : Tb a0 Z) : (Jvm.Cond.constantLong "com/example/warm_tariff/warmtariff/UndecodableGetMessagePinLaw" (82 : Nat) (100000000000 : Int64)).before a0 Z = true := hw _ (List.mem_of_getElem? (i := 267) rfl)
theorem d_method_3_code_79 : decode method_3_code 79 = .ok (.lastore, 1) := by decide +kernel
theorem d_method_3_code_80 : decode method_3_code 80 = .ok (.dup, 1) := by decide +kernel
theorem d_method_3_code_81 : decode method_3_code 81 = .ok (.bipush 12, 2) := by decide +kernel
theorem d_method_3_code_83 : decode method_3_code 83 = .ok (.ldc2_w 84, 3) := by decide +kernel
theorem w268 {Z : State} {a0 : Array Value} (hw : Tb a0 Z) : (Jvm.Cond.constantLong "com/example/warm_tariff/warmtariff/UndecodableGetMessagePinLaw" (84 : Nat) (1000000000000 : Int64)).before a0 Z = true := hw _ (List.mem_of_getElem? (i := 268) rfl)
theorem d_method_3_code_86 : decode method_3_code 86 = .ok (.lastore, 1) := by decide +kernel
theorem d_method_3_code_87 : decode method_3_code 87 = .ok (.dup, 1) := by decide +kernel
theorem d_method_3_code_88 : decode method_3_code 88 = .ok (.bipush 13, 2) := by decide +kernel
theorem d_method_3_code_90 : decode method_3_code 90 = .ok (.ldc2_w 86, 3) := by decide +kernel
theorem w269 {Z : State} {a0 : Array Value} (hw : Tb a0 Z) : (Jvm.Cond.constantLong "com/example/warm_tariff/warmtariff/UndecodableGetMessagePinLaw" (86 : Nat) (10000000000000 : Int64)).before a0 Z = true := hw _ (List.mem_of_getElem? (i := 269) rfl)
theorem d_method_3_code_93 : decode method_3_code 93 = .ok (.lastore, 1) := by decide +kernel
theorem d_method_3_code_94 : decode method_3_code 94 = .ok (.dup, 1) := by decide +kernel
theorem d_method_3_code_95 : decode method_3_code 95 = .ok (.bipush 14, 2) := by decide +kernel
theorem d_method_3_code_97 : decode method_3_code 97 = .ok (.ldc2_w 88, 3) := by decide +kernel
theorem w270 {Z : State} {a0 : Array Value} (hw : Tb a0 Z) : (Jvm.Cond.constantLong "com/example/warm_tariff/warmtariff/UndecodableGetMessagePinLaw" (88 : Nat) (100000000000000 : Int64)).before a0 Z = true := hw _ (List.mem_of_getElem? (i := 270) rfl)
theorem d_method_3_code_100 : decode method_3_code 100 = .ok (.lastore, 1) := by decide +kernel
theorem d_method_3_code_101 : decode method_3_code 101 = .ok (.dup, 1) := by decide +kernel
theorem d_method_3_code_102 : decode method_3_code 102 = .ok (.bipush 15, 2) := by decide +kernel
theorem d_method_3_code_104 : decode method_3_code 104 = .ok (.ldc2_w 90, 3) := by decide +kernel
theorem w271 {Z : State} {a0 : Array Value} (hw : Tb a0 Z) : (Jvm.Cond.constantLong "com/example/warm_tariff/warmtariff/UndecodableGetMessagePinLaw" (90 : Nat) (1000000000000000 : Int64)).before a0 Z = true := hw _ (List.mem_of_getElem? (i := 271) rfl)
theorem d_method_3_code_107 : decode method_3_code 107 = .ok (.lastore, 1) := by decide +kernel
theorem d_method_3_code_108 : decode method_3_code 108 = .ok (.dup, 1) := by decide +kernel
theorem d_method_3_code_109 : decode method_3_code 109 = .ok (.bipush 16, 2) := by decide +kernel
theorem d_method_3_code_111 : decode method_3_code 111 = .ok (.ldc2_w 92, 3) := by decide +kernel
theorem w272 {Z : State} {a0 : Array Value} (hw : Tb a0 Z) : (Jvm.Cond.constantLong "com/example/warm_tariff/warmtariff/UndecodableGetMessagePinLaw" (92 : Nat) (10000000000000000 : Int64)).before a0 Z = true := hw _ (List.mem_of_getElem? (i := 272) rfl)
theorem d_method_3_code_114 : decode method_3_code 114 = .ok (.lastore, 1) := by decide +kernel
theorem d_method_3_code_115 : decode method_3_code 115 = .ok (.dup, 1) := by decide +kernel
theorem d_method_3_code_116 : decode method_3_code 116 = .ok (.bipush 17, 2) := by decide +kernel
theorem d_method_3_code_118 : decode method_3_code 118 = .ok (.ldc2_w 94, 3) := by decide +kernel
theorem w273 {Z : State} {a0 : Array Value} (hw : Tb a0 Z) : (Jvm.Cond.constantLong "com/example/warm_tariff/warmtariff/UndecodableGetMessagePinLaw" (94 : Nat) (100000000000000000 : Int64)).before a0 Z = true := hw _ (List.mem_of_getElem? (i := 273) rfl)
theorem d_method_3_code_121 : decode method_3_code 121 = .ok (.lastore, 1) := by decide +kernel
theorem d_method_3_code_122 : decode method_3_code 122 = .ok (.dup, 1) := by decide +kernel
theorem d_method_3_code_123 : decode method_3_code 123 = .ok (.bipush 18, 2) := by decide +kernel
theorem d_method_3_code_125 : decode method_3_code 125 = .ok (.ldc2_w 96, 3) := by decide +kernel
theorem w274 {Z : State} {a0 : Array Value} (hw : Tb a0 Z) : (Jvm.Cond.constantLong "com/example/warm_tariff/warmtariff/UndecodableGetMessagePinLaw" (96 : Nat) (1000000000000000000 : Int64)).before a0 Z = true := hw _ (List.mem_of_getElem? (i := 274) rfl)
theorem d_method_3_code_128 : decode method_3_code 128 = .ok (.lastore, 1) := by decide +kernel
theorem d_method_3_code_129 : decode method_3_code 129 = .ok (.astore_n 0, 1) := by decide +kernel
theorem d_method_3_code_130 : decode method_3_code 130 = .ok (.aload_n 0, 1) := by decide +kernel
theorem d_method_3_code_131 : decode method_3_code 131 = .ok (.areturn, 1) := by decide +kernel
set_option maxRecDepth 65536 in
set_option maxHeartbeats 40000000 in
theorem c_powers (l : Launch) (Z : State) (a0 : Array Value) (hw : Tb a0 Z) (hEW : EW Z a0 EL0) (n0 : Nat)  (h0 : Heap) (O : Old Z n0 h0)  :
    Ct l Z EL0 n0 (⟨"com/example/warm_tariff/warmtariff/UndecodableGetMessagePinLaw", "powers", "()[J"⟩ : MethodName) method_3_code 1 (some (.array .long)) ({ frames := 0, cells := 1, slots := 19, locals := 0 } : Room) #[] h0 [] (fun v h sf => ∃ pa kp, v = some (.ref pa) ∧ h0.size ≤ pa ∧ Keep h0 h [] ∧ Arv Z h pa kp .long 19 (PW.map Value.long) (.long 0)) := by
  refine Ct.of (a0 := a0) #[.unset] hEW O (plainFor_of_name pl_com_example_warm_tariff_warmtariff_UndecodableGetMessagePinLaw) (fun m => by first | (simp [entryFrame, mkF, argsToLocals, Value.category]; done) | rfl) ?_
  intro p_ e_ s_ m_ below_ meth_ c_ b_ T_ K hSP hsh
  have KP := Keep.refl h0 []
  refine k_bipush K (19 : Int32) d_method_3_code_0 (pc' := 2) rfl rfl ?_
  refine k_newarray K (aty := .long) (z := (19 : Int32)) (w256 hw) (by decide) (cap := 19) (by decide) (by decide) d_method_3_code_2 (pc' := 4) rfl (by decide) (by decide) ?_
  intro T147 h147 a147 ka147 g147 K147 E147 tr147 sf_a147 V_a147
  have ga_a147 : n0 ≤ a147 := own_old K.old g147
  have sz_a147 : h0.size ≤ a147 := g147 ▸ KP.1
  replace KP := KP.ext E147
  replace V_a147 : Arv Z h147 a147 ka147 .long (19 : Int32) [(.long (0 : Int64)), (.long (0 : Int64)), (.long (0 : Int64)), (.long (0 : Int64)), (.long (0 : Int64)), (.long (0 : Int64)), (.long (0 : Int64)), (.long (0 : Int64)), (.long (0 : Int64)), (.long (0 : Int64)), (.long (0 : Int64)), (.long (0 : Int64)), (.long (0 : Int64)), (.long (0 : Int64)), (.long (0 : Int64)), (.long (0 : Int64)), (.long (0 : Int64)), (.long (0 : Int64)), (.long (0 : Int64))] (.long (0 : Int64)) := V_a147.pad (pad_rep [] (.long (0 : Int64)) 19)
  refine k_dup K147 d_method_3_code_4 (pc' := 5) rfl rfl ?_
  refine k_iconst K147 (0 : Int32) d_method_3_code_5 (pc' := 6) rfl rfl ?_
  refine k_lconst K147 (1 : Int64) d_method_3_code_6 (pc' := 7) rfl rfl ?_
  refine k_lastore K147 (j := (0 : Int32)) V_a147 ⟨by decide, by decide⟩ (Nat.le_of_ble_eq_true rfl) ga_a147 sf_a147 d_method_3_code_7 (pc' := 8) rfl ?_
  intro T148 h148 K148 W148 tr148 V148
  replace sf_a147 := tr148 a147 V_a147.lt sf_a147
  replace KP := KP.wr W148 (Or.inr sz_a147)
  replace V_a147 := V148
  refine k_dup K148 d_method_3_code_8 (pc' := 9) rfl rfl ?_
  refine k_iconst K148 (1 : Int32) d_method_3_code_9 (pc' := 10) rfl rfl ?_
  refine k_ldcJ K148 (w257 hw) d_method_3_code_10 (pc' := 13) rfl ?_
  refine k_lastore K148 (j := (1 : Int32)) V_a147 ⟨by decide, by decide⟩ (Nat.le_of_ble_eq_true rfl) ga_a147 sf_a147 d_method_3_code_13 (pc' := 14) rfl ?_
  intro T149 h149 K149 W149 tr149 V149
  replace sf_a147 := tr149 a147 V_a147.lt sf_a147
  replace KP := KP.wr W149 (Or.inr sz_a147)
  replace V_a147 := V149
  refine k_dup K149 d_method_3_code_14 (pc' := 15) rfl rfl ?_
  refine k_iconst K149 (2 : Int32) d_method_3_code_15 (pc' := 16) rfl rfl ?_
  refine k_ldcJ K149 (w258 hw) d_method_3_code_16 (pc' := 19) rfl ?_
  refine k_lastore K149 (j := (2 : Int32)) V_a147 ⟨by decide, by decide⟩ (Nat.le_of_ble_eq_true rfl) ga_a147 sf_a147 d_method_3_code_19 (pc' := 20) rfl ?_
  intro T150 h150 K150 W150 tr150 V150
  replace sf_a147 := tr150 a147 V_a147.lt sf_a147
  replace KP := KP.wr W150 (Or.inr sz_a147)
  replace V_a147 := V150
  refine k_dup K150 d_method_3_code_20 (pc' := 21) rfl rfl ?_
  refine k_iconst K150 (3 : Int32) d_method_3_code_21 (pc' := 22) rfl rfl ?_
  refine k_ldcJ K150 (w259 hw) d_method_3_code_22 (pc' := 25) rfl ?_
  refine k_lastore K150 (j := (3 : Int32)) V_a147 ⟨by decide, by decide⟩ (Nat.le_of_ble_eq_true rfl) ga_a147 sf_a147 d_method_3_code_25 (pc' := 26) rfl ?_
  intro T151 h151 K151 W151 tr151 V151
  replace sf_a147 := tr151 a147 V_a147.lt sf_a147
  replace KP := KP.wr W151 (Or.inr sz_a147)
  replace V_a147 := V151
  refine k_dup K151 d_method_3_code_26 (pc' := 27) rfl rfl ?_
  refine k_iconst K151 (4 : Int32) d_method_3_code_27 (pc' := 28) rfl rfl ?_
  refine k_ldcJ K151 (w260 hw) d_method_3_code_28 (pc' := 31) rfl ?_
  refine k_lastore K151 (j := (4 : Int32)) V_a147 ⟨by decide, by decide⟩ (Nat.le_of_ble_eq_true rfl) ga_a147 sf_a147 d_method_3_code_31 (pc' := 32) rfl ?_
  intro T152 h152 K152 W152 tr152 V152
  replace sf_a147 := tr152 a147 V_a147.lt sf_a147
  replace KP := KP.wr W152 (Or.inr sz_a147)
  replace V_a147 := V152
  refine k_dup K152 d_method_3_code_32 (pc' := 33) rfl rfl ?_
  refine k_iconst K152 (5 : Int32) d_method_3_code_33 (pc' := 34) rfl rfl ?_
  refine k_ldcJ K152 (w261 hw) d_method_3_code_34 (pc' := 37) rfl ?_
  refine k_lastore K152 (j := (5 : Int32)) V_a147 ⟨by decide, by decide⟩ (Nat.le_of_ble_eq_true rfl) ga_a147 sf_a147 d_method_3_code_37 (pc' := 38) rfl ?_
  intro T153 h153 K153 W153 tr153 V153
  replace sf_a147 := tr153 a147 V_a147.lt sf_a147
  replace KP := KP.wr W153 (Or.inr sz_a147)
  replace V_a147 := V153
  refine k_dup K153 d_method_3_code_38 (pc' := 39) rfl rfl ?_
  refine k_bipush K153 (6 : Int32) d_method_3_code_39 (pc' := 41) rfl rfl ?_
  refine k_ldcJ K153 (w262 hw) d_method_3_code_41 (pc' := 44) rfl ?_
  refine k_lastore K153 (j := (6 : Int32)) V_a147 ⟨by decide, by decide⟩ (Nat.le_of_ble_eq_true rfl) ga_a147 sf_a147 d_method_3_code_44 (pc' := 45) rfl ?_
  intro T154 h154 K154 W154 tr154 V154
  replace sf_a147 := tr154 a147 V_a147.lt sf_a147
  replace KP := KP.wr W154 (Or.inr sz_a147)
  replace V_a147 := V154
  refine k_dup K154 d_method_3_code_45 (pc' := 46) rfl rfl ?_
  refine k_bipush K154 (7 : Int32) d_method_3_code_46 (pc' := 48) rfl rfl ?_
  refine k_ldcJ K154 (w263 hw) d_method_3_code_48 (pc' := 51) rfl ?_
  refine k_lastore K154 (j := (7 : Int32)) V_a147 ⟨by decide, by decide⟩ (Nat.le_of_ble_eq_true rfl) ga_a147 sf_a147 d_method_3_code_51 (pc' := 52) rfl ?_
  intro T155 h155 K155 W155 tr155 V155
  replace sf_a147 := tr155 a147 V_a147.lt sf_a147
  replace KP := KP.wr W155 (Or.inr sz_a147)
  replace V_a147 := V155
  refine k_dup K155 d_method_3_code_52 (pc' := 53) rfl rfl ?_
  refine k_bipush K155 (8 : Int32) d_method_3_code_53 (pc' := 55) rfl rfl ?_
  refine k_ldcJ K155 (w264 hw) d_method_3_code_55 (pc' := 58) rfl ?_
  refine k_lastore K155 (j := (8 : Int32)) V_a147 ⟨by decide, by decide⟩ (Nat.le_of_ble_eq_true rfl) ga_a147 sf_a147 d_method_3_code_58 (pc' := 59) rfl ?_
  intro T156 h156 K156 W156 tr156 V156
  replace sf_a147 := tr156 a147 V_a147.lt sf_a147
  replace KP := KP.wr W156 (Or.inr sz_a147)
  replace V_a147 := V156
  refine k_dup K156 d_method_3_code_59 (pc' := 60) rfl rfl ?_
  refine k_bipush K156 (9 : Int32) d_method_3_code_60 (pc' := 62) rfl rfl ?_
  refine k_ldcJ K156 (w265 hw) d_method_3_code_62 (pc' := 65) rfl ?_
  refine k_lastore K156 (j := (9 : Int32)) V_a147 ⟨by decide, by decide⟩ (Nat.le_of_ble_eq_true rfl) ga_a147 sf_a147 d_method_3_code_65 (pc' := 66) rfl ?_
  intro T157 h157 K157 W157 tr157 V157
  replace sf_a147 := tr157 a147 V_a147.lt sf_a147
  replace KP := KP.wr W157 (Or.inr sz_a147)
  replace V_a147 := V157
  refine k_dup K157 d_method_3_code_66 (pc' := 67) rfl rfl ?_
  refine k_bipush K157 (10 : Int32) d_method_3_code_67 (pc' := 69) rfl rfl ?_
  refine k_ldcJ K157 (w266 hw) d_method_3_code_69 (pc' := 72) rfl ?_
  refine k_lastore K157 (j := (10 : Int32)) V_a147 ⟨by decide, by decide⟩ (Nat.le_of_ble_eq_true rfl) ga_a147 sf_a147 d_method_3_code_72 (pc' := 73) rfl ?_
  intro T158 h158 K158 W158 tr158 V158
  replace sf_a147 := tr158 a147 V_a147.lt sf_a147
  replace KP := KP.wr W158 (Or.inr sz_a147)
  replace V_a147 := V158
  refine k_dup K158 d_method_3_code_73 (pc' := 74) rfl rfl ?_
  refine k_bipush K158 (11 : Int32) d_method_3_code_74 (pc' := 76) rfl rfl ?_
  refine k_ldcJ K158 (w267 hw) d_method_3_code_76 (pc' := 79) rfl ?_
  refine k_lastore K158 (j := (11 : Int32)) V_a147 ⟨by decide, by decide⟩ (Nat.le_of_ble_eq_true rfl) ga_a147 sf_a147 d_method_3_code_79 (pc' := 80) rfl ?_
  intro T159 h159 K159 W159 tr159 V159
  replace sf_a147 := tr159 a147 V_a147.lt sf_a147
  replace KP := KP.wr W159 (Or.inr sz_a147)
  replace V_a147 := V159
  refine k_dup K159 d_method_3_code_80 (pc' := 81) rfl rfl ?_
  refine k_bipush K159 (12 : Int32) d_method_3_code_81 (pc' := 83) rfl rfl ?_
  refine k_ldcJ K159 (w268 hw) d_method_3_code_83 (pc' := 86) rfl ?_
  refine k_lastore K159 (j := (12 : Int32)) V_a147 ⟨by decide, by decide⟩ (Nat.le_of_ble_eq_true rfl) ga_a147 sf_a147 d_method_3_code_86 (pc' := 87) rfl ?_
  intro T160 h160 K160 W160 tr160 V160
  replace sf_a147 := tr160 a147 V_a147.lt sf_a147
  replace KP := KP.wr W160 (Or.inr sz_a147)
  replace V_a147 := V160
  refine k_dup K160 d_method_3_code_87 (pc' := 88) rfl rfl ?_
  refine k_bipush K160 (13 : Int32) d_method_3_code_88 (pc' := 90) rfl rfl ?_
  refine k_ldcJ K160 (w269 hw) d_method_3_code_90 (pc' := 93) rfl ?_
  refine k_lastore K160 (j := (13 : Int32)) V_a147 ⟨by decide, by decide⟩ (Nat.le_of_ble_eq_true rfl) ga_a147 sf_a147 d_method_3_code_93 (pc' := 94) rfl ?_
  intro T161 h161 K161 W161 tr161 V161
  replace sf_a147 := tr161 a147 V_a147.lt sf_a147
  replace KP := KP.wr W161 (Or.inr sz_a147)
  replace V_a147 := V161
  refine k_dup K161 d_method_3_code_94 (pc' := 95) rfl rfl ?_
  refine k_bipush K161 (14 : Int32) d_method_3_code_95 (pc' := 97) rfl rfl ?_
  refine k_ldcJ K161 (w270 hw) d_method_3_code_97 (pc' := 100) rfl ?_
  refine k_lastore K161 (j := (14 : Int32)) V_a147 ⟨by decide, by decide⟩ (Nat.le_of_ble_eq_true rfl) ga_a147 sf_a147 d_method_3_code_100 (pc' := 101) rfl ?_
  intro T162 h162 K162 W162 tr162 V162
  replace sf_a147 := tr162 a147 V_a147.lt sf_a147
  replace KP := KP.wr W162 (Or.inr sz_a147)
  replace V_a147 := V162
  refine k_dup K162 d_method_3_code_101 (pc' := 102) rfl rfl ?_
  refine k_bipush K162 (15 : Int32) d_method_3_code_102 (pc' := 104) rfl rfl ?_
  refine k_ldcJ K162 (w271 hw) d_method_3_code_104 (pc' := 107) rfl ?_
  refine k_lastore K162 (j := (15 : Int32)) V_a147 ⟨by decide, by decide⟩ (Nat.le_of_ble_eq_true rfl) ga_a147 sf_a147 d_method_3_code_107 (pc' := 108) rfl ?_
  intro T163 h163 K163 W163 tr163 V163
  replace sf_a147 := tr163 a147 V_a147.lt sf_a147
  replace KP := KP.wr W163 (Or.inr sz_a147)
  replace V_a147 := V163
  refine k_dup K163 d_method_3_code_108 (pc' := 109) rfl rfl ?_
  refine k_bipush K163 (16 : Int32) d_method_3_code_109 (pc' := 111) rfl rfl ?_
  refine k_ldcJ K163 (w272 hw) d_method_3_code_111 (pc' := 114) rfl ?_
  refine k_lastore K163 (j := (16 : Int32)) V_a147 ⟨by decide, by decide⟩ (Nat.le_of_ble_eq_true rfl) ga_a147 sf_a147 d_method_3_code_114 (pc' := 115) rfl ?_
  intro T164 h164 K164 W164 tr164 V164
  replace sf_a147 := tr164 a147 V_a147.lt sf_a147
  replace KP := KP.wr W164 (Or.inr sz_a147)
  replace V_a147 := V164
  refine k_dup K164 d_method_3_code_115 (pc' := 116) rfl rfl ?_
  refine k_bipush K164 (17 : Int32) d_method_3_code_116 (pc' := 118) rfl rfl ?_
  refine k_ldcJ K164 (w273 hw) d_method_3_code_118 (pc' := 121) rfl ?_
  refine k_lastore K164 (j := (17 : Int32)) V_a147 ⟨by decide, by decide⟩ (Nat.le_of_ble_eq_true rfl) ga_a147 sf_a147 d_method_3_code_121 (pc' := 122) rfl ?_
  intro T165 h165 K165 W165 tr165 V165
  replace sf_a147 := tr165 a147 V_a147.lt sf_a147
  replace KP := KP.wr W165 (Or.inr sz_a147)
  replace V_a147 := V165
  refine k_dup K165 d_method_3_code_122 (pc' := 123) rfl rfl ?_
  refine k_bipush K165 (18 : Int32) d_method_3_code_123 (pc' := 125) rfl rfl ?_
  refine k_ldcJ K165 (w274 hw) d_method_3_code_125 (pc' := 128) rfl ?_
  refine k_lastore K165 (j := (18 : Int32)) V_a147 ⟨by decide, by decide⟩ (Nat.le_of_ble_eq_true rfl) ga_a147 sf_a147 d_method_3_code_128 (pc' := 129) rfl ?_
  intro T166 h166 K166 W166 tr166 V166
  replace sf_a147 := tr166 a147 V_a147.lt sf_a147
  replace KP := KP.wr W166 (Or.inr sz_a147)
  replace V_a147 := V166
  refine k_astoreN K166 d_method_3_code_129 (pc' := 130) (L' := #[.val (.ref a147)]) rfl rfl rfl ?_
  refine k_aloadN K166 d_method_3_code_130 (pc' := 131) rfl rfl rfl ?_
  exact k_aret K166 d_method_3_code_131 rfl rfl rfl (fun sf ht => ⟨a147, ka147, rfl, sz_a147, KP, V_a147⟩) (by decide) (by decide)
theorem d_method_4_code_0 : decode method_4_code 0 = .ok (.lload_n 0, 1) := by decide +kernel
theorem d_method_4_code_1 : decode method_4_code 1 = .ok (.lload_n 2, 1) := by decide +kernel
theorem d_method_4_code_2 : decode method_4_code 2 = .ok (.ldiv, 1) := by decide +kernel
theorem d_method_4_code_3 : decode method_4_code 3 = .ok (.lconst 0, 1) := by decide +kernel
theorem d_method_4_code_4 : decode method_4_code 4 = .ok (.lcmp, 1) := by decide +kernel
theorem d_method_4_code_5 : decode method_4_code 5 = .ok (.ifCond .eq 7, 3) := by decide +kernel
theorem d_method_4_code_12 : decode method_4_code 12 = .ok (.iconst 0, 1) := by decide +kernel
theorem d_method_4_code_13 : decode method_4_code 13 = .ok (.ireturn, 1) := by decide +kernel
theorem d_method_4_code_8 : decode method_4_code 8 = .ok (.iconst 1, 1) := by decide +kernel
theorem d_method_4_code_9 : decode method_4_code 9 = .ok (.goto 4, 3) := by decide +kernel
set_option maxRecDepth 65536 in
set_option maxHeartbeats 40000000 in
theorem c_more (l : Launch) (Z : State) (a0 : Array Value) (hw : Tb a0 Z) (hEW : EW Z a0 EL0) (n0 : Nat) (x P : Int64) (n sg kk : Nat) (h0 : Heap) (O : Old Z n0 h0) (hx : Sg x n sg) (hP : P.toInt = (10 ^ kk : Nat))  :
    Ct l Z EL0 n0 (⟨"com/example/warm_tariff/warmtariff/UndecodableGetMessagePinLaw", "more", "(JJ)I"⟩ : MethodName) method_4_code 4 (some .int) ({ frames := 0, cells := 0, slots := 0, locals := 0 } : Room) #[(.long x), (.long P)] h0 [] (Pu (some (.int (Int32.ofNat (if n < 10 ^ kk then 0 else 1)))) h0) := by
  refine Ct.of (a0 := a0) #[.val (.long x), .second, .val (.long P), .second] hEW O (plainFor_of_name pl_com_example_warm_tariff_warmtariff_UndecodableGetMessagePinLaw) (fun m => by first | (simp [entryFrame, mkF, argsToLocals, Value.category]; done) | rfl) ?_
  intro p_ e_ s_ m_ below_ meth_ c_ b_ T_ K hSP hsh
  refine k_lloadN K d_method_4_code_0 (pc' := 1) rfl rfl ?_
  refine k_lloadN K d_method_4_code_1 (pc' := 2) rfl rfl ?_
  refine k_ldiv K d_method_4_code_2 (pc' := 3) rfl (fun q => by have h1 := Nat.pow_pos (n := kk) (show 0 < 10 by decide); rw [q, own_00] at hP; omega) ?_
  refine k_lconst K (0 : Int64) d_method_4_code_3 (pc' := 4) rfl rfl ?_
  refine k_lcmp K d_method_4_code_4 (pc' := 5) rfl ?_
  refine k_lif_eq K d_method_4_code_5 (by decide) (pc' := 12) (pc2 := 8) (by decide) rfl (fun hc5 => ?_) (fun hc5 => ?_)
  · refine k_iconst K (0 : Int32) d_method_4_code_12 (pc' := 13) rfl rfl ?_
    exact k_iret K d_method_4_code_13 rfl (fun sf ht => ⟨by rw [if_pos ((own_more hx hP).mp hc5)]; rfl, rfl⟩) (by decide) (by decide)
  · refine k_iconst K (1 : Int32) d_method_4_code_8 (pc' := 9) rfl rfl ?_
    refine k_goto K d_method_4_code_9 (by decide) (pc' := 13) (by decide) ?_
    exact k_iret K d_method_4_code_13 rfl (fun sf ht => ⟨by rw [if_neg (fun q => hc5 ((own_more hx hP).mpr q))]; rfl, rfl⟩) (by decide) (by decide)
theorem d_method_5_code_0 : decode method_5_code 0 = .ok (.invokestatic 98, 3) := by decide +kernel
theorem w253 {Z : State} {a0 : Array Value} (hw : Tb a0 Z) : (Jvm.Cond.methodLink "com/example/warm_tariff/warmtariff/UndecodableGetMessagePinLaw" (98 : Nat) ({ cls := "com/example/warm_tariff/warmtariff/UndecodableGetMessagePinLaw", name := "powers", desc := "()[J" } : Jvm.MethodName)).before a0 Z = true := hw _ (List.mem_of_getElem? (i := 253) rfl)
theorem w255 {Z : State} {a0 : Array Value} (hw : Tb a0 Z) : (Jvm.Cond.code ({ cls := "com/example/warm_tariff/warmtariff/UndecodableGetMessagePinLaw", name := "powers", desc := "()[J" } : Jvm.MethodName) method_3_code (1 : Nat) (Option.some (Jvm.ClassFile.FieldType.array Jvm.ClassFile.FieldType.long))).before a0 Z = true := hw _ (List.mem_of_getElem? (i := 255) rfl)
theorem w254 {Z : State} {a0 : Array Value} (hw : Tb a0 Z) : (Jvm.Cond.static ({ cls := "com/example/warm_tariff/warmtariff/UndecodableGetMessagePinLaw", name := "powers", desc := "()[J" } : Jvm.MethodName)).before a0 Z = true := hw _ (List.mem_of_getElem? (i := 254) rfl)
theorem pd____J_691 : parseMethodDescriptor "()[J" = some ⟨[], some (.array .long)⟩ := by decide +kernel
theorem d_method_5_code_3 : decode method_5_code 3 = .ok (.astore_n 2, 1) := by decide +kernel
theorem d_method_5_code_4 : decode method_5_code 4 = .ok (.iconst 1, 1) := by decide +kernel
theorem d_method_5_code_5 : decode method_5_code 5 = .ok (.istore_n 3, 1) := by decide +kernel
theorem d_method_5_code_6 : decode method_5_code 6 = .ok (.iload_n 3, 1) := by decide +kernel
theorem d_method_5_code_7 : decode method_5_code 7 = .ok (.lload_n 0, 1) := by decide +kernel
theorem d_method_5_code_8 : decode method_5_code 8 = .ok (.aload_n 2, 1) := by decide +kernel
theorem d_method_5_code_9 : decode method_5_code 9 = .ok (.iconst 1, 1) := by decide +kernel
theorem d_method_5_code_10 : decode method_5_code 10 = .ok (.laload, 1) := by decide +kernel
theorem d_method_5_code_11 : decode method_5_code 11 = .ok (.invokestatic 102, 3) := by decide +kernel
theorem w275 {Z : State} {a0 : Array Value} (hw : Tb a0 Z) : (Jvm.Cond.methodLink "com/example/warm_tariff/warmtariff/UndecodableGetMessagePinLaw" (102 : Nat) ({ cls := "com/example/warm_tariff/warmtariff/UndecodableGetMessagePinLaw", name := "more", desc := "(JJ)I" } : Jvm.MethodName)).before a0 Z = true := hw _ (List.mem_of_getElem? (i := 275) rfl)
theorem w277 {Z : State} {a0 : Array Value} (hw : Tb a0 Z) : (Jvm.Cond.code ({ cls := "com/example/warm_tariff/warmtariff/UndecodableGetMessagePinLaw", name := "more", desc := "(JJ)I" } : Jvm.MethodName) method_4_code (4 : Nat) (Option.some Jvm.ClassFile.FieldType.int)).before a0 Z = true := hw _ (List.mem_of_getElem? (i := 277) rfl)
theorem w276 {Z : State} {a0 : Array Value} (hw : Tb a0 Z) : (Jvm.Cond.static ({ cls := "com/example/warm_tariff/warmtariff/UndecodableGetMessagePinLaw", name := "more", desc := "(JJ)I" } : Jvm.MethodName)).before a0 Z = true := hw _ (List.mem_of_getElem? (i := 276) rfl)
theorem pd__JJ_I_939 : parseMethodDescriptor "(JJ)I" = some ⟨[.long, .long], some .int⟩ := by decide +kernel
theorem d_method_5_code_14 : decode method_5_code 14 = .ok (.iadd, 1) := by decide +kernel
theorem d_method_5_code_15 : decode method_5_code 15 = .ok (.istore_n 3, 1) := by decide +kernel
theorem d_method_5_code_16 : decode method_5_code 16 = .ok (.iload_n 3, 1) := by decide +kernel
theorem d_method_5_code_17 : decode method_5_code 17 = .ok (.lload_n 0, 1) := by decide +kernel
theorem d_method_5_code_18 : decode method_5_code 18 = .ok (.aload_n 2, 1) := by decide +kernel
theorem d_method_5_code_19 : decode method_5_code 19 = .ok (.iconst 2, 1) := by decide +kernel
theorem d_method_5_code_20 : decode method_5_code 20 = .ok (.laload, 1) := by decide +kernel
theorem d_method_5_code_21 : decode method_5_code 21 = .ok (.invokestatic 102, 3) := by decide +kernel
theorem d_method_5_code_24 : decode method_5_code 24 = .ok (.iadd, 1) := by decide +kernel
theorem d_method_5_code_25 : decode method_5_code 25 = .ok (.istore_n 3, 1) := by decide +kernel
theorem d_method_5_code_26 : decode method_5_code 26 = .ok (.iload_n 3, 1) := by decide +kernel
theorem d_method_5_code_27 : decode method_5_code 27 = .ok (.lload_n 0, 1) := by decide +kernel
theorem d_method_5_code_28 : decode method_5_code 28 = .ok (.aload_n 2, 1) := by decide +kernel
theorem d_method_5_code_29 : decode method_5_code 29 = .ok (.iconst 3, 1) := by decide +kernel
theorem d_method_5_code_30 : decode method_5_code 30 = .ok (.laload, 1) := by decide +kernel
theorem d_method_5_code_31 : decode method_5_code 31 = .ok (.invokestatic 102, 3) := by decide +kernel
theorem d_method_5_code_34 : decode method_5_code 34 = .ok (.iadd, 1) := by decide +kernel
theorem d_method_5_code_35 : decode method_5_code 35 = .ok (.istore_n 3, 1) := by decide +kernel
theorem d_method_5_code_36 : decode method_5_code 36 = .ok (.iload_n 3, 1) := by decide +kernel
theorem d_method_5_code_37 : decode method_5_code 37 = .ok (.lload_n 0, 1) := by decide +kernel
theorem d_method_5_code_38 : decode method_5_code 38 = .ok (.aload_n 2, 1) := by decide +kernel
theorem d_method_5_code_39 : decode method_5_code 39 = .ok (.iconst 4, 1) := by decide +kernel
theorem d_method_5_code_40 : decode method_5_code 40 = .ok (.laload, 1) := by decide +kernel
theorem d_method_5_code_41 : decode method_5_code 41 = .ok (.invokestatic 102, 3) := by decide +kernel
theorem d_method_5_code_44 : decode method_5_code 44 = .ok (.iadd, 1) := by decide +kernel
theorem d_method_5_code_45 : decode method_5_code 45 = .ok (.istore_n 3, 1) := by decide +kernel
theorem d_method_5_code_46 : decode method_5_code 46 = .ok (.iload_n 3, 1) := by decide +kernel
theorem d_method_5_code_47 : decode method_5_code 47 = .ok (.lload_n 0, 1) := by decide +kernel
theorem d_method_5_code_48 : decode method_5_code 48 = .ok (.aload_n 2, 1) := by decide +kernel
theorem d_method_5_code_49 : decode method_5_code 49 = .ok (.iconst 5, 1) := by decide +kernel
theorem d_method_5_code_50 : decode method_5_code 50 = .ok (.laload, 1) := by decide +kernel
theorem d_method_5_code_51 : decode method_5_code 51 = .ok (.invokestatic 102, 3) := by decide +kernel
theorem d_method_5_code_54 : decode method_5_code 54 = .ok (.iadd, 1) := by decide +kernel
theorem d_method_5_code_55 : decode method_5_code 55 = .ok (.istore_n 3, 1) := by decide +kernel
theorem d_method_5_code_56 : decode method_5_code 56 = .ok (.iload_n 3, 1) := by decide +kernel
theorem d_method_5_code_57 : decode method_5_code 57 = .ok (.lload_n 0, 1) := by decide +kernel
theorem d_method_5_code_58 : decode method_5_code 58 = .ok (.aload_n 2, 1) := by decide +kernel
theorem d_method_5_code_59 : decode method_5_code 59 = .ok (.bipush 6, 2) := by decide +kernel
theorem d_method_5_code_61 : decode method_5_code 61 = .ok (.laload, 1) := by decide +kernel
theorem d_method_5_code_62 : decode method_5_code 62 = .ok (.invokestatic 102, 3) := by decide +kernel
theorem d_method_5_code_65 : decode method_5_code 65 = .ok (.iadd, 1) := by decide +kernel
theorem d_method_5_code_66 : decode method_5_code 66 = .ok (.istore_n 3, 1) := by decide +kernel
theorem d_method_5_code_67 : decode method_5_code 67 = .ok (.iload_n 3, 1) := by decide +kernel
theorem d_method_5_code_68 : decode method_5_code 68 = .ok (.lload_n 0, 1) := by decide +kernel
theorem d_method_5_code_69 : decode method_5_code 69 = .ok (.aload_n 2, 1) := by decide +kernel
theorem d_method_5_code_70 : decode method_5_code 70 = .ok (.bipush 7, 2) := by decide +kernel
theorem d_method_5_code_72 : decode method_5_code 72 = .ok (.laload, 1) := by decide +kernel
theorem d_method_5_code_73 : decode method_5_code 73 = .ok (.invokestatic 102, 3) := by decide +kernel
theorem d_method_5_code_76 : decode method_5_code 76 = .ok (.iadd, 1) := by decide +kernel
theorem d_method_5_code_77 : decode method_5_code 77 = .ok (.istore_n 3, 1) := by decide +kernel
theorem d_method_5_code_78 : decode method_5_code 78 = .ok (.iload_n 3, 1) := by decide +kernel
theorem d_method_5_code_79 : decode method_5_code 79 = .ok (.lload_n 0, 1) := by decide +kernel
theorem d_method_5_code_80 : decode method_5_code 80 = .ok (.aload_n 2, 1) := by decide +kernel
theorem d_method_5_code_81 : decode method_5_code 81 = .ok (.bipush 8, 2) := by decide +kernel
theorem d_method_5_code_83 : decode method_5_code 83 = .ok (.laload, 1) := by decide +kernel
theorem d_method_5_code_84 : decode method_5_code 84 = .ok (.invokestatic 102, 3) := by decide +kernel
theorem d_method_5_code_87 : decode method_5_code 87 = .ok (.iadd, 1) := by decide +kernel
theorem d_method_5_code_88 : decode method_5_code 88 = .ok (.istore_n 3, 1) := by decide +kernel
theorem d_method_5_code_89 : decode method_5_code 89 = .ok (.iload_n 3, 1) := by decide +kernel
theorem d_method_5_code_90 : decode method_5_code 90 = .ok (.lload_n 0, 1) := by decide +kernel
theorem d_method_5_code_91 : decode method_5_code 91 = .ok (.aload_n 2, 1) := by decide +kernel
theorem d_method_5_code_92 : decode method_5_code 92 = .ok (.bipush 9, 2) := by decide +kernel
theorem d_method_5_code_94 : decode method_5_code 94 = .ok (.laload, 1) := by decide +kernel
theorem d_method_5_code_95 : decode method_5_code 95 = .ok (.invokestatic 102, 3) := by decide +kernel
theorem d_method_5_code_98 : decode method_5_code 98 = .ok (.iadd, 1) := by decide +kernel
theorem d_method_5_code_99 : decode method_5_code 99 = .ok (.istore_n 3, 1) := by decide +kernel
theorem d_method_5_code_100 : decode method_5_code 100 = .ok (.iload_n 3, 1) := by decide +kernel
theorem d_method_5_code_101 : decode method_5_code 101 = .ok (.lload_n 0, 1) := by decide +kernel
theorem d_method_5_code_102 : decode method_5_code 102 = .ok (.aload_n 2, 1) := by decide +kernel
theorem d_method_5_code_103 : decode method_5_code 103 = .ok (.bipush 10, 2) := by decide +kernel
theorem d_method_5_code_105 : decode method_5_code 105 = .ok (.laload, 1) := by decide +kernel
theorem d_method_5_code_106 : decode method_5_code 106 = .ok (.invokestatic 102, 3) := by decide +kernel
theorem d_method_5_code_109 : decode method_5_code 109 = .ok (.iadd, 1) := by decide +kernel
theorem d_method_5_code_110 : decode method_5_code 110 = .ok (.istore_n 3, 1) := by decide +kernel
theorem d_method_5_code_111 : decode method_5_code 111 = .ok (.iload_n 3, 1) := by decide +kernel
theorem d_method_5_code_112 : decode method_5_code 112 = .ok (.lload_n 0, 1) := by decide +kernel
theorem d_method_5_code_113 : decode method_5_code 113 = .ok (.aload_n 2, 1) := by decide +kernel
theorem d_method_5_code_114 : decode method_5_code 114 = .ok (.bipush 11, 2) := by decide +kernel
theorem d_method_5_code_116 : decode method_5_code 116 = .ok (.laload, 1) := by decide +kernel
theorem d_method_5_code_117 : decode method_5_code 117 = .ok (.invokestatic 102, 3) := by decide +kernel
theorem d_method_5_code_120 : decode method_5_code 120 = .ok (.iadd, 1) := by decide +kernel
theorem d_method_5_code_121 : decode method_5_code 121 = .ok (.istore_n 3, 1) := by decide +kernel
theorem d_method_5_code_122 : decode method_5_code 122 = .ok (.iload_n 3, 1) := by decide +kernel
theorem d_method_5_code_123 : decode method_5_code 123 = .ok (.lload_n 0, 1) := by decide +kernel
theorem d_method_5_code_124 : decode method_5_code 124 = .ok (.aload_n 2, 1) := by decide +kernel
theorem d_method_5_code_125 : decode method_5_code 125 = .ok (.bipush 12, 2) := by decide +kernel
theorem d_method_5_code_127 : decode method_5_code 127 = .ok (.laload, 1) := by decide +kernel
theorem d_method_5_code_128 : decode method_5_code 128 = .ok (.invokestatic 102, 3) := by decide +kernel
theorem d_method_5_code_131 : decode method_5_code 131 = .ok (.iadd, 1) := by decide +kernel
theorem d_method_5_code_132 : decode method_5_code 132 = .ok (.istore_n 3, 1) := by decide +kernel
theorem d_method_5_code_133 : decode method_5_code 133 = .ok (.iload_n 3, 1) := by decide +kernel
theorem d_method_5_code_134 : decode method_5_code 134 = .ok (.lload_n 0, 1) := by decide +kernel
theorem d_method_5_code_135 : decode method_5_code 135 = .ok (.aload_n 2, 1) := by decide +kernel
theorem d_method_5_code_136 : decode method_5_code 136 = .ok (.bipush 13, 2) := by decide +kernel
theorem d_method_5_code_138 : decode method_5_code 138 = .ok (.laload, 1) := by decide +kernel
theorem d_method_5_code_139 : decode method_5_code 139 = .ok (.invokestatic 102, 3) := by decide +kernel
theorem d_method_5_code_142 : decode method_5_code 142 = .ok (.iadd, 1) := by decide +kernel
theorem d_method_5_code_143 : decode method_5_code 143 = .ok (.istore_n 3, 1) := by decide +kernel
theorem d_method_5_code_144 : decode method_5_code 144 = .ok (.iload_n 3, 1) := by decide +kernel
theorem d_method_5_code_145 : decode method_5_code 145 = .ok (.lload_n 0, 1) := by decide +kernel
theorem d_method_5_code_146 : decode method_5_code 146 = .ok (.aload_n 2, 1) := by decide +kernel
theorem d_method_5_code_147 : decode method_5_code 147 = .ok (.bipush 14, 2) := by decide +kernel
theorem d_method_5_code_149 : decode method_5_code 149 = .ok (.laload, 1) := by decide +kernel
theorem d_method_5_code_150 : decode method_5_code 150 = .ok (.invokestatic 102, 3) := by decide +kernel
theorem d_method_5_code_153 : decode method_5_code 153 = .ok (.iadd, 1) := by decide +kernel
theorem d_method_5_code_154 : decode method_5_code 154 = .ok (.istore_n 3, 1) := by decide +kernel
theorem d_method_5_code_155 : decode method_5_code 155 = .ok (.iload_n 3, 1) := by decide +kernel
theorem d_method_5_code_156 : decode method_5_code 156 = .ok (.lload_n 0, 1) := by decide +kernel
theorem d_method_5_code_157 : decode method_5_code 157 = .ok (.aload_n 2, 1) := by decide +kernel
theorem d_method_5_code_158 : decode method_5_code 158 = .ok (.bipush 15, 2) := by decide +kernel
theorem d_method_5_code_160 : decode method_5_code 160 = .ok (.laload, 1) := by decide +kernel
theorem d_method_5_code_161 : decode method_5_code 161 = .ok (.invokestatic 102, 3) := by decide +kernel
theorem d_method_5_code_164 : decode method_5_code 164 = .ok (.iadd, 1) := by decide +kernel
theorem d_method_5_code_165 : decode method_5_code 165 = .ok (.istore_n 3, 1) := by decide +kernel
theorem d_method_5_code_166 : decode method_5_code 166 = .ok (.iload_n 3, 1) := by decide +kernel
theorem d_method_5_code_167 : decode method_5_code 167 = .ok (.lload_n 0, 1) := by decide +kernel
theorem d_method_5_code_168 : decode method_5_code 168 = .ok (.aload_n 2, 1) := by decide +kernel
theorem d_method_5_code_169 : decode method_5_code 169 = .ok (.bipush 16, 2) := by decide +kernel
theorem d_method_5_code_171 : decode method_5_code 171 = .ok (.laload, 1) := by decide +kernel
theorem d_method_5_code_172 : decode method_5_code 172 = .ok (.invokestatic 102, 3) := by decide +kernel
theorem d_method_5_code_175 : decode method_5_code 175 = .ok (.iadd, 1) := by decide +kernel
theorem d_method_5_code_176 : decode method_5_code 176 = .ok (.istore_n 3, 1) := by decide +kernel
theorem d_method_5_code_177 : decode method_5_code 177 = .ok (.iload_n 3, 1) := by decide +kernel
theorem d_method_5_code_178 : decode method_5_code 178 = .ok (.lload_n 0, 1) := by decide +kernel
theorem d_method_5_code_179 : decode method_5_code 179 = .ok (.aload_n 2, 1) := by decide +kernel
theorem d_method_5_code_180 : decode method_5_code 180 = .ok (.bipush 17, 2) := by decide +kernel
theorem d_method_5_code_182 : decode method_5_code 182 = .ok (.laload, 1) := by decide +kernel
theorem d_method_5_code_183 : decode method_5_code 183 = .ok (.invokestatic 102, 3) := by decide +kernel
theorem d_method_5_code_186 : decode method_5_code 186 = .ok (.iadd, 1) := by decide +kernel
theorem d_method_5_code_187 : decode method_5_code 187 = .ok (.istore_n 3, 1) := by decide +kernel
theorem d_method_5_code_188 : decode method_5_code 188 = .ok (.iload_n 3, 1) := by decide +kernel
theorem d_method_5_code_189 : decode method_5_code 189 = .ok (.lload_n 0, 1) := by decide +kernel
theorem d_method_5_code_190 : decode method_5_code 190 = .ok (.aload_n 2, 1) := by decide +kernel
theorem d_method_5_code_191 : decode method_5_code 191 = .ok (.bipush 18, 2) := by decide +kernel
theorem d_method_5_code_193 : decode method_5_code 193 = .ok (.laload, 1) := by decide +kernel
theorem d_method_5_code_194 : decode method_5_code 194 = .ok (.invokestatic 102, 3) := by decide +kernel
theorem d_method_5_code_197 : decode method_5_code 197 = .ok (.iadd, 1) := by decide +kernel
theorem d_method_5_code_198 : decode method_5_code 198 = .ok (.istore_n 3, 1) := by decide +kernel
theorem d_method_5_code_199 : decode method_5_code 199 = .ok (.iload_n 3, 1) := by decide +kernel
theorem d_method_5_code_200 : decode method_5_code 200 = .ok (.ireturn, 1) := by decide +kernel
set_option maxRecDepth 65536 in
set_option maxHeartbeats 40000000 in
theorem c_digits (l : Launch) (Z : State) (a0 : Array Value) (hw : Tb a0 Z) (hEW : EW Z a0 EL0) (n0 : Nat) (x : Int64) (n sg : Nat) (h0 : Heap) (O : Old Z n0 h0) (hx : Sg x n sg) :
    Ct l Z EL0 n0 (⟨"com/example/warm_tariff/warmtariff/UndecodableGetMessagePinLaw", "digits", "(J)I"⟩ : MethodName) method_5_code 4 (some .int) ({ frames := 1, cells := 1, slots := 19, locals := 16 } : Room) #[(.long x)] h0 [] (fun v h sf => v = some (.int (Int32.ofNat (szL n))) ∧ Keep h0 h []) := by
  refine Ct.of (a0 := a0) #[.val (.long x), .second, .unset, .unset] hEW O (plainFor_of_name pl_com_example_warm_tariff_warmtariff_UndecodableGetMessagePinLaw) (fun m => by first | (simp [entryFrame, mkF, argsToLocals, Value.category]; done) | rfl) ?_
  intro p_ e_ s_ m_ below_ meth_ c_ b_ T_ K hSP hsh
  have KP := Keep.refl h0 []
  refine k_static K [] [] 0 (w253 hw) (w254 hw) (w251 hw) (w255 hw) (by decide) pd____J_691 (c_powers l Z a0 hw hEW n0  h0 K.old ) d_method_5_code_0 nofun (pc' := 3) rfl rfl rfl rfl (Nat.le_of_eq rfl) (by decide) (by decide) (by decide) (by decide) ?_
  intro b167 T167 h167 L167 v167 K167 tr167 q167
  obtain ⟨pa, kp, rfl, hpa, KQ, V_pa⟩ := q167
  have ga_pa : n0 ≤ pa := Nat.le_trans (own_n0 K.old) hpa
  have sz_pa : h0.size ≤ pa := Nat.le_trans KP.1 hpa
  replace KP := KP.trans KQ all0
  show Goes p_.tables e_ below_ _ (T167.setTop (mkF m_ 3 #[.val (.long x), .second, .unset, .unset] [(.ref pa)]))
  refine k_astoreN K167 d_method_5_code_3 (pc' := 4) (L' := #[.val (.long x), .second, .val (.ref pa), .unset]) rfl rfl rfl ?_
  refine k_iconst K167 (1 : Int32) d_method_5_code_4 (pc' := 5) rfl rfl ?_
  refine k_istoreN K167 d_method_5_code_5 (pc' := 6) (L' := #[.val (.long x), .second, .val (.ref pa), .val (.int (1 : Int32))]) rfl rfl ?_
  refine k_iloadN K167 d_method_5_code_6 (pc' := 7) rfl rfl ?_
  refine k_lloadN K167 d_method_5_code_7 (pc' := 8) rfl rfl ?_
  refine k_aloadN K167 d_method_5_code_8 (pc' := 9) rfl rfl rfl ?_
  refine k_iconst K167 (1 : Int32) d_method_5_code_9 (pc' := 10) rfl rfl ?_
  refine k_laload K167 (j := (1 : Int32)) V_pa ⟨by decide, by decide⟩ rfl d_method_5_code_10 (pc' := 11) rfl ?_
  refine k_staticP K167 [(.long x), (.long (10 : Int64))] [(.int (1 : Int32))] 1 (w275 hw) (w276 hw) (w251 hw) (w277 hw) (by decide) pd__JJ_I_939 (c_more l Z a0 hw hEW n0 x (10 : Int64) n sg 1 h167 K167.old hx (by decide)) d_method_5_code_11 nofun (pc' := 14) rfl rfl rfl rfl (Nat.le_of_eq rfl) (by decide) (by decide) (by decide) (by decide) ?_
  intro b168 T168 L168 K168 tr168
  show Goes p_.tables e_ below_ _ (T168.setTop (mkF m_ 14 #[.val (.long x), .second, .val (.ref pa), .val (.int (1 : Int32))] [(.int (Int32.ofNat (if n < 10 ^ 1 then 0 else 1))), (.int (1 : Int32))]))
  refine k_iadd K168 d_method_5_code_14 (pc' := 15) rfl ?_
  rw [show ((1 : Int32) + (Int32.ofNat (if n < 10 ^ 1 then 0 else 1))) = (Int32.ofNat (min (szL n) (1 + 1))) from by rw [own_cnt1 n]; exact own_cntI n 1 (by decide) (by decide)]
  refine k_istoreN K168 d_method_5_code_15 (pc' := 16) (L' := #[.val (.long x), .second, .val (.ref pa), .val (.int (Int32.ofNat (min (szL n) (1 + 1))))]) rfl rfl ?_
  refine k_iloadN K168 d_method_5_code_16 (pc' := 17) rfl rfl ?_
  refine k_lloadN K168 d_method_5_code_17 (pc' := 18) rfl rfl ?_
  refine k_aloadN K168 d_method_5_code_18 (pc' := 19) rfl rfl rfl ?_
  refine k_iconst K168 (2 : Int32) d_method_5_code_19 (pc' := 20) rfl rfl ?_
  refine k_laload K168 (j := (2 : Int32)) V_pa ⟨by decide, by decide⟩ rfl d_method_5_code_20 (pc' := 21) rfl ?_
  refine k_staticP K168 [(.long x), (.long (100 : Int64))] [(.int (Int32.ofNat (min (szL n) (1 + 1))))] 1 (w275 hw) (w276 hw) (w251 hw) (w277 hw) (by decide) pd__JJ_I_939 (c_more l Z a0 hw hEW n0 x (100 : Int64) n sg 2 h167 K168.old hx (by decide)) d_method_5_code_21 nofun (pc' := 24) rfl rfl rfl rfl (Nat.le_of_eq rfl) (by decide) (by decide) (by decide) (by decide) ?_
  intro b169 T169 L169 K169 tr169
  show Goes p_.tables e_ below_ _ (T169.setTop (mkF m_ 24 #[.val (.long x), .second, .val (.ref pa), .val (.int (Int32.ofNat (min (szL n) (1 + 1))))] [(.int (Int32.ofNat (if n < 10 ^ 2 then 0 else 1))), (.int (Int32.ofNat (min (szL n) (1 + 1))))]))
  refine k_iadd K169 d_method_5_code_24 (pc' := 25) rfl ?_
  rw [show ((Int32.ofNat (min (szL n) (1 + 1))) + (Int32.ofNat (if n < 10 ^ 2 then 0 else 1))) = (Int32.ofNat (min (szL n) (2 + 1))) from own_cntI n 2 (by decide) (by decide)]
  refine k_istoreN K169 d_method_5_code_25 (pc' := 26) (L' := #[.val (.long x), .second, .val (.ref pa), .val (.int (Int32.ofNat (min (szL n) (2 + 1))))]) rfl rfl ?_
  refine k_iloadN K169 d_method_5_code_26 (pc' := 27) rfl rfl ?_
  refine k_lloadN K169 d_method_5_code_27 (pc' := 28) rfl rfl ?_
  refine k_aloadN K169 d_method_5_code_28 (pc' := 29) rfl rfl rfl ?_
  refine k_iconst K169 (3 : Int32) d_method_5_code_29 (pc' := 30) rfl rfl ?_
  refine k_laload K169 (j := (3 : Int32)) V_pa ⟨by decide, by decide⟩ rfl d_method_5_code_30 (pc' := 31) rfl ?_
  refine k_staticP K169 [(.long x), (.long (1000 : Int64))] [(.int (Int32.ofNat (min (szL n) (2 + 1))))] 1 (w275 hw) (w276 hw) (w251 hw) (w277 hw) (by decide) pd__JJ_I_939 (c_more l Z a0 hw hEW n0 x (1000 : Int64) n sg 3 h167 K169.old hx (by decide)) d_method_5_code_31 nofun (pc' := 34) rfl rfl rfl rfl (Nat.le_of_eq rfl) (by decide) (by decide) (by decide) (by decide) ?_
  intro b170 T170 L170 K170 tr170
  show Goes p_.tables e_ below_ _ (T170.setTop (mkF m_ 34 #[.val (.long x), .second, .val (.ref pa), .val (.int (Int32.ofNat (min (szL n) (2 + 1))))] [(.int (Int32.ofNat (if n < 10 ^ 3 then 0 else 1))), (.int (Int32.ofNat (min (szL n) (2 + 1))))]))
  refine k_iadd K170 d_method_5_code_34 (pc' := 35) rfl ?_
  rw [show ((Int32.ofNat (min (szL n) (2 + 1))) + (Int32.ofNat (if n < 10 ^ 3 then 0 else 1))) = (Int32.ofNat (min (szL n) (3 + 1))) from own_cntI n 3 (by decide) (by decide)]
  refine k_istoreN K170 d_method_5_code_35 (pc' := 36) (L' := #[.val (.long x), .second, .val (.ref pa), .val (.int (Int32.ofNat (min (szL n) (3 + 1))))]) rfl rfl ?_
  refine k_iloadN K170 d_method_5_code_36 (pc' := 37) rfl rfl ?_
  refine k_lloadN K170 d_method_5_code_37 (pc' := 38) rfl rfl ?_
  refine k_aloadN K170 d_method_5_code_38 (pc' := 39) rfl rfl rfl ?_
  refine k_iconst K170 (4 : Int32) d_method_5_code_39 (pc' := 40) rfl rfl ?_
  refine k_laload K170 (j := (4 : Int32)) V_pa ⟨by decide, by decide⟩ rfl d_method_5_code_40 (pc' := 41) rfl ?_
  refine k_staticP K170 [(.long x), (.long (10000 : Int64))] [(.int (Int32.ofNat (min (szL n) (3 + 1))))] 1 (w275 hw) (w276 hw) (w251 hw) (w277 hw) (by decide) pd__JJ_I_939 (c_more l Z a0 hw hEW n0 x (10000 : Int64) n sg 4 h167 K170.old hx (by decide)) d_method_5_code_41 nofun (pc' := 44) rfl rfl rfl rfl (Nat.le_of_eq rfl) (by decide) (by decide) (by decide) (by decide) ?_
  intro b171 T171 L171 K171 tr171
  show Goes p_.tables e_ below_ _ (T171.setTop (mkF m_ 44 #[.val (.long x), .second, .val (.ref pa), .val (.int (Int32.ofNat (min (szL n) (3 + 1))))] [(.int (Int32.ofNat (if n < 10 ^ 4 then 0 else 1))), (.int (Int32.ofNat (min (szL n) (3 + 1))))]))
  refine k_iadd K171 d_method_5_code_44 (pc' := 45) rfl ?_
  rw [show ((Int32.ofNat (min (szL n) (3 + 1))) + (Int32.ofNat (if n < 10 ^ 4 then 0 else 1))) = (Int32.ofNat (min (szL n) (4 + 1))) from own_cntI n 4 (by decide) (by decide)]
  refine k_istoreN K171 d_method_5_code_45 (pc' := 46) (L' := #[.val (.long x), .second, .val (.ref pa), .val (.int (Int32.ofNat (min (szL n) (4 + 1))))]) rfl rfl ?_
  refine k_iloadN K171 d_method_5_code_46 (pc' := 47) rfl rfl ?_
  refine k_lloadN K171 d_method_5_code_47 (pc' := 48) rfl rfl ?_
  refine k_aloadN K171 d_method_5_code_48 (pc' := 49) rfl rfl rfl ?_
  refine k_iconst K171 (5 : Int32) d_method_5_code_49 (pc' := 50) rfl rfl ?_
  refine k_laload K171 (j := (5 : Int32)) V_pa ⟨by decide, by decide⟩ rfl d_method_5_code_50 (pc' := 51) rfl ?_
  refine k_staticP K171 [(.long x), (.long (100000 : Int64))] [(.int (Int32.ofNat (min (szL n) (4 + 1))))] 1 (w275 hw) (w276 hw) (w251 hw) (w277 hw) (by decide) pd__JJ_I_939 (c_more l Z a0 hw hEW n0 x (100000 : Int64) n sg 5 h167 K171.old hx (by decide)) d_method_5_code_51 nofun (pc' := 54) rfl rfl rfl rfl (Nat.le_of_eq rfl) (by decide) (by decide) (by decide) (by decide) ?_
  intro b172 T172 L172 K172 tr172
  show Goes p_.tables e_ below_ _ (T172.setTop (mkF m_ 54 #[.val (.long x), .second, .val (.ref pa), .val (.int (Int32.ofNat (min (szL n) (4 + 1))))] [(.int (Int32.ofNat (if n < 10 ^ 5 then 0 else 1))), (.int (Int32.ofNat (min (szL n) (4 + 1))))]))
  refine k_iadd K172 d_method_5_code_54 (pc' := 55) rfl ?_
  rw [show ((Int32.ofNat (min (szL n) (4 + 1))) + (Int32.ofNat (if n < 10 ^ 5 then 0 else 1))) = (Int32.ofNat (min (szL n) (5 + 1))) from own_cntI n 5 (by decide) (by decide)]
  refine k_istoreN K172 d_method_5_code_55 (pc' := 56) (L' := #[.val (.long x), .second, .val (.ref pa), .val (.int (Int32.ofNat (min (szL n) (5 + 1))))]) rfl rfl ?_
  refine k_iloadN K172 d_method_5_code_56 (pc' := 57) rfl rfl ?_
  refine k_lloadN K172 d_method_5_code_57 (pc' := 58) rfl rfl ?_
  refine k_aloadN K172 d_method_5_code_58 (pc' := 59) rfl rfl rfl ?_
  refine k_bipush K172 (6 : Int32) d_method_5_code_59 (pc' := 61) rfl rfl ?_
  refine k_laload K172 (j := (6 : Int32)) V_pa ⟨by decide, by decide⟩ rfl d_method_5_code_61 (pc' := 62) rfl ?_
  refine k_staticP K172 [(.long x), (.long (1000000 : Int64))] [(.int (Int32.ofNat (min (szL n) (5 + 1))))] 1 (w275 hw) (w276 hw) (w251 hw) (w277 hw) (by decide) pd__JJ_I_939 (c_more l Z a0 hw hEW n0 x (1000000 : Int64) n sg 6 h167 K172.old hx (by decide)) d_method_5_code_62 nofun (pc' := 65) rfl rfl rfl rfl (Nat.le_of_eq rfl) (by decide) (by decide) (by decide) (by decide) ?_
  intro b173 T173 L173 K173 tr173
  show Goes p_.tables e_ below_ _ (T173.setTop (mkF m_ 65 #[.val (.long x), .second, .val (.ref pa), .val (.int (Int32.ofNat (min (szL n) (5 + 1))))] [(.int (Int32.ofNat (if n < 10 ^ 6 then 0 else 1))), (.int (Int32.ofNat (min (szL n) (5 + 1))))]))
  refine k_iadd K173 d_method_5_code_65 (pc' := 66) rfl ?_
  rw [show ((Int32.ofNat (min (szL n) (5 + 1))) + (Int32.ofNat (if n < 10 ^ 6 then 0 else 1))) = (Int32.ofNat (min (szL n) (6 + 1))) from own_cntI n 6 (by decide) (by decide)]
  refine k_istoreN K173 d_method_5_code_66 (pc' := 67) (L' := #[.val (.long x), .second, .val (.ref pa), .val (.int (Int32.ofNat (min (szL n) (6 + 1))))]) rfl rfl ?_
  refine k_iloadN K173 d_method_5_code_67 (pc' := 68) rfl rfl ?_
  refine k_lloadN K173 d_method_5_code_68 (pc' := 69) rfl rfl ?_
  refine k_aloadN K173 d_method_5_code_69 (pc' := 70) rfl rfl rfl ?_
  refine k_bipush K173 (7 : Int32) d_method_5_code_70 (pc' := 72) rfl rfl ?_
  refine k_laload K173 (j := (7 : Int32)) V_pa ⟨by decide, by decide⟩ rfl d_method_5_code_72 (pc' := 73) rfl ?_
  refine k_staticP K173 [(.long x), (.long (10000000 : Int64))] [(.int (Int32.ofNat (min (szL n) (6 + 1))))] 1 (w275 hw) (w276 hw) (w251 hw) (w277 hw) (by decide) pd__JJ_I_939 (c_more l Z a0 hw hEW n0 x (10000000 : Int64) n sg 7 h167 K173.old hx (by decide)) d_method_5_code_73 nofun (pc' := 76) rfl rfl rfl rfl (Nat.le_of_eq rfl) (by decide) (by decide) (by decide) (by decide) ?_
  intro b174 T174 L174 K174 tr174
  show Goes p_.tables e_ below_ _ (T174.setTop (mkF m_ 76 #[.val (.long x), .second, .val (.ref pa), .val (.int (Int32.ofNat (min (szL n) (6 + 1))))] [(.int (Int32.ofNat (if n < 10 ^ 7 then 0 else 1))), (.int (Int32.ofNat (min (szL n) (6 + 1))))]))
  refine k_iadd K174 d_method_5_code_76 (pc' := 77) rfl ?_
  rw [show ((Int32.ofNat (min (szL n) (6 + 1))) + (Int32.ofNat (if n < 10 ^ 7 then 0 else 1))) = (Int32.ofNat (min (szL n) (7 + 1))) from own_cntI n 7 (by decide) (by decide)]
  refine k_istoreN K174 d_method_5_code_77 (pc' := 78) (L' := #[.val (.long x), .second, .val (.ref pa), .val (.int (Int32.ofNat (min (szL n) (7 + 1))))]) rfl rfl ?_
  refine k_iloadN K174 d_method_5_code_78 (pc' := 79) rfl rfl ?_
  refine k_lloadN K174 d_method_5_code_79 (pc' := 80) rfl rfl ?_
  refine k_aloadN K174 d_method_5_code_80 (pc' := 81) rfl rfl rfl ?_
  refine k_bipush K174 (8 : Int32) d_method_5_code_81 (pc' := 83) rfl rfl ?_
  refine k_laload K174 (j := (8 : Int32)) V_pa ⟨by decide, by decide⟩ rfl d_method_5_code_83 (pc' := 84) rfl ?_
  refine k_staticP K174 [(.long x), (.long (100000000 : Int64))] [(.int (Int32.ofNat (min (szL n) (7 + 1))))] 1 (w275 hw) (w276 hw) (w251 hw) (w277 hw) (by decide) pd__JJ_I_939 (c_more l Z a0 hw hEW n0 x (100000000 : Int64) n sg 8 h167 K174.old hx (by decide)) d_method_5_code_84 nofun (pc' := 87) rfl rfl rfl rfl (Nat.le_of_eq rfl) (by decide) (by decide) (by decide) (by decide) ?_
  intro b175 T175 L175 K175 tr175
  show Goes p_.tables e_ below_ _ (T175.setTop (mkF m_ 87 #[.val (.long x), .second, .val (.ref pa), .val (.int (Int32.ofNat (min (szL n) (7 + 1))))] [(.int (Int32.ofNat (if n < 10 ^ 8 then 0 else 1))), (.int (Int32.ofNat (min (szL n) (7 + 1))))]))
  refine k_iadd K175 d_method_5_code_87 (pc' := 88) rfl ?_
  rw [show ((Int32.ofNat (min (szL n) (7 + 1))) + (Int32.ofNat (if n < 10 ^ 8 then 0 else 1))) = (Int32.ofNat (min (szL n) (8 + 1))) from own_cntI n 8 (by decide) (by decide)]
  refine k_istoreN K175 d_method_5_code_88 (pc' := 89) (L' := #[.val (.long x), .second, .val (.ref pa), .val (.int (Int32.ofNat (min (szL n) (8 + 1))))]) rfl rfl ?_
  refine k_iloadN K175 d_method_5_code_89 (pc' := 90) rfl rfl ?_
  refine k_lloadN K175 d_method_5_code_90 (pc' := 91) rfl rfl ?_
  refine k_aloadN K175 d_method_5_code_91 (pc' := 92) rfl rfl rfl ?_
  refine k_bipush K175 (9 : Int32) d_method_5_code_92 (pc' := 94) rfl rfl ?_
  refine k_laload K175 (j := (9 : Int32)) V_pa ⟨by decide, by decide⟩ rfl d_method_5_code_94 (pc' := 95) rfl ?_
  refine k_staticP K175 [(.long x), (.long (1000000000 : Int64))] [(.int (Int32.ofNat (min (szL n) (8 + 1))))] 1 (w275 hw) (w276 hw) (w251 hw) (w277 hw) (by decide) pd__JJ_I_939 (c_more l Z a0 hw hEW n0 x (1000000000 : Int64) n sg 9 h167 K175.old hx (by decide)) d_method_5_code_95 nofun (pc' := 98) rfl rfl rfl rfl (Nat.le_of_eq rfl) (by decide) (by decide) (by decide) (by decide) ?_
  intro b176 T176 L176 K176 tr176
  show Goes p_.tables e_ below_ _ (T176.setTop (mkF m_ 98 #[.val (.long x), .second, .val (.ref pa), .val (.int (Int32.ofNat (min (szL n) (8 + 1))))] [(.int (Int32.ofNat (if n < 10 ^ 9 then 0 else 1))), (.int (Int32.ofNat (min (szL n) (8 + 1))))]))
  refine k_iadd K176 d_method_5_code_98 (pc' := 99) rfl ?_
  rw [show ((Int32.ofNat (min (szL n) (8 + 1))) + (Int32.ofNat (if n < 10 ^ 9 then 0 else 1))) = (Int32.ofNat (min (szL n) (9 + 1))) from own_cntI n 9 (by decide) (by decide)]
  refine k_istoreN K176 d_method_5_code_99 (pc' := 100) (L' := #[.val (.long x), .second, .val (.ref pa), .val (.int (Int32.ofNat (min (szL n) (9 + 1))))]) rfl rfl ?_
  refine k_iloadN K176 d_method_5_code_100 (pc' := 101) rfl rfl ?_
  refine k_lloadN K176 d_method_5_code_101 (pc' := 102) rfl rfl ?_
  refine k_aloadN K176 d_method_5_code_102 (pc' := 103) rfl rfl rfl ?_
  refine k_bipush K176 (10 : Int32) d_method_5_code_103 (pc' := 105) rfl rfl ?_
  refine k_laload K176 (j := (10 : Int32)) V_pa ⟨by decide, by decide⟩ rfl d_method_5_code_105 (pc' := 106) rfl ?_
  refine k_staticP K176 [(.long x), (.long (10000000000 : Int64))] [(.int (Int32.ofNat (min (szL n) (9 + 1))))] 1 (w275 hw) (w276 hw) (w251 hw) (w277 hw) (by decide) pd__JJ_I_939 (c_more l Z a0 hw hEW n0 x (10000000000 : Int64) n sg 10 h167 K176.old hx (by decide)) d_method_5_code_106 nofun (pc' := 109) rfl rfl rfl rfl (Nat.le_of_eq rfl) (by decide) (by decide) (by decide) (by decide) ?_
  intro b177 T177 L177 K177 tr177
  show Goes p_.tables e_ below_ _ (T177.setTop (mkF m_ 109 #[.val (.long x), .second, .val (.ref pa), .val (.int (Int32.ofNat (min (szL n) (9 + 1))))] [(.int (Int32.ofNat (if n < 10 ^ 10 then 0 else 1))), (.int (Int32.ofNat (min (szL n) (9 + 1))))]))
  refine k_iadd K177 d_method_5_code_109 (pc' := 110) rfl ?_
  rw [show ((Int32.ofNat (min (szL n) (9 + 1))) + (Int32.ofNat (if n < 10 ^ 10 then 0 else 1))) = (Int32.ofNat (min (szL n) (10 + 1))) from own_cntI n 10 (by decide) (by decide)]
  refine k_istoreN K177 d_method_5_code_110 (pc' := 111) (L' := #[.val (.long x), .second, .val (.ref pa), .val (.int (Int32.ofNat (min (szL n) (10 + 1))))]) rfl rfl ?_
  refine k_iloadN K177 d_method_5_code_111 (pc' := 112) rfl rfl ?_
  refine k_lloadN K177 d_method_5_code_112 (pc' := 113) rfl rfl ?_
  refine k_aloadN K177 d_method_5_code_113 (pc' := 114) rfl rfl rfl ?_
  refine k_bipush K177 (11 : Int32) d_method_5_code_114 (pc' := 116) rfl rfl ?_
  refine k_laload K177 (j := (11 : Int32)) V_pa ⟨by decide, by decide⟩ rfl d_method_5_code_116 (pc' := 117) rfl ?_
  refine k_staticP K177 [(.long x), (.long (100000000000 : Int64))] [(.int (Int32.ofNat (min (szL n) (10 + 1))))] 1 (w275 hw) (w276 hw) (w251 hw) (w277 hw) (by decide) pd__JJ_I_939 (c_more l Z a0 hw hEW n0 x (100000000000 : Int64) n sg 11 h167 K177.old hx (by decide)) d_method_5_code_117 nofun (pc' := 120) rfl rfl rfl rfl (Nat.le_of_eq rfl) (by decide) (by decide) (by decide) (by decide) ?_
  intro b178 T178 L178 K178 tr178
  show Goes p_.tables e_ below_ _ (T178.setTop (mkF m_ 120 #[.val (.long x), .second, .val (.ref pa), .val (.int (Int32.ofNat (min (szL n) (10 + 1))))] [(.int (Int32.ofNat (if n < 10 ^ 11 then 0 else 1))), (.int (Int32.ofNat (min (szL n) (10 + 1))))]))
  refine k_iadd K178 d_method_5_code_120 (pc' := 121) rfl ?_
  rw [show ((Int32.ofNat (min (szL n) (10 + 1))) + (Int32.ofNat (if n < 10 ^ 11 then 0 else 1))) = (Int32.ofNat (min (szL n) (11 + 1))) from own_cntI n 11 (by decide) (by decide)]
  refine k_istoreN K178 d_method_5_code_121 (pc' := 122) (L' := #[.val (.long x), .second, .val (.ref pa), .val (.int (Int32.ofNat (min (szL n) (11 + 1))))]) rfl rfl ?_
  refine k_iloadN K178 d_method_5_code_122 (pc' := 123) rfl rfl ?_
  refine k_lloadN K178 d_method_5_code_123 (pc' := 124) rfl rfl ?_
  refine k_aloadN K178 d_method_5_code_124 (pc' := 125) rfl rfl rfl ?_
  refine k_bipush K178 (12 : Int32) d_method_5_code_125 (pc' := 127) rfl rfl ?_
  refine k_laload K178 (j := (12 : Int32)) V_pa ⟨by decide, by decide⟩ rfl d_method_5_code_127 (pc' := 128) rfl ?_
  refine k_staticP K178 [(.long x), (.long (1000000000000 : Int64))] [(.int (Int32.ofNat (min (szL n) (11 + 1))))] 1 (w275 hw) (w276 hw) (w251 hw) (w277 hw) (by decide) pd__JJ_I_939 (c_more l Z a0 hw hEW n0 x (1000000000000 : Int64) n sg 12 h167 K178.old hx (by decide)) d_method_5_code_128 nofun (pc' := 131) rfl rfl rfl rfl (Nat.le_of_eq rfl) (by decide) (by decide) (by decide) (by decide) ?_
  intro b179 T179 L179 K179 tr179
  show Goes p_.tables e_ below_ _ (T179.setTop (mkF m_ 131 #[.val (.long x), .second, .val (.ref pa), .val (.int (Int32.ofNat (min (szL n) (11 + 1))))] [(.int (Int32.ofNat (if n < 10 ^ 12 then 0 else 1))), (.int (Int32.ofNat (min (szL n) (11 + 1))))]))
  refine k_iadd K179 d_method_5_code_131 (pc' := 132) rfl ?_
  rw [show ((Int32.ofNat (min (szL n) (11 + 1))) + (Int32.ofNat (if n < 10 ^ 12 then 0 else 1))) = (Int32.ofNat (min (szL n) (12 + 1))) from own_cntI n 12 (by decide) (by decide)]
  refine k_istoreN K179 d_method_5_code_132 (pc' := 133) (L' := #[.val (.long x), .second, .val (.ref pa), .val (.int (Int32.ofNat (min (szL n) (12 + 1))))]) rfl rfl ?_
  refine k_iloadN K179 d_method_5_code_133 (pc' := 134) rfl rfl ?_
  refine k_lloadN K179 d_method_5_code_134 (pc' := 135) rfl rfl ?_
  refine k_aloadN K179 d_method_5_code_135 (pc' := 136) rfl rfl rfl ?_
  refine k_bipush K179 (13 : Int32) d_method_5_code_136 (pc' := 138) rfl rfl ?_
  refine k_laload K179 (j := (13 : Int32)) V_pa ⟨by decide, by decide⟩ rfl d_method_5_code_138 (pc' := 139) rfl ?_
  refine k_staticP K179 [(.long x), (.long (10000000000000 : Int64))] [(.int (Int32.ofNat (min (szL n) (12 + 1))))] 1 (w275 hw) (w276 hw) (w251 hw) (w277 hw) (by decide) pd__JJ_I_939 (c_more l Z a0 hw hEW n0 x (10000000000000 : Int64) n sg 13 h167 K179.old hx (by decide)) d_method_5_code_139 nofun (pc' := 142) rfl rfl rfl rfl (Nat.le_of_eq rfl) (by decide) (by decide) (by decide) (by decide) ?_
  intro b180 T180 L180 K180 tr180
  show Goes p_.tables e_ below_ _ (T180.setTop (mkF m_ 142 #[.val (.long x), .second, .val (.ref pa), .val (.int (Int32.ofNat (min (szL n) (12 + 1))))] [(.int (Int32.ofNat (if n < 10 ^ 13 then 0 else 1))), (.int (Int32.ofNat (min (szL n) (12 + 1))))]))
  refine k_iadd K180 d_method_5_code_142 (pc' := 143) rfl ?_
  rw [show ((Int32.ofNat (min (szL n) (12 + 1))) + (Int32.ofNat (if n < 10 ^ 13 then 0 else 1))) = (Int32.ofNat (min (szL n) (13 + 1))) from own_cntI n 13 (by decide) (by decide)]
  refine k_istoreN K180 d_method_5_code_143 (pc' := 144) (L' := #[.val (.long x), .second, .val (.ref pa), .val (.int (Int32.ofNat (min (szL n) (13 + 1))))]) rfl rfl ?_
  refine k_iloadN K180 d_method_5_code_144 (pc' := 145) rfl rfl ?_
  refine k_lloadN K180 d_method_5_code_145 (pc' := 146) rfl rfl ?_
  refine k_aloadN K180 d_method_5_code_146 (pc' := 147) rfl rfl rfl ?_
  refine k_bipush K180 (14 : Int32) d_method_5_code_147 (pc' := 149) rfl rfl ?_
  refine k_laload K180 (j := (14 : Int32)) V_pa ⟨by decide, by decide⟩ rfl d_method_5_code_149 (pc' := 150) rfl ?_
  refine k_staticP K180 [(.long x), (.long (100000000000000 : Int64))] [(.int (Int32.ofNat (min (szL n) (13 + 1))))] 1 (w275 hw) (w276 hw) (w251 hw) (w277 hw) (by decide) pd__JJ_I_939 (c_more l Z a0 hw hEW n0 x (100000000000000 : Int64) n sg 14 h167 K180.old hx (by decide)) d_method_5_code_150 nofun (pc' := 153) rfl rfl rfl rfl (Nat.le_of_eq rfl) (by decide) (by decide) (by decide) (by decide) ?_
  intro b181 T181 L181 K181 tr181
  show Goes p_.tables e_ below_ _ (T181.setTop (mkF m_ 153 #[.val (.long x), .second, .val (.ref pa), .val (.int (Int32.ofNat (min (szL n) (13 + 1))))] [(.int (Int32.ofNat (if n < 10 ^ 14 then 0 else 1))), (.int (Int32.ofNat (min (szL n) (13 + 1))))]))
  refine k_iadd K181 d_method_5_code_153 (pc' := 154) rfl ?_
  rw [show ((Int32.ofNat (min (szL n) (13 + 1))) + (Int32.ofNat (if n < 10 ^ 14 then 0 else 1))) = (Int32.ofNat (min (szL n) (14 + 1))) from own_cntI n 14 (by decide) (by decide)]
  refine k_istoreN K181 d_method_5_code_154 (pc' := 155) (L' := #[.val (.long x), .second, .val (.ref pa), .val (.int (Int32.ofNat (min (szL n) (14 + 1))))]) rfl rfl ?_
  refine k_iloadN K181 d_method_5_code_155 (pc' := 156) rfl rfl ?_
  refine k_lloadN K181 d_method_5_code_156 (pc' := 157) rfl rfl ?_
  refine k_aloadN K181 d_method_5_code_157 (pc' := 158) rfl rfl rfl ?_
  refine k_bipush K181 (15 : Int32) d_method_5_code_158 (pc' := 160) rfl rfl ?_
  refine k_laload K181 (j := (15 : Int32)) V_pa ⟨by decide, by decide⟩ rfl d_method_5_code_160 (pc' := 161) rfl ?_
  refine k_staticP K181 [(.long x), (.long (1000000000000000 : Int64))] [(.int (Int32.ofNat (min (szL n) (14 + 1))))] 1 (w275 hw) (w276 hw) (w251 hw) (w277 hw) (by decide) pd__JJ_I_939 (c_more l Z a0 hw hEW n0 x (1000000000000000 : Int64) n sg 15 h167 K181.old hx (by decide)) d_method_5_code_161 nofun (pc' := 164) rfl rfl rfl rfl (Nat.le_of_eq rfl) (by decide) (by decide) (by decide) (by decide) ?_
  intro b182 T182 L182 K182 tr182
  show Goes p_.tables e_ below_ _ (T182.setTop (mkF m_ 164 #[.val (.long x), .second, .val (.ref pa), .val (.int (Int32.ofNat (min (szL n) (14 + 1))))] [(.int (Int32.ofNat (if n < 10 ^ 15 then 0 else 1))), (.int (Int32.ofNat (min (szL n) (14 + 1))))]))
  refine k_iadd K182 d_method_5_code_164 (pc' := 165) rfl ?_
  rw [show ((Int32.ofNat (min (szL n) (14 + 1))) + (Int32.ofNat (if n < 10 ^ 15 then 0 else 1))) = (Int32.ofNat (min (szL n) (15 + 1))) from own_cntI n 15 (by decide) (by decide)]
  refine k_istoreN K182 d_method_5_code_165 (pc' := 166) (L' := #[.val (.long x), .second, .val (.ref pa), .val (.int (Int32.ofNat (min (szL n) (15 + 1))))]) rfl rfl ?_
  refine k_iloadN K182 d_method_5_code_166 (pc' := 167) rfl rfl ?_
  refine k_lloadN K182 d_method_5_code_167 (pc' := 168) rfl rfl ?_
  refine k_aloadN K182 d_method_5_code_168 (pc' := 169) rfl rfl rfl ?_
  refine k_bipush K182 (16 : Int32) d_method_5_code_169 (pc' := 171) rfl rfl ?_
  refine k_laload K182 (j := (16 : Int32)) V_pa ⟨by decide, by decide⟩ rfl d_method_5_code_171 (pc' := 172) rfl ?_
  refine k_staticP K182 [(.long x), (.long (10000000000000000 : Int64))] [(.int (Int32.ofNat (min (szL n) (15 + 1))))] 1 (w275 hw) (w276 hw) (w251 hw) (w277 hw) (by decide) pd__JJ_I_939 (c_more l Z a0 hw hEW n0 x (10000000000000000 : Int64) n sg 16 h167 K182.old hx (by decide)) d_method_5_code_172 nofun (pc' := 175) rfl rfl rfl rfl (Nat.le_of_eq rfl) (by decide) (by decide) (by decide) (by decide) ?_
  intro b183 T183 L183 K183 tr183
  show Goes p_.tables e_ below_ _ (T183.setTop (mkF m_ 175 #[.val (.long x), .second, .val (.ref pa), .val (.int (Int32.ofNat (min (szL n) (15 + 1))))] [(.int (Int32.ofNat (if n < 10 ^ 16 then 0 else 1))), (.int (Int32.ofNat (min (szL n) (15 + 1))))]))
  refine k_iadd K183 d_method_5_code_175 (pc' := 176) rfl ?_
  rw [show ((Int32.ofNat (min (szL n) (15 + 1))) + (Int32.ofNat (if n < 10 ^ 16 then 0 else 1))) = (Int32.ofNat (min (szL n) (16 + 1))) from own_cntI n 16 (by decide) (by decide)]
  refine k_istoreN K183 d_method_5_code_176 (pc' := 177) (L' := #[.val (.long x), .second, .val (.ref pa), .val (.int (Int32.ofNat (min (szL n) (16 + 1))))]) rfl rfl ?_
  refine k_iloadN K183 d_method_5_code_177 (pc' := 178) rfl rfl ?_
  refine k_lloadN K183 d_method_5_code_178 (pc' := 179) rfl rfl ?_
  refine k_aloadN K183 d_method_5_code_179 (pc' := 180) rfl rfl rfl ?_
  refine k_bipush K183 (17 : Int32) d_method_5_code_180 (pc' := 182) rfl rfl ?_
  refine k_laload K183 (j := (17 : Int32)) V_pa ⟨by decide, by decide⟩ rfl d_method_5_code_182 (pc' := 183) rfl ?_
  refine k_staticP K183 [(.long x), (.long (100000000000000000 : Int64))] [(.int (Int32.ofNat (min (szL n) (16 + 1))))] 1 (w275 hw) (w276 hw) (w251 hw) (w277 hw) (by decide) pd__JJ_I_939 (c_more l Z a0 hw hEW n0 x (100000000000000000 : Int64) n sg 17 h167 K183.old hx (by decide)) d_method_5_code_183 nofun (pc' := 186) rfl rfl rfl rfl (Nat.le_of_eq rfl) (by decide) (by decide) (by decide) (by decide) ?_
  intro b184 T184 L184 K184 tr184
  show Goes p_.tables e_ below_ _ (T184.setTop (mkF m_ 186 #[.val (.long x), .second, .val (.ref pa), .val (.int (Int32.ofNat (min (szL n) (16 + 1))))] [(.int (Int32.ofNat (if n < 10 ^ 17 then 0 else 1))), (.int (Int32.ofNat (min (szL n) (16 + 1))))]))
  refine k_iadd K184 d_method_5_code_186 (pc' := 187) rfl ?_
  rw [show ((Int32.ofNat (min (szL n) (16 + 1))) + (Int32.ofNat (if n < 10 ^ 17 then 0 else 1))) = (Int32.ofNat (min (szL n) (17 + 1))) from own_cntI n 17 (by decide) (by decide)]
  refine k_istoreN K184 d_method_5_code_187 (pc' := 188) (L' := #[.val (.long x), .second, .val (.ref pa), .val (.int (Int32.ofNat (min (szL n) (17 + 1))))]) rfl rfl ?_
  refine k_iloadN K184 d_method_5_code_188 (pc' := 189) rfl rfl ?_
  refine k_lloadN K184 d_method_5_code_189 (pc' := 190) rfl rfl ?_
  refine k_aloadN K184 d_method_5_code_190 (pc' := 191) rfl rfl rfl ?_
  refine k_bipush K184 (18 : Int32) d_method_5_code_191 (pc' := 193) rfl rfl ?_
  refine k_laload K184 (j := (18 : Int32)) V_pa ⟨by decide, by decide⟩ rfl d_method_5_code_193 (pc' := 194) rfl ?_
  refine k_staticP K184 [(.long x), (.long (1000000000000000000 : Int64))] [(.int (Int32.ofNat (min (szL n) (17 + 1))))] 1 (w275 hw) (w276 hw) (w251 hw) (w277 hw) (by decide) pd__JJ_I_939 (c_more l Z a0 hw hEW n0 x (1000000000000000000 : Int64) n sg 18 h167 K184.old hx (by decide)) d_method_5_code_194 nofun (pc' := 197) rfl rfl rfl rfl (Nat.le_of_eq rfl) (by decide) (by decide) (by decide) (by decide) ?_
  intro b185 T185 L185 K185 tr185
  show Goes p_.tables e_ below_ _ (T185.setTop (mkF m_ 197 #[.val (.long x), .second, .val (.ref pa), .val (.int (Int32.ofNat (min (szL n) (17 + 1))))] [(.int (Int32.ofNat (if n < 10 ^ 18 then 0 else 1))), (.int (Int32.ofNat (min (szL n) (17 + 1))))]))
  refine k_iadd K185 d_method_5_code_197 (pc' := 198) rfl ?_
  rw [show ((Int32.ofNat (min (szL n) (17 + 1))) + (Int32.ofNat (if n < 10 ^ 18 then 0 else 1))) = (Int32.ofNat (min (szL n) (18 + 1))) from own_cntI n 18 (by decide) (by decide)]
  refine k_istoreN K185 d_method_5_code_198 (pc' := 199) (L' := #[.val (.long x), .second, .val (.ref pa), .val (.int (Int32.ofNat (min (szL n) (18 + 1))))]) rfl rfl ?_
  refine k_iloadN K185 d_method_5_code_199 (pc' := 200) rfl rfl ?_
  exact k_iret K185 d_method_5_code_200 rfl (fun sf ht => ⟨by rw [show min (szL n) (18 + 1) = szL n by have := (szL_b n).2; omega], KP⟩) (by decide) (by decide)
theorem d_method_6_code_0 : decode method_6_code 0 = .ok (.iload 5, 2) := by decide +kernel
theorem d_method_6_code_2 : decode method_6_code 2 = .ok (.iload 6, 2) := by decide +kernel
theorem d_method_6_code_4 : decode method_6_code 4 = .ok (.if_icmp .lt 5, 3) := by decide +kernel
theorem d_jdk_29_method_61_code_0 : decode jdk_29_method_61_code 0 = .ok (.lload_n 0, 1) := by decide +kernel
theorem d_jdk_29_method_61_code_1 : decode jdk_29_method_61_code 1 = .ok (.lconst 0, 1) := by decide +kernel
theorem d_jdk_29_method_61_code_2 : decode jdk_29_method_61_code 2 = .ok (.lcmp, 1) := by decide +kernel
theorem d_jdk_29_method_61_code_3 : decode jdk_29_method_61_code 3 = .ok (.ifCond .ge 8, 3) := by decide +kernel
theorem d_jdk_29_method_61_code_11 : decode jdk_29_method_61_code 11 = .ok (.lload_n 0, 1) := by decide +kernel
theorem d_jdk_29_method_61_code_12 : decode jdk_29_method_61_code 12 = .ok (.lreturn, 1) := by decide +kernel
theorem d_jdk_29_method_61_code_6 : decode jdk_29_method_61_code 6 = .ok (.lload_n 0, 1) := by decide +kernel
theorem d_jdk_29_method_61_code_7 : decode jdk_29_method_61_code 7 = .ok (.lneg, 1) := by decide +kernel
theorem d_jdk_29_method_61_code_8 : decode jdk_29_method_61_code 8 = .ok (.goto 4, 3) := by decide +kernel
set_option maxRecDepth 65536 in
set_option maxHeartbeats 40000000 in
theorem c_abs (l : Launch) (Z : State) (a0 : Array Value) (hw : Tb a0 Z) (hEW : EW Z a0 EL0) (n0 : Nat) (x : Int64) (h0 : Heap) (O : Old Z n0 h0)  :
    Ct l Z EL0 n0 (⟨"java/lang/Math", "abs", "(J)J"⟩ : MethodName) jdk_29_method_61_code 2 (some .long) ({ frames := 0, cells := 0, slots := 0, locals := 0 } : Room) #[(.long x)] h0 [] (Pu (some (.long (if x < 0 then -x else x))) h0) := by
  refine Ct.of (a0 := a0) #[.val (.long x), .second] hEW O (Jvm.Free.JP.mathPlain rfl (by decide +kernel)) (fun m => by first | (simp [entryFrame, mkF, argsToLocals, Value.category]; done) | rfl) ?_
  intro p_ e_ s_ m_ below_ meth_ c_ b_ T_ K hSP hsh
  refine k_lloadN K d_jdk_29_method_61_code_0 (pc' := 1) rfl rfl ?_
  refine k_lconst K (0 : Int64) d_jdk_29_method_61_code_1 (pc' := 2) rfl rfl ?_
  refine k_lcmp K d_jdk_29_method_61_code_2 (pc' := 3) rfl ?_
  refine k_lif_ge K d_jdk_29_method_61_code_3 (by decide) (pc' := 11) (pc2 := 6) (by decide) rfl (fun hc3 => ?_) (fun hc3 => ?_)
  · refine k_lloadN K d_jdk_29_method_61_code_11 (pc' := 12) rfl rfl ?_
    exact k_lret K d_jdk_29_method_61_code_12 rfl (fun sf ht => ⟨by rw [if_neg hc3], rfl⟩) (by decide) (by decide)
  · refine k_lloadN K d_jdk_29_method_61_code_6 (pc' := 7) rfl rfl ?_
    refine k_lneg K d_jdk_29_method_61_code_7 (pc' := 8) rfl ?_
    refine k_goto K d_jdk_29_method_61_code_8 (by decide) (pc' := 12) (by decide) ?_
    exact k_lret K d_jdk_29_method_61_code_12 rfl (fun sf ht => ⟨by rw [if_pos hc3], rfl⟩) (by decide) (by decide)
theorem d_method_6_code_9 : decode method_6_code 9 = .ok (.lload_n 2, 1) := by decide +kernel
theorem d_method_6_code_10 : decode method_6_code 10 = .ok (.aload 4, 2) := by decide +kernel
theorem d_method_6_code_12 : decode method_6_code 12 = .ok (.iload 5, 2) := by decide +kernel
theorem d_method_6_code_14 : decode method_6_code 14 = .ok (.laload, 1) := by decide +kernel
theorem d_method_6_code_15 : decode method_6_code 15 = .ok (.ldiv, 1) := by decide +kernel
theorem d_method_6_code_16 : decode method_6_code 16 = .ok (.ldc2_w 62, 3) := by decide +kernel
theorem d_method_6_code_19 : decode method_6_code 19 = .ok (.lrem, 1) := by decide +kernel
theorem d_method_6_code_20 : decode method_6_code 20 = .ok (.invokestatic 106, 3) := by decide +kernel
theorem w313 {Z : State} {a0 : Array Value} (hw : Tb a0 Z) : (Jvm.Cond.methodLink "com/example/warm_tariff/warmtariff/UndecodableGetMessagePinLaw" (106 : Nat) ({ cls := "java/lang/Math", name := "abs", desc := "(J)J" } : Jvm.MethodName)).before a0 Z = true := hw _ (List.mem_of_getElem? (i := 313) rfl)
theorem w315 {Z : State} {a0 : Array Value} (hw : Tb a0 Z) : (Jvm.Cond.code ({ cls := "java/lang/Math", name := "abs", desc := "(J)J" } : Jvm.MethodName) jdk_29_method_61_code (2 : Nat) (Option.some Jvm.ClassFile.FieldType.long)).before a0 Z = true := hw _ (List.mem_of_getElem? (i := 315) rfl)
theorem w314 {Z : State} {a0 : Array Value} (hw : Tb a0 Z) : (Jvm.Cond.static ({ cls := "java/lang/Math", name := "abs", desc := "(J)J" } : Jvm.MethodName)).before a0 Z = true := hw _ (List.mem_of_getElem? (i := 314) rfl)
theorem pd__J_J_607 : parseMethodDescriptor "(J)J" = some ⟨[.long], some .long⟩ := by decide +kernel
theorem d_method_6_code_23 : decode method_6_code 23 = .ok (.l2i, 1) := by decide +kernel
theorem d_method_6_code_24 : decode method_6_code 24 = .ok (.istore 7, 2) := by decide +kernel
theorem d_method_6_code_26 : decode method_6_code 26 = .ok (.aload_n 0, 1) := by decide +kernel
theorem d_method_6_code_27 : decode method_6_code 27 = .ok (.iload_n 1, 1) := by decide +kernel
theorem d_method_6_code_28 : decode method_6_code 28 = .ok (.iload 5, 2) := by decide +kernel
theorem d_method_6_code_30 : decode method_6_code 30 = .ok (.isub, 1) := by decide +kernel
theorem d_method_6_code_31 : decode method_6_code 31 = .ok (.invokevirtual 50, 3) := by decide +kernel
theorem d_method_6_code_34 : decode method_6_code 34 = .ok (.bipush 48, 2) := by decide +kernel
theorem d_method_6_code_36 : decode method_6_code 36 = .ok (.iload 7, 2) := by decide +kernel
theorem d_method_6_code_38 : decode method_6_code 38 = .ok (.iadd, 1) := by decide +kernel
theorem d_method_6_code_39 : decode method_6_code 39 = .ok (.i2c, 1) := by decide +kernel
theorem d_method_6_code_40 : decode method_6_code 40 = .ok (.if_icmp .ne 7, 3) := by decide +kernel
theorem d_method_6_code_43 : decode method_6_code 43 = .ok (.iconst 1, 1) := by decide +kernel
theorem d_method_6_code_44 : decode method_6_code 44 = .ok (.goto 4, 3) := by decide +kernel
theorem d_method_6_code_48 : decode method_6_code 48 = .ok (.ireturn, 1) := by decide +kernel
theorem d_method_6_code_7 : decode method_6_code 7 = .ok (.iconst 1, 1) := by decide +kernel
theorem d_method_6_code_8 : decode method_6_code 8 = .ok (.ireturn, 1) := by decide +kernel
set_option maxRecDepth 65536 in
set_option maxHeartbeats 40000000 in
theorem c_d (l : Launch) (Z : State) (a0 : Array Value) (hw : Tb a0 Z) (hEW : EW Z a0 EL0) (n0 : Nat) (a t : Addr) (kt : ClassId) (xs : List Int32) (ff : Value) (cs0 : Int32) (eI kI : Int32) (x P : Int64) (pa : Addr) (kp : ClassId) (n sg sn kk : Nat) (h0 : Heap) (O : Old Z n0 h0) (SF : Sta Z Z.heap "jdk/internal/util/Preconditions" "SIOOBE_FORMATTER" "Ljava/util/function/BiFunction;" ff) (hff : ff.isRef = true) (S : Str Z h0 a t kt 0 (Int32.ofNat xs.length) (xs.map Value.int)) (hl7 : xs.length ≤ 70) (hax : ∀ x ∈ xs, 0 ≤ x.toInt ∧ x.toInt < 128) (hx : Sg x n sg) (hfit : sn + szL n ≤ xs.length) (hdg : ∀ k, k < szL n → xs.getD (sn + szL n - 1 - k) 0 = dig n k) (V_pa : Arv Z h0 pa kp .long 19 (PW.map Value.long) (.long 0)) (hen : eI.toInt = (sn + szL n - 1 : Nat)) (hk : kI.toInt = kk) (hk18 : kk ≤ 18) (hP : P.toInt = (10 ^ kk : Nat)) (hPv : (PW.map Value.long).getD kI.toNatClampNeg (.long 0) = .long P) (SC : Sta Z Z.heap "java/lang/String" "COMPACT_STRINGS" "Z" (.int cs0)) (hcs : ¬ cs0 = 0) :
    Ct l Z EL0 n0 (⟨"com/example/warm_tariff/warmtariff/UndecodableGetMessagePinLaw", "d", "(Ljava/lang/String;IJ[JII)Z"⟩ : MethodName) method_6_code 8 (some .boolean) ({ frames := 4, cells := 0, slots := 0, locals := 53 } : Room) #[(.ref a), (.int eI), (.long x), (.ref pa), (.int kI), (.int (Int32.ofNat (szL n)))] h0 [] (Pu (some (.int 1)) h0) := by
  refine Ct.of (a0 := a0) #[.val (.ref a), .val (.int eI), .val (.long x), .second, .val (.ref pa), .val (.int kI), .val (.int (Int32.ofNat (szL n))), .unset] hEW O (plainFor_of_name pl_com_example_warm_tariff_warmtariff_UndecodableGetMessagePinLaw) (fun m => by first | (simp [entryFrame, mkF, argsToLocals, Value.category]; done) | rfl) ?_
  intro p_ e_ s_ m_ below_ meth_ c_ b_ T_ K hSP hsh
  have hsz := szL_b n
  have hso := own_of (n := szL n) (by omega)
  refine k_iload K d_method_6_code_0 (pc' := 2) rfl rfl ?_
  refine k_iload K d_method_6_code_2 (pc' := 4) rfl rfl ?_
  refine k_icmp_lt K d_method_6_code_4 (by decide) (pc' := 9) (pc2 := 7) (by decide) rfl (fun hc4 => ?_) (fun hc4 => ?_)
  · have hlt : kk < szL n := by rw [own_i32, hk, hso] at hc4; omega
    refine k_lloadN K d_method_6_code_9 (pc' := 10) rfl rfl ?_
    refine k_aload K d_method_6_code_10 (pc' := 12) rfl rfl rfl ?_
    refine k_iload K d_method_6_code_12 (pc' := 14) rfl rfl ?_
    refine k_laload K (j := kI) V_pa (own_in hk (show (19 : Int32).toInt = (19 : Nat) by decide) (by omega)) hPv d_method_6_code_14 (pc' := 15) rfl ?_
    refine k_ldiv K d_method_6_code_15 (pc' := 16) rfl (fun q => by have h1 := Nat.pow_pos (n := kk) (show 0 < 10 by decide); rw [q, own_00] at hP; omega) ?_
    refine k_ldcJ K (w257 hw) d_method_6_code_16 (pc' := 19) rfl ?_
    refine k_lrem K d_method_6_code_19 (pc' := 20) rfl (by decide) ?_
    refine k_staticP K [(.long ((x / P) - ((x / P) / (10 : Int64)) * (10 : Int64)))] [] 0 (w313 hw) (w314 hw) (w198 hw) (w315 hw) (by decide) pd__J_J_607 (c_abs l Z a0 hw hEW n0 ((x / P) - ((x / P) / (10 : Int64)) * (10 : Int64)) h0 K.old ) d_method_6_code_20 nofun (pc' := 23) rfl rfl rfl rfl (Nat.le_of_eq rfl) (by decide) (by decide) (by decide) (by decide) ?_
    intro b186 T186 L186 K186 tr186
    show Goes p_.tables e_ below_ _ (T186.setTop (mkF m_ 23 #[.val (.ref a), .val (.int eI), .val (.long x), .second, .val (.ref pa), .val (.int kI), .val (.int (Int32.ofNat (szL n))), .unset] [(.long (if ((x / P) - ((x / P) / (10 : Int64)) * (10 : Int64)) < 0 then -((x / P) - ((x / P) / (10 : Int64)) * (10 : Int64)) else ((x / P) - ((x / P) / (10 : Int64)) * (10 : Int64))))]))
    refine k_l2i K186 d_method_6_code_23 (pc' := 24) rfl ?_
    refine k_istore K186 d_method_6_code_24 (pc' := 26) (L' := #[.val (.ref a), .val (.int eI), .val (.long x), .second, .val (.ref pa), .val (.int kI), .val (.int (Int32.ofNat (szL n))), .val (.int ((if ((x / P) - ((x / P) / (10 : Int64)) * (10 : Int64)) < 0 then -((x / P) - ((x / P) / (10 : Int64)) * (10 : Int64)) else ((x / P) - ((x / P) / (10 : Int64)) * (10 : Int64))).toInt32))]) rfl rfl ?_
    refine k_aloadN K186 d_method_6_code_26 (pc' := 27) rfl rfl rfl ?_
    refine k_iloadN K186 d_method_6_code_27 (pc' := 28) rfl rfl ?_
    refine k_iload K186 d_method_6_code_28 (pc' := 30) rfl rfl ?_
    refine k_isub K186 d_method_6_code_30 (pc' := 31) rfl ?_
    have hix := own_sub hen hk (by omega) (by omega)
    have h1 : sn + szL n - 1 - kk < xs.length := by omega
    refine k_virtualP K186 [(.int (eI - kI))] [] 0 (w285 hw) (w286 hw) (w287 hw) (w288 hw) (w98 hw) (w289 hw) (notFace_of_selects (args := #[]) (mvT K186.hZ (w288 hw))) rfl (by decide) S.1 (by decide) pd__I_C_577 (c_charAtB l Z a0 hw hEW n0 a t kt xs ff cs0 (eI - kI) (sn + szL n - 1 - kk) h0 K186.old SF hff S hl7 hax hix h1 SC hcs) d_method_6_code_31 nofun (pc' := 34) rfl rfl rfl rfl (Nat.le_of_eq rfl) (by decide) (by decide) (by decide) (by decide) ?_
    intro b187 T187 L187 K187 tr187
    show Goes p_.tables e_ below_ _ (T187.setTop (mkF m_ 34 #[.val (.ref a), .val (.int eI), .val (.long x), .second, .val (.ref pa), .val (.int kI), .val (.int (Int32.ofNat (szL n))), .val (.int ((if ((x / P) - ((x / P) / (10 : Int64)) * (10 : Int64)) < 0 then -((x / P) - ((x / P) / (10 : Int64)) * (10 : Int64)) else ((x / P) - ((x / P) / (10 : Int64)) * (10 : Int64))).toInt32))] [(.int (xs[sn + szL n - 1 - kk]'h1))]))
    refine k_bipush K187 (48 : Int32) d_method_6_code_34 (pc' := 36) rfl rfl ?_
    refine k_iload K187 d_method_6_code_36 (pc' := 38) rfl rfl ?_
    refine k_iadd K187 d_method_6_code_38 (pc' := 39) rfl ?_
    refine k_i2c K187 d_method_6_code_39 (pc' := 40) rfl ?_
    refine k_icmp_ne K187 d_method_6_code_40 (by decide) (pc' := 47) (pc2 := 43) (by decide) rfl (fun q => absurd (by rw [own_get h1 (hdg kk hlt)]; exact (own_digL hx hP).symm) q) (fun hc40 => ?_)
    refine k_iconst K187 (1 : Int32) d_method_6_code_43 (pc' := 44) rfl rfl ?_
    refine k_goto K187 d_method_6_code_44 (by decide) (pc' := 48) (by decide) ?_
    exact k_nret K187 d_method_6_code_48 rfl (by simp) rfl (fun sf ht => ⟨rfl, rfl⟩) (by decide) (by decide)
  · refine k_iconst K (1 : Int32) d_method_6_code_7 (pc' := 8) rfl rfl ?_
    exact k_nret K d_method_6_code_8 rfl (by simp) rfl (fun sf ht => ⟨rfl, rfl⟩) (by decide) (by decide)
theorem d_method_7_code_0 : decode method_7_code 0 = .ok (.invokestatic 98, 3) := by decide +kernel
theorem d_method_7_code_3 : decode method_7_code 3 = .ok (.astore 5, 2) := by decide +kernel
theorem d_method_7_code_5 : decode method_7_code 5 = .ok (.iload_n 1, 1) := by decide +kernel
theorem d_method_7_code_6 : decode method_7_code 6 = .ok (.iload 4, 2) := by decide +kernel
theorem d_method_7_code_8 : decode method_7_code 8 = .ok (.iadd, 1) := by decide +kernel
theorem d_method_7_code_9 : decode method_7_code 9 = .ok (.iconst 1, 1) := by decide +kernel
theorem d_method_7_code_10 : decode method_7_code 10 = .ok (.isub, 1) := by decide +kernel
theorem d_method_7_code_11 : decode method_7_code 11 = .ok (.istore 6, 2) := by decide +kernel
theorem d_method_7_code_13 : decode method_7_code 13 = .ok (.aload_n 0, 1) := by decide +kernel
theorem d_method_7_code_14 : decode method_7_code 14 = .ok (.iload 6, 2) := by decide +kernel
theorem d_method_7_code_16 : decode method_7_code 16 = .ok (.lload_n 2, 1) := by decide +kernel
theorem d_method_7_code_17 : decode method_7_code 17 = .ok (.aload 5, 2) := by decide +kernel
theorem d_method_7_code_19 : decode method_7_code 19 = .ok (.iconst 0, 1) := by decide +kernel
theorem d_method_7_code_20 : decode method_7_code 20 = .ok (.iload 4, 2) := by decide +kernel
theorem d_method_7_code_22 : decode method_7_code 22 = .ok (.invokestatic 112, 3) := by decide +kernel
theorem w310 {Z : State} {a0 : Array Value} (hw : Tb a0 Z) : (Jvm.Cond.methodLink "com/example/warm_tariff/warmtariff/UndecodableGetMessagePinLaw" (112 : Nat) ({ cls := "com/example/warm_tariff/warmtariff/UndecodableGetMessagePinLaw", name := "d", desc := "(Ljava/lang/String;IJ[JII)Z" } : Jvm.MethodName)).before a0 Z = true := hw _ (List.mem_of_getElem? (i := 310) rfl)
theorem w312 {Z : State} {a0 : Array Value} (hw : Tb a0 Z) : (Jvm.Cond.code ({ cls := "com/example/warm_tariff/warmtariff/UndecodableGetMessagePinLaw", name := "d", desc := "(Ljava/lang/String;IJ[JII)Z" } : Jvm.MethodName) method_6_code (8 : Nat) (Option.some Jvm.ClassFile.FieldType.boolean)).before a0 Z = true := hw _ (List.mem_of_getElem? (i := 312) rfl)
theorem w311 {Z : State} {a0 : Array Value} (hw : Tb a0 Z) : (Jvm.Cond.static ({ cls := "com/example/warm_tariff/warmtariff/UndecodableGetMessagePinLaw", name := "d", desc := "(Ljava/lang/String;IJ[JII)Z" } : Jvm.MethodName)).before a0 Z = true := hw _ (List.mem_of_getElem? (i := 311) rfl)
theorem pd__Ljava_lang_String_IJ_JII_Z_1743 : parseMethodDescriptor "(Ljava/lang/String;IJ[JII)Z" = some ⟨[(.object "java/lang/String"), .int, .long, (.array .long), .int, .int], some .boolean⟩ := by decide +kernel
theorem d_method_7_code_25 : decode method_7_code 25 = .ok (.ifCond .eq 290, 3) := by decide +kernel
theorem d_method_7_code_28 : decode method_7_code 28 = .ok (.aload_n 0, 1) := by decide +kernel
theorem d_method_7_code_29 : decode method_7_code 29 = .ok (.iload 6, 2) := by decide +kernel
theorem d_method_7_code_31 : decode method_7_code 31 = .ok (.lload_n 2, 1) := by decide +kernel
theorem d_method_7_code_32 : decode method_7_code 32 = .ok (.aload 5, 2) := by decide +kernel
theorem d_method_7_code_34 : decode method_7_code 34 = .ok (.iconst 1, 1) := by decide +kernel
theorem d_method_7_code_35 : decode method_7_code 35 = .ok (.iload 4, 2) := by decide +kernel
theorem d_method_7_code_37 : decode method_7_code 37 = .ok (.invokestatic 112, 3) := by decide +kernel
theorem d_method_7_code_40 : decode method_7_code 40 = .ok (.ifCond .eq 275, 3) := by decide +kernel
theorem d_method_7_code_43 : decode method_7_code 43 = .ok (.aload_n 0, 1) := by decide +kernel
theorem d_method_7_code_44 : decode method_7_code 44 = .ok (.iload 6, 2) := by decide +kernel
theorem d_method_7_code_46 : decode method_7_code 46 = .ok (.lload_n 2, 1) := by decide +kernel
theorem d_method_7_code_47 : decode method_7_code 47 = .ok (.aload 5, 2) := by decide +kernel
theorem d_method_7_code_49 : decode method_7_code 49 = .ok (.iconst 2, 1) := by decide +kernel
theorem d_method_7_code_50 : decode method_7_code 50 = .ok (.iload 4, 2) := by decide +kernel
theorem d_method_7_code_52 : decode method_7_code 52 = .ok (.invokestatic 112, 3) := by decide +kernel
theorem d_method_7_code_55 : decode method_7_code 55 = .ok (.ifCond .eq 260, 3) := by decide +kernel
theorem d_method_7_code_58 : decode method_7_code 58 = .ok (.aload_n 0, 1) := by decide +kernel
theorem d_method_7_code_59 : decode method_7_code 59 = .ok (.iload 6, 2) := by decide +kernel
theorem d_method_7_code_61 : decode method_7_code 61 = .ok (.lload_n 2, 1) := by decide +kernel
theorem d_method_7_code_62 : decode method_7_code 62 = .ok (.aload 5, 2) := by decide +kernel
theorem d_method_7_code_64 : decode method_7_code 64 = .ok (.iconst 3, 1) := by decide +kernel
theorem d_method_7_code_65 : decode method_7_code 65 = .ok (.iload 4, 2) := by decide +kernel
theorem d_method_7_code_67 : decode method_7_code 67 = .ok (.invokestatic 112, 3) := by decide +kernel
theorem d_method_7_code_70 : decode method_7_code 70 = .ok (.ifCond .eq 245, 3) := by decide +kernel
theorem d_method_7_code_73 : decode method_7_code 73 = .ok (.aload_n 0, 1) := by decide +kernel
theorem d_method_7_code_74 : decode method_7_code 74 = .ok (.iload 6, 2) := by decide +kernel
theorem d_method_7_code_76 : decode method_7_code 76 = .ok (.lload_n 2, 1) := by decide +kernel
theorem d_method_7_code_77 : decode method_7_code 77 = .ok (.aload 5, 2) := by decide +kernel
theorem d_method_7_code_79 : decode method_7_code 79 = .ok (.iconst 4, 1) := by decide +kernel
theorem d_method_7_code_80 : decode method_7_code 80 = .ok (.iload 4, 2) := by decide +kernel
theorem d_method_7_code_82 : decode method_7_code 82 = .ok (.invokestatic 112, 3) := by decide +kernel
theorem d_method_7_code_85 : decode method_7_code 85 = .ok (.ifCond .eq 230, 3) := by decide +kernel
theorem d_method_7_code_88 : decode method_7_code 88 = .ok (.aload_n 0, 1) := by decide +kernel
theorem d_method_7_code_89 : decode method_7_code 89 = .ok (.iload 6, 2) := by decide +kernel
theorem d_method_7_code_91 : decode method_7_code 91 = .ok (.lload_n 2, 1) := by decide +kernel
theorem d_method_7_code_92 : decode method_7_code 92 = .ok (.aload 5, 2) := by decide +kernel
theorem d_method_7_code_94 : decode method_7_code 94 = .ok (.iconst 5, 1) := by decide +kernel
theorem d_method_7_code_95 : decode method_7_code 95 = .ok (.iload 4, 2) := by decide +kernel
theorem d_method_7_code_97 : decode method_7_code 97 = .ok (.invokestatic 112, 3) := by decide +kernel
theorem d_method_7_code_100 : decode method_7_code 100 = .ok (.ifCond .eq 215, 3) := by decide +kernel
theorem d_method_7_code_103 : decode method_7_code 103 = .ok (.aload_n 0, 1) := by decide +kernel
theorem d_method_7_code_104 : decode method_7_code 104 = .ok (.iload 6, 2) := by decide +kernel
theorem d_method_7_code_106 : decode method_7_code 106 = .ok (.lload_n 2, 1) := by decide +kernel
theorem d_method_7_code_107 : decode method_7_code 107 = .ok (.aload 5, 2) := by decide +kernel
theorem d_method_7_code_109 : decode method_7_code 109 = .ok (.bipush 6, 2) := by decide +kernel
theorem d_method_7_code_111 : decode method_7_code 111 = .ok (.iload 4, 2) := by decide +kernel
theorem d_method_7_code_113 : decode method_7_code 113 = .ok (.invokestatic 112, 3) := by decide +kernel
theorem d_method_7_code_116 : decode method_7_code 116 = .ok (.ifCond .eq 199, 3) := by decide +kernel
theorem d_method_7_code_119 : decode method_7_code 119 = .ok (.aload_n 0, 1) := by decide +kernel
theorem d_method_7_code_120 : decode method_7_code 120 = .ok (.iload 6, 2) := by decide +kernel
theorem d_method_7_code_122 : decode method_7_code 122 = .ok (.lload_n 2, 1) := by decide +kernel
theorem d_method_7_code_123 : decode method_7_code 123 = .ok (.aload 5, 2) := by decide +kernel
theorem d_method_7_code_125 : decode method_7_code 125 = .ok (.bipush 7, 2) := by decide +kernel
theorem d_method_7_code_127 : decode method_7_code 127 = .ok (.iload 4, 2) := by decide +kernel
theorem d_method_7_code_129 : decode method_7_code 129 = .ok (.invokestatic 112, 3) := by decide +kernel
theorem d_method_7_code_132 : decode method_7_code 132 = .ok (.ifCond .eq 183, 3) := by decide +kernel
theorem d_method_7_code_135 : decode method_7_code 135 = .ok (.aload_n 0, 1) := by decide +kernel
theorem d_method_7_code_136 : decode method_7_code 136 = .ok (.iload 6, 2) := by decide +kernel
theorem d_method_7_code_138 : decode method_7_code 138 = .ok (.lload_n 2, 1) := by decide +kernel
theorem d_method_7_code_139 : decode method_7_code 139 = .ok (.aload 5, 2) := by decide +kernel
theorem d_method_7_code_141 : decode method_7_code 141 = .ok (.bipush 8, 2) := by decide +kernel
theorem d_method_7_code_143 : decode method_7_code 143 = .ok (.iload 4, 2) := by decide +kernel
theorem d_method_7_code_145 : decode method_7_code 145 = .ok (.invokestatic 112, 3) := by decide +kernel
theorem d_method_7_code_148 : decode method_7_code 148 = .ok (.ifCond .eq 167, 3) := by decide +kernel
theorem d_method_7_code_151 : decode method_7_code 151 = .ok (.aload_n 0, 1) := by decide +kernel
theorem d_method_7_code_152 : decode method_7_code 152 = .ok (.iload 6, 2) := by decide +kernel
theorem d_method_7_code_154 : decode method_7_code 154 = .ok (.lload_n 2, 1) := by decide +kernel
theorem d_method_7_code_155 : decode method_7_code 155 = .ok (.aload 5, 2) := by decide +kernel
theorem d_method_7_code_157 : decode method_7_code 157 = .ok (.bipush 9, 2) := by decide +kernel
theorem d_method_7_code_159 : decode method_7_code 159 = .ok (.iload 4, 2) := by decide +kernel
theorem d_method_7_code_161 : decode method_7_code 161 = .ok (.invokestatic 112, 3) := by decide +kernel
theorem d_method_7_code_164 : decode method_7_code 164 = .ok (.ifCond .eq 151, 3) := by decide +kernel
theorem d_method_7_code_167 : decode method_7_code 167 = .ok (.aload_n 0, 1) := by decide +kernel
theorem d_method_7_code_168 : decode method_7_code 168 = .ok (.iload 6, 2) := by decide +kernel
theorem d_method_7_code_170 : decode method_7_code 170 = .ok (.lload_n 2, 1) := by decide +kernel
theorem d_method_7_code_171 : decode method_7_code 171 = .ok (.aload 5, 2) := by decide +kernel
theorem d_method_7_code_173 : decode method_7_code 173 = .ok (.bipush 10, 2) := by decide +kernel
theorem d_method_7_code_175 : decode method_7_code 175 = .ok (.iload 4, 2) := by decide +kernel
theorem d_method_7_code_177 : decode method_7_code 177 = .ok (.invokestatic 112, 3) := by decide +kernel
theorem d_method_7_code_180 : decode method_7_code 180 = .ok (.ifCond .eq 135, 3) := by decide +kernel
theorem d_method_7_code_183 : decode method_7_code 183 = .ok (.aload_n 0, 1) := by decide +kernel
theorem d_method_7_code_184 : decode method_7_code 184 = .ok (.iload 6, 2) := by decide +kernel
theorem d_method_7_code_186 : decode method_7_code 186 = .ok (.lload_n 2, 1) := by decide +kernel
theorem d_method_7_code_187 : decode method_7_code 187 = .ok (.aload 5, 2) := by decide +kernel
theorem d_method_7_code_189 : decode method_7_code 189 = .ok (.bipush 11, 2) := by decide +kernel
theorem d_method_7_code_191 : decode method_7_code 191 = .ok (.iload 4, 2) := by decide +kernel
theorem d_method_7_code_193 : decode method_7_code 193 = .ok (.invokestatic 112, 3) := by decide +kernel
theorem d_method_7_code_196 : decode method_7_code 196 = .ok (.ifCond .eq 119, 3) := by decide +kernel
theorem d_method_7_code_199 : decode method_7_code 199 = .ok (.aload_n 0, 1) := by decide +kernel
theorem d_method_7_code_200 : decode method_7_code 200 = .ok (.iload 6, 2) := by decide +kernel
theorem d_method_7_code_202 : decode method_7_code 202 = .ok (.lload_n 2, 1) := by decide +kernel
theorem d_method_7_code_203 : decode method_7_code 203 = .ok (.aload 5, 2) := by decide +kernel
theorem d_method_7_code_205 : decode method_7_code 205 = .ok (.bipush 12, 2) := by decide +kernel
theorem d_method_7_code_207 : decode method_7_code 207 = .ok (.iload 4, 2) := by decide +kernel
theorem d_method_7_code_209 : decode method_7_code 209 = .ok (.invokestatic 112, 3) := by decide +kernel
theorem d_method_7_code_212 : decode method_7_code 212 = .ok (.ifCond .eq 103, 3) := by decide +kernel
theorem d_method_7_code_215 : decode method_7_code 215 = .ok (.aload_n 0, 1) := by decide +kernel
theorem d_method_7_code_216 : decode method_7_code 216 = .ok (.iload 6, 2) := by decide +kernel
theorem d_method_7_code_218 : decode method_7_code 218 = .ok (.lload_n 2, 1) := by decide +kernel
theorem d_method_7_code_219 : decode method_7_code 219 = .ok (.aload 5, 2) := by decide +kernel
theorem d_method_7_code_221 : decode method_7_code 221 = .ok (.bipush 13, 2) := by decide +kernel
theorem d_method_7_code_223 : decode method_7_code 223 = .ok (.iload 4, 2) := by decide +kernel
theorem d_method_7_code_225 : decode method_7_code 225 = .ok (.invokestatic 112, 3) := by decide +kernel
theorem d_method_7_code_228 : decode method_7_code 228 = .ok (.ifCond .eq 87, 3) := by decide +kernel
theorem d_method_7_code_231 : decode method_7_code 231 = .ok (.aload_n 0, 1) := by decide +kernel
theorem d_method_7_code_232 : decode method_7_code 232 = .ok (.iload 6, 2) := by decide +kernel
theorem d_method_7_code_234 : decode method_7_code 234 = .ok (.lload_n 2, 1) := by decide +kernel
theorem d_method_7_code_235 : decode method_7_code 235 = .ok (.aload 5, 2) := by decide +kernel
theorem d_method_7_code_237 : decode method_7_code 237 = .ok (.bipush 14, 2) := by decide +kernel
theorem d_method_7_code_239 : decode method_7_code 239 = .ok (.iload 4, 2) := by decide +kernel
theorem d_method_7_code_241 : decode method_7_code 241 = .ok (.invokestatic 112, 3) := by decide +kernel
theorem d_method_7_code_244 : decode method_7_code 244 = .ok (.ifCond .eq 71, 3) := by decide +kernel
theorem d_method_7_code_247 : decode method_7_code 247 = .ok (.aload_n 0, 1) := by decide +kernel
theorem d_method_7_code_248 : decode method_7_code 248 = .ok (.iload 6, 2) := by decide +kernel
theorem d_method_7_code_250 : decode method_7_code 250 = .ok (.lload_n 2, 1) := by decide +kernel
theorem d_method_7_code_251 : decode method_7_code 251 = .ok (.aload 5, 2) := by decide +kernel
theorem d_method_7_code_253 : decode method_7_code 253 = .ok (.bipush 15, 2) := by decide +kernel
theorem d_method_7_code_255 : decode method_7_code 255 = .ok (.iload 4, 2) := by decide +kernel
theorem d_method_7_code_257 : decode method_7_code 257 = .ok (.invokestatic 112, 3) := by decide +kernel
theorem d_method_7_code_260 : decode method_7_code 260 = .ok (.ifCond .eq 55, 3) := by decide +kernel
theorem d_method_7_code_263 : decode method_7_code 263 = .ok (.aload_n 0, 1) := by decide +kernel
theorem d_method_7_code_264 : decode method_7_code 264 = .ok (.iload 6, 2) := by decide +kernel
theorem d_method_7_code_266 : decode method_7_code 266 = .ok (.lload_n 2, 1) := by decide +kernel
theorem d_method_7_code_267 : decode method_7_code 267 = .ok (.aload 5, 2) := by decide +kernel
theorem d_method_7_code_269 : decode method_7_code 269 = .ok (.bipush 16, 2) := by decide +kernel
theorem d_method_7_code_271 : decode method_7_code 271 = .ok (.iload 4, 2) := by decide +kernel
theorem d_method_7_code_273 : decode method_7_code 273 = .ok (.invokestatic 112, 3) := by decide +kernel
theorem d_method_7_code_276 : decode method_7_code 276 = .ok (.ifCond .eq 39, 3) := by decide +kernel
theorem d_method_7_code_279 : decode method_7_code 279 = .ok (.aload_n 0, 1) := by decide +kernel
theorem d_method_7_code_280 : decode method_7_code 280 = .ok (.iload 6, 2) := by decide +kernel
theorem d_method_7_code_282 : decode method_7_code 282 = .ok (.lload_n 2, 1) := by decide +kernel
theorem d_method_7_code_283 : decode method_7_code 283 = .ok (.aload 5, 2) := by decide +kernel
theorem d_method_7_code_285 : decode method_7_code 285 = .ok (.bipush 17, 2) := by decide +kernel
theorem d_method_7_code_287 : decode method_7_code 287 = .ok (.iload 4, 2) := by decide +kernel
theorem d_method_7_code_289 : decode method_7_code 289 = .ok (.invokestatic 112, 3) := by decide +kernel
theorem d_method_7_code_292 : decode method_7_code 292 = .ok (.ifCond .eq 23, 3) := by decide +kernel
theorem d_method_7_code_295 : decode method_7_code 295 = .ok (.aload_n 0, 1) := by decide +kernel
theorem d_method_7_code_296 : decode method_7_code 296 = .ok (.iload 6, 2) := by decide +kernel
theorem d_method_7_code_298 : decode method_7_code 298 = .ok (.lload_n 2, 1) := by decide +kernel
theorem d_method_7_code_299 : decode method_7_code 299 = .ok (.aload 5, 2) := by decide +kernel
theorem d_method_7_code_301 : decode method_7_code 301 = .ok (.bipush 18, 2) := by decide +kernel
theorem d_method_7_code_303 : decode method_7_code 303 = .ok (.iload 4, 2) := by decide +kernel
theorem d_method_7_code_305 : decode method_7_code 305 = .ok (.invokestatic 112, 3) := by decide +kernel
theorem d_method_7_code_308 : decode method_7_code 308 = .ok (.ifCond .eq 7, 3) := by decide +kernel
theorem d_method_7_code_311 : decode method_7_code 311 = .ok (.iconst 1, 1) := by decide +kernel
theorem d_method_7_code_312 : decode method_7_code 312 = .ok (.goto 4, 3) := by decide +kernel
theorem d_method_7_code_316 : decode method_7_code 316 = .ok (.ireturn, 1) := by decide +kernel
set_option maxRecDepth 65536 in
set_option maxHeartbeats 40000000 in
theorem c_number (l : Launch) (Z : State) (a0 : Array Value) (hw : Tb a0 Z) (hEW : EW Z a0 EL0) (n0 : Nat) (a t : Addr) (kt : ClassId) (xs : List Int32) (ff : Value) (cs0 : Int32) (stI : Int32) (x : Int64) (n sg sn : Nat) (h0 : Heap) (O : Old Z n0 h0) (SF : Sta Z Z.heap "jdk/internal/util/Preconditions" "SIOOBE_FORMATTER" "Ljava/util/function/BiFunction;" ff) (hff : ff.isRef = true) (S : Str Z h0 a t kt 0 (Int32.ofNat xs.length) (xs.map Value.int)) (hl7 : xs.length ≤ 70) (hax : ∀ x ∈ xs, 0 ≤ x.toInt ∧ x.toInt < 128) (hx : Sg x n sg) (hfit : sn + szL n ≤ xs.length) (hdg : ∀ k, k < szL n → xs.getD (sn + szL n - 1 - k) 0 = dig n k) (hst : stI.toInt = sn) (SC : Sta Z Z.heap "java/lang/String" "COMPACT_STRINGS" "Z" (.int cs0)) (hcs : ¬ cs0 = 0) :
    Ct l Z EL0 n0 (⟨"com/example/warm_tariff/warmtariff/UndecodableGetMessagePinLaw", "number", "(Ljava/lang/String;IJI)Z"⟩ : MethodName) method_7_code 7 (some .boolean) ({ frames := 5, cells := 1, slots := 19, locals := 72 } : Room) #[(.ref a), (.int stI), (.long x), (.int (Int32.ofNat (szL n)))] h0 [] (fun v h sf => v = some (.int 1) ∧ Keep h0 h []) := by
  refine Ct.of (a0 := a0) #[.val (.ref a), .val (.int stI), .val (.long x), .second, .val (.int (Int32.ofNat (szL n))), .unset, .unset] hEW O (plainFor_of_name pl_com_example_warm_tariff_warmtariff_UndecodableGetMessagePinLaw) (fun m => by first | (simp [entryFrame, mkF, argsToLocals, Value.category]; done) | rfl) ?_
  intro p_ e_ s_ m_ below_ meth_ c_ b_ T_ K hSP hsh
  have hsz := szL_b n
  have hso := own_of (n := szL n) (by omega)
  have KP := Keep.refl h0 []
  refine k_static K [] [] 0 (w253 hw) (w254 hw) (w251 hw) (w255 hw) (by decide) pd____J_691 (c_powers l Z a0 hw hEW n0  h0 K.old ) d_method_7_code_0 nofun (pc' := 3) rfl rfl rfl rfl (Nat.le_of_eq rfl) (by decide) (by decide) (by decide) (by decide) ?_
  intro b188 T188 h188 L188 v188 K188 tr188 q188
  obtain ⟨pa, kp, rfl, hpa, KQ, V_pa⟩ := q188
  have ga_pa : n0 ≤ pa := Nat.le_trans (own_n0 K.old) hpa
  have sz_pa : h0.size ≤ pa := Nat.le_trans KP.1 hpa
  have ne_a_pa : a ≠ pa := own_ne2 S.lt hpa
  have ne_t_pa : t ≠ pa := own_ne2 S.blt hpa
  replace S := S.keep KQ nin0 nin0
  replace KP := KP.trans KQ all0
  show Goes p_.tables e_ below_ _ (T188.setTop (mkF m_ 3 #[.val (.ref a), .val (.int stI), .val (.long x), .second, .val (.int (Int32.ofNat (szL n))), .unset, .unset] [(.ref pa)]))
  refine k_astore K188 d_method_7_code_3 (pc' := 5) (L' := #[.val (.ref a), .val (.int stI), .val (.long x), .second, .val (.int (Int32.ofNat (szL n))), .val (.ref pa), .unset]) rfl rfl rfl ?_
  refine k_iloadN K188 d_method_7_code_5 (pc' := 6) rfl rfl ?_
  refine k_iload K188 d_method_7_code_6 (pc' := 8) rfl rfl ?_
  refine k_iadd K188 d_method_7_code_8 (pc' := 9) rfl ?_
  refine k_iconst K188 (1 : Int32) d_method_7_code_9 (pc' := 10) rfl rfl ?_
  refine k_isub K188 d_method_7_code_10 (pc' := 11) rfl ?_
  have hen := own_sub (own_sum2 hst hso (by omega)) (show (1 : Int32).toInt = (1 : Nat) by decide) (by omega) (by omega)
  refine k_istore K188 d_method_7_code_11 (pc' := 13) (L' := #[.val (.ref a), .val (.int stI), .val (.long x), .second, .val (.int (Int32.ofNat (szL n))), .val (.ref pa), .val (.int ((stI + (Int32.ofNat (szL n))) - (1 : Int32)))]) rfl rfl ?_
  refine k_aloadN K188 d_method_7_code_13 (pc' := 14) rfl rfl rfl ?_
  refine k_iload K188 d_method_7_code_14 (pc' := 16) rfl rfl ?_
  refine k_lloadN K188 d_method_7_code_16 (pc' := 17) rfl rfl ?_
  refine k_aload K188 d_method_7_code_17 (pc' := 19) rfl rfl rfl ?_
  refine k_iconst K188 (0 : Int32) d_method_7_code_19 (pc' := 20) rfl rfl ?_
  refine k_iload K188 d_method_7_code_20 (pc' := 22) rfl rfl ?_
  refine k_staticP K188 [(.ref a), (.int ((stI + (Int32.ofNat (szL n))) - (1 : Int32))), (.long x), (.ref pa), (.int (0 : Int32)), (.int (Int32.ofNat (szL n)))] [] 0 (w310 hw) (w311 hw) (w251 hw) (w312 hw) (by decide) pd__Ljava_lang_String_IJ_JII_Z_1743 (c_d l Z a0 hw hEW n0 a t kt xs ff cs0 ((stI + (Int32.ofNat (szL n))) - (1 : Int32)) 0 x 1 pa kp n sg sn 0 h188 K188.old SF hff S hl7 hax hx hfit hdg V_pa hen (by decide) (by decide) (by decide) rfl SC hcs) d_method_7_code_22 nofun (pc' := 25) rfl rfl rfl rfl (Nat.le_of_eq rfl) (by decide) (by decide) (by decide) (by decide) ?_
  intro b189 T189 L189 K189 tr189
  show Goes p_.tables e_ below_ _ (T189.setTop (mkF m_ 25 #[.val (.ref a), .val (.int stI), .val (.long x), .second, .val (.int (Int32.ofNat (szL n))), .val (.ref pa), .val (.int ((stI + (Int32.ofNat (szL n))) - (1 : Int32)))] [(.int (1 : Int32))]))
  refine k_if_eq K189 d_method_7_code_25 (by decide) (pc' := 315) (pc2 := 28) (by decide) rfl (fun q => absurd q (by decide)) (fun hc25 => ?_)
  refine k_aloadN K189 d_method_7_code_28 (pc' := 29) rfl rfl rfl ?_
  refine k_iload K189 d_method_7_code_29 (pc' := 31) rfl rfl ?_
  refine k_lloadN K189 d_method_7_code_31 (pc' := 32) rfl rfl ?_
  refine k_aload K189 d_method_7_code_32 (pc' := 34) rfl rfl rfl ?_
  refine k_iconst K189 (1 : Int32) d_method_7_code_34 (pc' := 35) rfl rfl ?_
  refine k_iload K189 d_method_7_code_35 (pc' := 37) rfl rfl ?_
  refine k_staticP K189 [(.ref a), (.int ((stI + (Int32.ofNat (szL n))) - (1 : Int32))), (.long x), (.ref pa), (.int (1 : Int32)), (.int (Int32.ofNat (szL n)))] [] 0 (w310 hw) (w311 hw) (w251 hw) (w312 hw) (by decide) pd__Ljava_lang_String_IJ_JII_Z_1743 (c_d l Z a0 hw hEW n0 a t kt xs ff cs0 ((stI + (Int32.ofNat (szL n))) - (1 : Int32)) 1 x 10 pa kp n sg sn 1 h188 K189.old SF hff S hl7 hax hx hfit hdg V_pa hen (by decide) (by decide) (by decide) rfl SC hcs) d_method_7_code_37 nofun (pc' := 40) rfl rfl rfl rfl (Nat.le_of_eq rfl) (by decide) (by decide) (by decide) (by decide) ?_
  intro b190 T190 L190 K190 tr190
  show Goes p_.tables e_ below_ _ (T190.setTop (mkF m_ 40 #[.val (.ref a), .val (.int stI), .val (.long x), .second, .val (.int (Int32.ofNat (szL n))), .val (.ref pa), .val (.int ((stI + (Int32.ofNat (szL n))) - (1 : Int32)))] [(.int (1 : Int32))]))
  refine k_if_eq K190 d_method_7_code_40 (by decide) (pc' := 315) (pc2 := 43) (by decide) rfl (fun q => absurd q (by decide)) (fun hc40 => ?_)
  refine k_aloadN K190 d_method_7_code_43 (pc' := 44) rfl rfl rfl ?_
  refine k_iload K190 d_method_7_code_44 (pc' := 46) rfl rfl ?_
  refine k_lloadN K190 d_method_7_code_46 (pc' := 47) rfl rfl ?_
  refine k_aload K190 d_method_7_code_47 (pc' := 49) rfl rfl rfl ?_
  refine k_iconst K190 (2 : Int32) d_method_7_code_49 (pc' := 50) rfl rfl ?_
  refine k_iload K190 d_method_7_code_50 (pc' := 52) rfl rfl ?_
  refine k_staticP K190 [(.ref a), (.int ((stI + (Int32.ofNat (szL n))) - (1 : Int32))), (.long x), (.ref pa), (.int (2 : Int32)), (.int (Int32.ofNat (szL n)))] [] 0 (w310 hw) (w311 hw) (w251 hw) (w312 hw) (by decide) pd__Ljava_lang_String_IJ_JII_Z_1743 (c_d l Z a0 hw hEW n0 a t kt xs ff cs0 ((stI + (Int32.ofNat (szL n))) - (1 : Int32)) 2 x 100 pa kp n sg sn 2 h188 K190.old SF hff S hl7 hax hx hfit hdg V_pa hen (by decide) (by decide) (by decide) rfl SC hcs) d_method_7_code_52 nofun (pc' := 55) rfl rfl rfl rfl (Nat.le_of_eq rfl) (by decide) (by decide) (by decide) (by decide) ?_
  intro b191 T191 L191 K191 tr191
  show Goes p_.tables e_ below_ _ (T191.setTop (mkF m_ 55 #[.val (.ref a), .val (.int stI), .val (.long x), .second, .val (.int (Int32.ofNat (szL n))), .val (.ref pa), .val (.int ((stI + (Int32.ofNat (szL n))) - (1 : Int32)))] [(.int (1 : Int32))]))
  refine k_if_eq K191 d_method_7_code_55 (by decide) (pc' := 315) (pc2 := 58) (by decide) rfl (fun q => absurd q (by decide)) (fun hc55 => ?_)
  refine k_aloadN K191 d_method_7_code_58 (pc' := 59) rfl rfl rfl ?_
  refine k_iload K191 d_method_7_code_59 (pc' := 61) rfl rfl ?_
  refine k_lloadN K191 d_method_7_code_61 (pc' := 62) rfl rfl ?_
  refine k_aload K191 d_method_7_code_62 (pc' := 64) rfl rfl rfl ?_
  refine k_iconst K191 (3 : Int32) d_method_7_code_64 (pc' := 65) rfl rfl ?_
  refine k_iload K191 d_method_7_code_65 (pc' := 67) rfl rfl ?_
  refine k_staticP K191 [(.ref a), (.int ((stI + (Int32.ofNat (szL n))) - (1 : Int32))), (.long x), (.ref pa), (.int (3 : Int32)), (.int (Int32.ofNat (szL n)))] [] 0 (w310 hw) (w311 hw) (w251 hw) (w312 hw) (by decide) pd__Ljava_lang_String_IJ_JII_Z_1743 (c_d l Z a0 hw hEW n0 a t kt xs ff cs0 ((stI + (Int32.ofNat (szL n))) - (1 : Int32)) 3 x 1000 pa kp n sg sn 3 h188 K191.old SF hff S hl7 hax hx hfit hdg V_pa hen (by decide) (by decide) (by decide) rfl SC hcs) d_method_7_code_67 nofun (pc' := 70) rfl rfl rfl rfl (Nat.le_of_eq rfl) (by decide) (by decide) (by decide) (by decide) ?_
  intro b192 T192 L192 K192 tr192
  show Goes p_.tables e_ below_ _ (T192.setTop (mkF m_ 70 #[.val (.ref a), .val (.int stI), .val (.long x), .second, .val (.int (Int32.ofNat (szL n))), .val (.ref pa), .val (.int ((stI + (Int32.ofNat (szL n))) - (1 : Int32)))] [(.int (1 : Int32))]))
  refine k_if_eq K192 d_method_7_code_70 (by decide) (pc' := 315) (pc2 := 73) (by decide) rfl (fun q => absurd q (by decide)) (fun hc70 => ?_)
  refine k_aloadN K192 d_method_7_code_73 (pc' := 74) rfl rfl rfl ?_
  refine k_iload K192 d_method_7_code_74 (pc' := 76) rfl rfl ?_
  refine k_lloadN K192 d_method_7_code_76 (pc' := 77) rfl rfl ?_
  refine k_aload K192 d_method_7_code_77 (pc' := 79) rfl rfl rfl ?_
  refine k_iconst K192 (4 : Int32) d_method_7_code_79 (pc' := 80) rfl rfl ?_
  refine k_iload K192 d_method_7_code_80 (pc' := 82) rfl rfl ?_
  refine k_staticP K192 [(.ref a), (.int ((stI + (Int32.ofNat (szL n))) - (1 : Int32))), (.long x), (.ref pa), (.int (4 : Int32)), (.int (Int32.ofNat (szL n)))] [] 0 (w310 hw) (w311 hw) (w251 hw) (w312 hw) (by decide) pd__Ljava_lang_String_IJ_JII_Z_1743 (c_d l Z a0 hw hEW n0 a t kt xs ff cs0 ((stI + (Int32.ofNat (szL n))) - (1 : Int32)) 4 x 10000 pa kp n sg sn 4 h188 K192.old SF hff S hl7 hax hx hfit hdg V_pa hen (by decide) (by decide) (by decide) rfl SC hcs) d_method_7_code_82 nofun (pc' := 85) rfl rfl rfl rfl (Nat.le_of_eq rfl) (by decide) (by decide) (by decide) (by decide) ?_
  intro b193 T193 L193 K193 tr193
  show Goes p_.tables e_ below_ _ (T193.setTop (mkF m_ 85 #[.val (.ref a), .val (.int stI), .val (.long x), .second, .val (.int (Int32.ofNat (szL n))), .val (.ref pa), .val (.int ((stI + (Int32.ofNat (szL n))) - (1 : Int32)))] [(.int (1 : Int32))]))
  refine k_if_eq K193 d_method_7_code_85 (by decide) (pc' := 315) (pc2 := 88) (by decide) rfl (fun q => absurd q (by decide)) (fun hc85 => ?_)
  refine k_aloadN K193 d_method_7_code_88 (pc' := 89) rfl rfl rfl ?_
  refine k_iload K193 d_method_7_code_89 (pc' := 91) rfl rfl ?_
  refine k_lloadN K193 d_method_7_code_91 (pc' := 92) rfl rfl ?_
  refine k_aload K193 d_method_7_code_92 (pc' := 94) rfl rfl rfl ?_
  refine k_iconst K193 (5 : Int32) d_method_7_code_94 (pc' := 95) rfl rfl ?_
  refine k_iload K193 d_method_7_code_95 (pc' := 97) rfl rfl ?_
  refine k_staticP K193 [(.ref a), (.int ((stI + (Int32.ofNat (szL n))) - (1 : Int32))), (.long x), (.ref pa), (.int (5 : Int32)), (.int (Int32.ofNat (szL n)))] [] 0 (w310 hw) (w311 hw) (w251 hw) (w312 hw) (by decide) pd__Ljava_lang_String_IJ_JII_Z_1743 (c_d l Z a0 hw hEW n0 a t kt xs ff cs0 ((stI + (Int32.ofNat (szL n))) - (1 : Int32)) 5 x 100000 pa kp n sg sn 5 h188 K193.old SF hff S hl7 hax hx hfit hdg V_pa hen (by decide) (by decide) (by decide) rfl SC hcs) d_method_7_code_97 nofun (pc' := 100) rfl rfl rfl rfl (Nat.le_of_eq rfl) (by decide) (by decide) (by decide) (by decide) ?_
  intro b194 T194 L194 K194 tr194
  show Goes p_.tables e_ below_ _ (T194.setTop (mkF m_ 100 #[.val (.ref a), .val (.int stI), .val (.long x), .second, .val (.int (Int32.ofNat (szL n))), .val (.ref pa), .val (.int ((stI + (Int32.ofNat (szL n))) - (1 : Int32)))] [(.int (1 : Int32))]))
  refine k_if_eq K194 d_method_7_code_100 (by decide) (pc' := 315) (pc2 := 103) (by decide) rfl (fun q => absurd q (by decide)) (fun hc100 => ?_)
  refine k_aloadN K194 d_method_7_code_103 (pc' := 104) rfl rfl rfl ?_
  refine k_iload K194 d_method_7_code_104 (pc' := 106) rfl rfl ?_
  refine k_lloadN K194 d_method_7_code_106 (pc' := 107) rfl rfl ?_
  refine k_aload K194 d_method_7_code_107 (pc' := 109) rfl rfl rfl ?_
  refine k_bipush K194 (6 : Int32) d_method_7_code_109 (pc' := 111) rfl rfl ?_
  refine k_iload K194 d_method_7_code_111 (pc' := 113) rfl rfl ?_
  refine k_staticP K194 [(.ref a), (.int ((stI + (Int32.ofNat (szL n))) - (1 : Int32))), (.long x), (.ref pa), (.int (6 : Int32)), (.int (Int32.ofNat (szL n)))] [] 0 (w310 hw) (w311 hw) (w251 hw) (w312 hw) (by decide) pd__Ljava_lang_String_IJ_JII_Z_1743 (c_d l Z a0 hw hEW n0 a t kt xs ff cs0 ((stI + (Int32.ofNat (szL n))) - (1 : Int32)) 6 x 1000000 pa kp n sg sn 6 h188 K194.old SF hff S hl7 hax hx hfit hdg V_pa hen (by decide) (by decide) (by decide) rfl SC hcs) d_method_7_code_113 nofun (pc' := 116) rfl rfl rfl rfl (Nat.le_of_eq rfl) (by decide) (by decide) (by decide) (by decide) ?_
  intro b195 T195 L195 K195 tr195
  show Goes p_.tables e_ below_ _ (T195.setTop (mkF m_ 116 #[.val (.ref a), .val (.int stI), .val (.long x), .second, .val (.int (Int32.ofNat (szL n))), .val (.ref pa), .val (.int ((stI + (Int32.ofNat (szL n))) - (1 : Int32)))] [(.int (1 : Int32))]))
  refine k_if_eq K195 d_method_7_code_116 (by decide) (pc' := 315) (pc2 := 119) (by decide) rfl (fun q => absurd q (by decide)) (fun hc116 => ?_)
  refine k_aloadN K195 d_method_7_code_119 (pc' := 120) rfl rfl rfl ?_
  refine k_iload K195 d_method_7_code_120 (pc' := 122) rfl rfl ?_
  refine k_lloadN K195 d_method_7_code_122 (pc' := 123) rfl rfl ?_
  refine k_aload K195 d_method_7_code_123 (pc' := 125) rfl rfl rfl ?_
  refine k_bipush K195 (7 : Int32) d_method_7_code_125 (pc' := 127) rfl rfl ?_
  refine k_iload K195 d_method_7_code_127 (pc' := 129) rfl rfl ?_
  refine k_staticP K195 [(.ref a), (.int ((stI + (Int32.ofNat (szL n))) - (1 : Int32))), (.long x), (.ref pa), (.int (7 : Int32)), (.int (Int32.ofNat (szL n)))] [] 0 (w310 hw) (w311 hw) (w251 hw) (w312 hw) (by decide) pd__Ljava_lang_String_IJ_JII_Z_1743 (c_d l Z a0 hw hEW n0 a t kt xs ff cs0 ((stI + (Int32.ofNat (szL n))) - (1 : Int32)) 7 x 10000000 pa kp n sg sn 7 h188 K195.old SF hff S hl7 hax hx hfit hdg V_pa hen (by decide) (by decide) (by decide) rfl SC hcs) d_method_7_code_129 nofun (pc' := 132) rfl rfl rfl rfl (Nat.le_of_eq rfl) (by decide) (by decide) (by decide) (by decide) ?_
  intro b196 T196 L196 K196 tr196
  show Goes p_.tables e_ below_ _ (T196.setTop (mkF m_ 132 #[.val (.ref a), .val (.int stI), .val (.long x), .second, .val (.int (Int32.ofNat (szL n))), .val (.ref pa), .val (.int ((stI + (Int32.ofNat (szL n))) - (1 : Int32)))] [(.int (1 : Int32))]))
  refine k_if_eq K196 d_method_7_code_132 (by decide) (pc' := 315) (pc2 := 135) (by decide) rfl (fun q => absurd q (by decide)) (fun hc132 => ?_)
  refine k_aloadN K196 d_method_7_code_135 (pc' := 136) rfl rfl rfl ?_
  refine k_iload K196 d_method_7_code_136 (pc' := 138) rfl rfl ?_
  refine k_lloadN K196 d_method_7_code_138 (pc' := 139) rfl rfl ?_
  refine k_aload K196 d_method_7_code_139 (pc' := 141) rfl rfl rfl ?_
  refine k_bipush K196 (8 : Int32) d_method_7_code_141 (pc' := 143) rfl rfl ?_
  refine k_iload K196 d_method_7_code_143 (pc' := 145) rfl rfl ?_
  refine k_staticP K196 [(.ref a), (.int ((stI + (Int32.ofNat (szL n))) - (1 : Int32))), (.long x), (.ref pa), (.int (8 : Int32)), (.int (Int32.ofNat (szL n)))] [] 0 (w310 hw) (w311 hw) (w251 hw) (w312 hw) (by decide) pd__Ljava_lang_String_IJ_JII_Z_1743 (c_d l Z a0 hw hEW n0 a t kt xs ff cs0 ((stI + (Int32.ofNat (szL n))) - (1 : Int32)) 8 x 100000000 pa kp n sg sn 8 h188 K196.old SF hff S hl7 hax hx hfit hdg V_pa hen (by decide) (by decide) (by decide) rfl SC hcs) d_method_7_code_145 nofun (pc' := 148) rfl rfl rfl rfl (Nat.le_of_eq rfl) (by decide) (by decide) (by decide) (by decide) ?_
  intro b197 T197 L197 K197 tr197
  show Goes p_.tables e_ below_ _ (T197.setTop (mkF m_ 148 #[.val (.ref a), .val (.int stI), .val (.long x), .second, .val (.int (Int32.ofNat (szL n))), .val (.ref pa), .val (.int ((stI + (Int32.ofNat (szL n))) - (1 : Int32)))] [(.int (1 : Int32))]))
  refine k_if_eq K197 d_method_7_code_148 (by decide) (pc' := 315) (pc2 := 151) (by decide) rfl (fun q => absurd q (by decide)) (fun hc148 => ?_)
  refine k_aloadN K197 d_method_7_code_151 (pc' := 152) rfl rfl rfl ?_
  refine k_iload K197 d_method_7_code_152 (pc' := 154) rfl rfl ?_
  refine k_lloadN K197 d_method_7_code_154 (pc' := 155) rfl rfl ?_
  refine k_aload K197 d_method_7_code_155 (pc' := 157) rfl rfl rfl ?_
  refine k_bipush K197 (9 : Int32) d_method_7_code_157 (pc' := 159) rfl rfl ?_
  refine k_iload K197 d_method_7_code_159 (pc' := 161) rfl rfl ?_
  refine k_staticP K197 [(.ref a), (.int ((stI + (Int32.ofNat (szL n))) - (1 : Int32))), (.long x), (.ref pa), (.int (9 : Int32)), (.int (Int32.ofNat (szL n)))] [] 0 (w310 hw) (w311 hw) (w251 hw) (w312 hw) (by decide) pd__Ljava_lang_String_IJ_JII_Z_1743 (c_d l Z a0 hw hEW n0 a t kt xs ff cs0 ((stI + (Int32.ofNat (szL n))) - (1 : Int32)) 9 x 1000000000 pa kp n sg sn 9 h188 K197.old SF hff S hl7 hax hx hfit hdg V_pa hen (by decide) (by decide) (by decide) rfl SC hcs) d_method_7_code_161 nofun (pc' := 164) rfl rfl rfl rfl (Nat.le_of_eq rfl) (by decide) (by decide) (by decide) (by decide) ?_
  intro b198 T198 L198 K198 tr198
  show Goes p_.tables e_ below_ _ (T198.setTop (mkF m_ 164 #[.val (.ref a), .val (.int stI), .val (.long x), .second, .val (.int (Int32.ofNat (szL n))), .val (.ref pa), .val (.int ((stI + (Int32.ofNat (szL n))) - (1 : Int32)))] [(.int (1 : Int32))]))
  refine k_if_eq K198 d_method_7_code_164 (by decide) (pc' := 315) (pc2 := 167) (by decide) rfl (fun q => absurd q (by decide)) (fun hc164 => ?_)
  refine k_aloadN K198 d_method_7_code_167 (pc' := 168) rfl rfl rfl ?_
  refine k_iload K198 d_method_7_code_168 (pc' := 170) rfl rfl ?_
  refine k_lloadN K198 d_method_7_code_170 (pc' := 171) rfl rfl ?_
  refine k_aload K198 d_method_7_code_171 (pc' := 173) rfl rfl rfl ?_
  refine k_bipush K198 (10 : Int32) d_method_7_code_173 (pc' := 175) rfl rfl ?_
  refine k_iload K198 d_method_7_code_175 (pc' := 177) rfl rfl ?_
  refine k_staticP K198 [(.ref a), (.int ((stI + (Int32.ofNat (szL n))) - (1 : Int32))), (.long x), (.ref pa), (.int (10 : Int32)), (.int (Int32.ofNat (szL n)))] [] 0 (w310 hw) (w311 hw) (w251 hw) (w312 hw) (by decide) pd__Ljava_lang_String_IJ_JII_Z_1743 (c_d l Z a0 hw hEW n0 a t kt xs ff cs0 ((stI + (Int32.ofNat (szL n))) - (1 : Int32)) 10 x 10000000000 pa kp n sg sn 10 h188 K198.old SF hff S hl7 hax hx hfit hdg V_pa hen (by decide) (by decide) (by decide) rfl SC hcs) d_method_7_code_177 nofun (pc' := 180) rfl rfl rfl rfl (Nat.le_of_eq rfl) (by decide) (by decide) (by decide) (by decide) ?_
  intro b199 T199 L199 K199 tr199
  show Goes p_.tables e_ below_ _ (T199.setTop (mkF m_ 180 #[.val (.ref a), .val (.int stI), .val (.long x), .second, .val (.int (Int32.ofNat (szL n))), .val (.ref pa), .val (.int ((stI + (Int32.ofNat (szL n))) - (1 : Int32)))] [(.int (1 : Int32))]))
  refine k_if_eq K199 d_method_7_code_180 (by decide) (pc' := 315) (pc2 := 183) (by decide) rfl (fun q => absurd q (by decide)) (fun hc180 => ?_)
  refine k_aloadN K199 d_method_7_code_183 (pc' := 184) rfl rfl rfl ?_
  refine k_iload K199 d_method_7_code_184 (pc' := 186) rfl rfl ?_
  refine k_lloadN K199 d_method_7_code_186 (pc' := 187) rfl rfl ?_
  refine k_aload K199 d_method_7_code_187 (pc' := 189) rfl rfl rfl ?_
  refine k_bipush K199 (11 : Int32) d_method_7_code_189 (pc' := 191) rfl rfl ?_
  refine k_iload K199 d_method_7_code_191 (pc' := 193) rfl rfl ?_
  refine k_staticP K199 [(.ref a), (.int ((stI + (Int32.ofNat (szL n))) - (1 : Int32))), (.long x), (.ref pa), (.int (11 : Int32)), (.int (Int32.ofNat (szL n)))] [] 0 (w310 hw) (w311 hw) (w251 hw) (w312 hw) (by decide) pd__Ljava_lang_String_IJ_JII_Z_1743 (c_d l Z a0 hw hEW n0 a t kt xs ff cs0 ((stI + (Int32.ofNat (szL n))) - (1 : Int32)) 11 x 100000000000 pa kp n sg sn 11 h188 K199.old SF hff S hl7 hax hx hfit hdg V_pa hen (by decide) (by decide) (by decide) rfl SC hcs) d_method_7_code_193 nofun (pc' := 196) rfl rfl rfl rfl (Nat.le_of_eq rfl) (by decide) (by decide) (by decide) (by decide) ?_
  intro b200 T200 L200 K200 tr200
  show Goes p_.tables e_ below_ _ (T200.setTop (mkF m_ 196 #[.val (.ref a), .val (.int stI), .val (.long x), .second, .val (.int (Int32.ofNat (szL n))), .val (.ref pa), .val (.int ((stI + (Int32.ofNat (szL n))) - (1 : Int32)))] [(.int (1 : Int32))]))
  refine k_if_eq K200 d_method_7_code_196 (by decide) (pc' := 315) (pc2 := 199) (by decide) rfl (fun q => absurd q (by decide)) (fun hc196 => ?_)
  refine k_aloadN K200 d_method_7_code_199 (pc' := 200) rfl rfl rfl ?_
  refine k_iload K200 d_method_7_code_200 (pc' := 202) rfl rfl ?_
  refine k_lloadN K200 d_method_7_code_202 (pc' := 203) rfl rfl ?_
  refine k_aload K200 d_method_7_code_203 (pc' := 205) rfl rfl rfl ?_
  refine k_bipush K200 (12 : Int32) d_method_7_code_205 (pc' := 207) rfl rfl ?_
  refine k_iload K200 d_method_7_code_207 (pc' := 209) rfl rfl ?_
  refine k_staticP K200 [(.ref a), (.int ((stI + (Int32.ofNat (szL n))) - (1 : Int32))), (.long x), (.ref pa), (.int (12 : Int32)), (.int (Int32.ofNat (szL n)))] [] 0 (w310 hw) (w311 hw) (w251 hw) (w312 hw) (by decide) pd__Ljava_lang_String_IJ_JII_Z_1743 (c_d l Z a0 hw hEW n0 a t kt xs ff cs0 ((stI + (Int32.ofNat (szL n))) - (1 : Int32)) 12 x 1000000000000 pa kp n sg sn 12 h188 K200.old SF hff S hl7 hax hx hfit hdg V_pa hen (by decide) (by decide) (by decide) rfl SC hcs) d_method_7_code_209 nofun (pc' := 212) rfl rfl rfl rfl (Nat.le_of_eq rfl) (by decide) (by decide) (by decide) (by decide) ?_
  intro b201 T201 L201 K201 tr201
  show Goes p_.tables e_ below_ _ (T201.setTop (mkF m_ 212 #[.val (.ref a), .val (.int stI), .val (.long x), .second, .val (.int (Int32.ofNat (szL n))), .val (.ref pa), .val (.int ((stI + (Int32.ofNat (szL n))) - (1 : Int32)))] [(.int (1 : Int32))]))
  refine k_if_eq K201 d_method_7_code_212 (by decide) (pc' := 315) (pc2 := 215) (by decide) rfl (fun q => absurd q (by decide)) (fun hc212 => ?_)
  refine k_aloadN K201 d_method_7_code_215 (pc' := 216) rfl rfl rfl ?_
  refine k_iload K201 d_method_7_code_216 (pc' := 218) rfl rfl ?_
  refine k_lloadN K201 d_method_7_code_218 (pc' := 219) rfl rfl ?_
  refine k_aload K201 d_method_7_code_219 (pc' := 221) rfl rfl rfl ?_
  refine k_bipush K201 (13 : Int32) d_method_7_code_221 (pc' := 223) rfl rfl ?_
  refine k_iload K201 d_method_7_code_223 (pc' := 225) rfl rfl ?_
  refine k_staticP K201 [(.ref a), (.int ((stI + (Int32.ofNat (szL n))) - (1 : Int32))), (.long x), (.ref pa), (.int (13 : Int32)), (.int (Int32.ofNat (szL n)))] [] 0 (w310 hw) (w311 hw) (w251 hw) (w312 hw) (by decide) pd__Ljava_lang_String_IJ_JII_Z_1743 (c_d l Z a0 hw hEW n0 a t kt xs ff cs0 ((stI + (Int32.ofNat (szL n))) - (1 : Int32)) 13 x 10000000000000 pa kp n sg sn 13 h188 K201.old SF hff S hl7 hax hx hfit hdg V_pa hen (by decide) (by decide) (by decide) rfl SC hcs) d_method_7_code_225 nofun (pc' := 228) rfl rfl rfl rfl (Nat.le_of_eq rfl) (by decide) (by decide) (by decide) (by decide) ?_
  intro b202 T202 L202 K202 tr202
  show Goes p_.tables e_ below_ _ (T202.setTop (mkF m_ 228 #[.val (.ref a), .val (.int stI), .val (.long x), .second, .val (.int (Int32.ofNat (szL n))), .val (.ref pa), .val (.int ((stI + (Int32.ofNat (szL n))) - (1 : Int32)))] [(.int (1 : Int32))]))
  refine k_if_eq K202 d_method_7_code_228 (by decide) (pc' := 315) (pc2 := 231) (by decide) rfl (fun q => absurd q (by decide)) (fun hc228 => ?_)
  refine k_aloadN K202 d_method_7_code_231 (pc' := 232) rfl rfl rfl ?_
  refine k_iload K202 d_method_7_code_232 (pc' := 234) rfl rfl ?_
  refine k_lloadN K202 d_method_7_code_234 (pc' := 235) rfl rfl ?_
  refine k_aload K202 d_method_7_code_235 (pc' := 237) rfl rfl rfl ?_
  refine k_bipush K202 (14 : Int32) d_method_7_code_237 (pc' := 239) rfl rfl ?_
  refine k_iload K202 d_method_7_code_239 (pc' := 241) rfl rfl ?_
  refine k_staticP K202 [(.ref a), (.int ((stI + (Int32.ofNat (szL n))) - (1 : Int32))), (.long x), (.ref pa), (.int (14 : Int32)), (.int (Int32.ofNat (szL n)))] [] 0 (w310 hw) (w311 hw) (w251 hw) (w312 hw) (by decide) pd__Ljava_lang_String_IJ_JII_Z_1743 (c_d l Z a0 hw hEW n0 a t kt xs ff cs0 ((stI + (Int32.ofNat (szL n))) - (1 : Int32)) 14 x 100000000000000 pa kp n sg sn 14 h188 K202.old SF hff S hl7 hax hx hfit hdg V_pa hen (by decide) (by decide) (by decide) rfl SC hcs) d_method_7_code_241 nofun (pc' := 244) rfl rfl rfl rfl (Nat.le_of_eq rfl) (by decide) (by decide) (by decide) (by decide) ?_
  intro b203 T203 L203 K203 tr203
  show Goes p_.tables e_ below_ _ (T203.setTop (mkF m_ 244 #[.val (.ref a), .val (.int stI), .val (.long x), .second, .val (.int (Int32.ofNat (szL n))), .val (.ref pa), .val (.int ((stI + (Int32.ofNat (szL n))) - (1 : Int32)))] [(.int (1 : Int32))]))
  refine k_if_eq K203 d_method_7_code_244 (by decide) (pc' := 315) (pc2 := 247) (by decide) rfl (fun q => absurd q (by decide)) (fun hc244 => ?_)
  refine k_aloadN K203 d_method_7_code_247 (pc' := 248) rfl rfl rfl ?_
  refine k_iload K203 d_method_7_code_248 (pc' := 250) rfl rfl ?_
  refine k_lloadN K203 d_method_7_code_250 (pc' := 251) rfl rfl ?_
  refine k_aload K203 d_method_7_code_251 (pc' := 253) rfl rfl rfl ?_
  refine k_bipush K203 (15 : Int32) d_method_7_code_253 (pc' := 255) rfl rfl ?_
  refine k_iload K203 d_method_7_code_255 (pc' := 257) rfl rfl ?_
  refine k_staticP K203 [(.ref a), (.int ((stI + (Int32.ofNat (szL n))) - (1 : Int32))), (.long x), (.ref pa), (.int (15 : Int32)), (.int (Int32.ofNat (szL n)))] [] 0 (w310 hw) (w311 hw) (w251 hw) (w312 hw) (by decide) pd__Ljava_lang_String_IJ_JII_Z_1743 (c_d l Z a0 hw hEW n0 a t kt xs ff cs0 ((stI + (Int32.ofNat (szL n))) - (1 : Int32)) 15 x 1000000000000000 pa kp n sg sn 15 h188 K203.old SF hff S hl7 hax hx hfit hdg V_pa hen (by decide) (by decide) (by decide) rfl SC hcs) d_method_7_code_257 nofun (pc' := 260) rfl rfl rfl rfl (Nat.le_of_eq rfl) (by decide) (by decide) (by decide) (by decide) ?_
  intro b204 T204 L204 K204 tr204
  show Goes p_.tables e_ below_ _ (T204.setTop (mkF m_ 260 #[.val (.ref a), .val (.int stI), .val (.long x), .second, .val (.int (Int32.ofNat (szL n))), .val (.ref pa), .val (.int ((stI + (Int32.ofNat (szL n))) - (1 : Int32)))] [(.int (1 : Int32))]))
  refine k_if_eq K204 d_method_7_code_260 (by decide) (pc' := 315) (pc2 := 263) (by decide) rfl (fun q => absurd q (by decide)) (fun hc260 => ?_)
  refine k_aloadN K204 d_method_7_code_263 (pc' := 264) rfl rfl rfl ?_
  refine k_iload K204 d_method_7_code_264 (pc' := 266) rfl rfl ?_
  refine k_lloadN K204 d_method_7_code_266 (pc' := 267) rfl rfl ?_
  refine k_aload K204 d_method_7_code_267 (pc' := 269) rfl rfl rfl ?_
  refine k_bipush K204 (16 : Int32) d_method_7_code_269 (pc' := 271) rfl rfl ?_
  refine k_iload K204 d_method_7_code_271 (pc' := 273) rfl rfl ?_
  refine k_staticP K204 [(.ref a), (.int ((stI + (Int32.ofNat (szL n))) - (1 : Int32))), (.long x), (.ref pa), (.int (16 : Int32)), (.int (Int32.ofNat (szL n)))] [] 0 (w310 hw) (w311 hw) (w251 hw) (w312 hw) (by decide) pd__Ljava_lang_String_IJ_JII_Z_1743 (c_d l Z a0 hw hEW n0 a t kt xs ff cs0 ((stI + (Int32.ofNat (szL n))) - (1 : Int32)) 16 x 10000000000000000 pa kp n sg sn 16 h188 K204.old SF hff S hl7 hax hx hfit hdg V_pa hen (by decide) (by decide) (by decide) rfl SC hcs) d_method_7_code_273 nofun (pc' := 276) rfl rfl rfl rfl (Nat.le_of_eq rfl) (by decide) (by decide) (by decide) (by decide) ?_
  intro b205 T205 L205 K205 tr205
  show Goes p_.tables e_ below_ _ (T205.setTop (mkF m_ 276 #[.val (.ref a), .val (.int stI), .val (.long x), .second, .val (.int (Int32.ofNat (szL n))), .val (.ref pa), .val (.int ((stI + (Int32.ofNat (szL n))) - (1 : Int32)))] [(.int (1 : Int32))]))
  refine k_if_eq K205 d_method_7_code_276 (by decide) (pc' := 315) (pc2 := 279) (by decide) rfl (fun q => absurd q (by decide)) (fun hc276 => ?_)
  refine k_aloadN K205 d_method_7_code_279 (pc' := 280) rfl rfl rfl ?_
  refine k_iload K205 d_method_7_code_280 (pc' := 282) rfl rfl ?_
  refine k_lloadN K205 d_method_7_code_282 (pc' := 283) rfl rfl ?_
  refine k_aload K205 d_method_7_code_283 (pc' := 285) rfl rfl rfl ?_
  refine k_bipush K205 (17 : Int32) d_method_7_code_285 (pc' := 287) rfl rfl ?_
  refine k_iload K205 d_method_7_code_287 (pc' := 289) rfl rfl ?_
  refine k_staticP K205 [(.ref a), (.int ((stI + (Int32.ofNat (szL n))) - (1 : Int32))), (.long x), (.ref pa), (.int (17 : Int32)), (.int (Int32.ofNat (szL n)))] [] 0 (w310 hw) (w311 hw) (w251 hw) (w312 hw) (by decide) pd__Ljava_lang_String_IJ_JII_Z_1743 (c_d l Z a0 hw hEW n0 a t kt xs ff cs0 ((stI + (Int32.ofNat (szL n))) - (1 : Int32)) 17 x 100000000000000000 pa kp n sg sn 17 h188 K205.old SF hff S hl7 hax hx hfit hdg V_pa hen (by decide) (by decide) (by decide) rfl SC hcs) d_method_7_code_289 nofun (pc' := 292) rfl rfl rfl rfl (Nat.le_of_eq rfl) (by decide) (by decide) (by decide) (by decide) ?_
  intro b206 T206 L206 K206 tr206
  show Goes p_.tables e_ below_ _ (T206.setTop (mkF m_ 292 #[.val (.ref a), .val (.int stI), .val (.long x), .second, .val (.int (Int32.ofNat (szL n))), .val (.ref pa), .val (.int ((stI + (Int32.ofNat (szL n))) - (1 : Int32)))] [(.int (1 : Int32))]))
  refine k_if_eq K206 d_method_7_code_292 (by decide) (pc' := 315) (pc2 := 295) (by decide) rfl (fun q => absurd q (by decide)) (fun hc292 => ?_)
  refine k_aloadN K206 d_method_7_code_295 (pc' := 296) rfl rfl rfl ?_
  refine k_iload K206 d_method_7_code_296 (pc' := 298) rfl rfl ?_
  refine k_lloadN K206 d_method_7_code_298 (pc' := 299) rfl rfl ?_
  refine k_aload K206 d_method_7_code_299 (pc' := 301) rfl rfl rfl ?_
  refine k_bipush K206 (18 : Int32) d_method_7_code_301 (pc' := 303) rfl rfl ?_
  refine k_iload K206 d_method_7_code_303 (pc' := 305) rfl rfl ?_
  refine k_staticP K206 [(.ref a), (.int ((stI + (Int32.ofNat (szL n))) - (1 : Int32))), (.long x), (.ref pa), (.int (18 : Int32)), (.int (Int32.ofNat (szL n)))] [] 0 (w310 hw) (w311 hw) (w251 hw) (w312 hw) (by decide) pd__Ljava_lang_String_IJ_JII_Z_1743 (c_d l Z a0 hw hEW n0 a t kt xs ff cs0 ((stI + (Int32.ofNat (szL n))) - (1 : Int32)) 18 x 1000000000000000000 pa kp n sg sn 18 h188 K206.old SF hff S hl7 hax hx hfit hdg V_pa hen (by decide) (by decide) (by decide) rfl SC hcs) d_method_7_code_305 nofun (pc' := 308) rfl rfl rfl rfl (Nat.le_of_eq rfl) (by decide) (by decide) (by decide) (by decide) ?_
  intro b207 T207 L207 K207 tr207
  show Goes p_.tables e_ below_ _ (T207.setTop (mkF m_ 308 #[.val (.ref a), .val (.int stI), .val (.long x), .second, .val (.int (Int32.ofNat (szL n))), .val (.ref pa), .val (.int ((stI + (Int32.ofNat (szL n))) - (1 : Int32)))] [(.int (1 : Int32))]))
  refine k_if_eq K207 d_method_7_code_308 (by decide) (pc' := 315) (pc2 := 311) (by decide) rfl (fun q => absurd q (by decide)) (fun hc308 => ?_)
  refine k_iconst K207 (1 : Int32) d_method_7_code_311 (pc' := 312) rfl rfl ?_
  refine k_goto K207 d_method_7_code_312 (by decide) (pc' := 316) (by decide) ?_
  exact k_nret K207 d_method_7_code_316 rfl (by simp) rfl (fun sf ht => ⟨rfl, KP⟩) (by decide) (by decide)
theorem w0 {Z : State} {a0 : Array Value} (hw : Tb a0 Z) : (Jvm.Cond.constant "com/example/warm_tariff/warmtariff/UndecodableGetMessagePinLaw" (7 : Nat) (2147483647 : Int32)).before a0 Z = true := hw _ (List.mem_of_getElem? (i := 0) rfl)
theorem w4 {Z : State} {a0 : Array Value} (hw : Tb a0 Z) : (Jvm.Cond.methodLink "com/example/warm_tariff/warmtariff/UndecodableGetMessagePinLaw" (20 : Nat) ({ cls := "com/example/warm_tariff/warmtariff/TextEncoding", name := "optionName", desc := "()Ljava/lang/String;" } : Jvm.MethodName)).before a0 Z = true := hw _ (List.mem_of_getElem? (i := 4) rfl)
theorem w11 {Z : State} {a0 : Array Value} (hw : Tb a0 Z) : (Jvm.Cond.classLink "com/example/warm_tariff/warmtariff/UndecodableGetMessagePinLaw" (24 : Nat) "com/example/warm_tariff/warmtariff/DecodingReader$Undecodable").before a0 Z = true := hw _ (List.mem_of_getElem? (i := 11) rfl)
theorem w13 {Z : State} {a0 : Array Value} (hw : Tb a0 Z) : (Jvm.Cond.initialized "com/example/warm_tariff/warmtariff/DecodingReader$Undecodable").before a0 Z = true := hw _ (List.mem_of_getElem? (i := 13) rfl)
theorem w14 {Z : State} {a0 : Array Value} (hw : Tb a0 Z) : (Jvm.Cond.methodLink "com/example/warm_tariff/warmtariff/UndecodableGetMessagePinLaw" (26 : Nat) ({ cls := "com/example/warm_tariff/warmtariff/DecodingReader$Undecodable", name := "<init>", desc := "(Lcom/example/warm_tariff/warmtariff/TextEncoding;J)V" } : Jvm.MethodName)).before a0 Z = true := hw _ (List.mem_of_getElem? (i := 14) rfl)
theorem w16 {Z : State} {a0 : Array Value} (hw : Tb a0 Z) : (Jvm.Cond.code ({ cls := "com/example/warm_tariff/warmtariff/DecodingReader$Undecodable", name := "<init>", desc := "(Lcom/example/warm_tariff/warmtariff/TextEncoding;J)V" } : Jvm.MethodName) prog_9_method_1_code (4 : Nat) (Option.none : Option Jvm.ClassFile.FieldType)).before a0 Z = true := hw _ (List.mem_of_getElem? (i := 16) rfl)
theorem w15 {Z : State} {a0 : Array Value} (hw : Tb a0 Z) : (Jvm.Cond.instanceMethod ({ cls := "com/example/warm_tariff/warmtariff/DecodingReader$Undecodable", name := "<init>", desc := "(Lcom/example/warm_tariff/warmtariff/TextEncoding;J)V" } : Jvm.MethodName)).before a0 Z = true := hw _ (List.mem_of_getElem? (i := 15) rfl)
theorem pd__Lcom_example_warm_tariff_warmtariff_TextEncoding_J_V_7242 : parseMethodDescriptor "(Lcom/example/warm_tariff/warmtariff/TextEncoding;J)V" = some ⟨[(.object "com/example/warm_tariff/warmtariff/TextEncoding"), .long], none⟩ := by decide +kernel
theorem w79 {Z : State} {a0 : Array Value} (hw : Tb a0 Z) : (Jvm.Cond.methodLink "com/example/warm_tariff/warmtariff/UndecodableGetMessagePinLaw" (29 : Nat) ({ cls := "com/example/warm_tariff/warmtariff/DecodingReader$Undecodable", name := "getMessage", desc := "()Ljava/lang/String;" } : Jvm.MethodName)).before a0 Z = true := hw _ (List.mem_of_getElem? (i := 79) rfl)
theorem w83 {Z : State} {a0 : Array Value} (hw : Tb a0 Z) : (Jvm.Cond.code ({ cls := "com/example/warm_tariff/warmtariff/DecodingReader$Undecodable", name := "getMessage", desc := "()Ljava/lang/String;" } : Jvm.MethodName) prog_9_method_4_code (1 : Nat) (Option.some (Jvm.ClassFile.FieldType.object "java/lang/String"))).before a0 Z = true := hw _ (List.mem_of_getElem? (i := 83) rfl)
theorem w82 {Z : State} {a0 : Array Value} (hw : Tb a0 Z) : (Jvm.Cond.selects "com/example/warm_tariff/warmtariff/DecodingReader$Undecodable" ({ cls := "com/example/warm_tariff/warmtariff/DecodingReader$Undecodable", name := "getMessage", desc := "()Ljava/lang/String;" } : Jvm.MethodName) ({ cls := "com/example/warm_tariff/warmtariff/DecodingReader$Undecodable", name := "getMessage", desc := "()Ljava/lang/String;" } : Jvm.MethodName)).before a0 Z = true := hw _ (List.mem_of_getElem? (i := 82) rfl)
theorem w80 {Z : State} {a0 : Array Value} (hw : Tb a0 Z) : (Jvm.Cond.declares ({ cls := "com/example/warm_tariff/warmtariff/DecodingReader$Undecodable", name := "getMessage", desc := "()Ljava/lang/String;" } : Jvm.MethodName)).before a0 Z = true := hw _ (List.mem_of_getElem? (i := 80) rfl)
theorem w81 {Z : State} {a0 : Array Value} (hw : Tb a0 Z) : (Jvm.Cond.instanceMethod ({ cls := "com/example/warm_tariff/warmtariff/DecodingReader$Undecodable", name := "getMessage", desc := "()Ljava/lang/String;" } : Jvm.MethodName)).before a0 Z = true := hw _ (List.mem_of_getElem? (i := 81) rfl)
theorem w249 {Z : State} {a0 : Array Value} (hw : Tb a0 Z) : (Jvm.Cond.methodLink "com/example/warm_tariff/warmtariff/UndecodableGetMessagePinLaw" (38 : Nat) ({ cls := "com/example/warm_tariff/warmtariff/UndecodableGetMessagePinLaw", name := "digits", desc := "(J)I" } : Jvm.MethodName)).before a0 Z = true := hw _ (List.mem_of_getElem? (i := 249) rfl)
theorem w252 {Z : State} {a0 : Array Value} (hw : Tb a0 Z) : (Jvm.Cond.code ({ cls := "com/example/warm_tariff/warmtariff/UndecodableGetMessagePinLaw", name := "digits", desc := "(J)I" } : Jvm.MethodName) method_5_code (4 : Nat) (Option.some Jvm.ClassFile.FieldType.int)).before a0 Z = true := hw _ (List.mem_of_getElem? (i := 252) rfl)
theorem w250 {Z : State} {a0 : Array Value} (hw : Tb a0 Z) : (Jvm.Cond.static ({ cls := "com/example/warm_tariff/warmtariff/UndecodableGetMessagePinLaw", name := "digits", desc := "(J)I" } : Jvm.MethodName)).before a0 Z = true := hw _ (List.mem_of_getElem? (i := 250) rfl)
theorem w278 {Z : State} {a0 : Array Value} (hw : Tb a0 Z) : (Jvm.Cond.stringLink "com/example/warm_tariff/warmtariff/UndecodableGetMessagePinLaw" (44 : Nat) "line ").before a0 Z = true := hw _ (List.mem_of_getElem? (i := 278) rfl)
theorem w279 {Z : State} {a0 : Array Value} (hw : Tb a0 Z) : (Jvm.Cond.methodLink "com/example/warm_tariff/warmtariff/UndecodableGetMessagePinLaw" (46 : Nat) ({ cls := "com/example/warm_tariff/warmtariff/UndecodableGetMessagePinLaw", name := "region", desc := "(Ljava/lang/String;ILjava/lang/String;)Z" } : Jvm.MethodName)).before a0 Z = true := hw _ (List.mem_of_getElem? (i := 279) rfl)
theorem w281 {Z : State} {a0 : Array Value} (hw : Tb a0 Z) : (Jvm.Cond.code ({ cls := "com/example/warm_tariff/warmtariff/UndecodableGetMessagePinLaw", name := "region", desc := "(Ljava/lang/String;ILjava/lang/String;)Z" } : Jvm.MethodName) method_9_code (3 : Nat) (Option.some Jvm.ClassFile.FieldType.boolean)).before a0 Z = true := hw _ (List.mem_of_getElem? (i := 281) rfl)
theorem w280 {Z : State} {a0 : Array Value} (hw : Tb a0 Z) : (Jvm.Cond.static ({ cls := "com/example/warm_tariff/warmtariff/UndecodableGetMessagePinLaw", name := "region", desc := "(Ljava/lang/String;ILjava/lang/String;)Z" } : Jvm.MethodName)).before a0 Z = true := hw _ (List.mem_of_getElem? (i := 280) rfl)
theorem pd__Ljava_lang_String_ILjava_lang_String__Z_4774 : parseMethodDescriptor "(Ljava/lang/String;ILjava/lang/String;)Z" = some ⟨[(.object "java/lang/String"), .int, (.object "java/lang/String")], some .boolean⟩ := by decide +kernel
theorem w307 {Z : State} {a0 : Array Value} (hw : Tb a0 Z) : (Jvm.Cond.methodLink "com/example/warm_tariff/warmtariff/UndecodableGetMessagePinLaw" (54 : Nat) ({ cls := "com/example/warm_tariff/warmtariff/UndecodableGetMessagePinLaw", name := "number", desc := "(Ljava/lang/String;IJI)Z" } : Jvm.MethodName)).before a0 Z = true := hw _ (List.mem_of_getElem? (i := 307) rfl)
theorem w309 {Z : State} {a0 : Array Value} (hw : Tb a0 Z) : (Jvm.Cond.code ({ cls := "com/example/warm_tariff/warmtariff/UndecodableGetMessagePinLaw", name := "number", desc := "(Ljava/lang/String;IJI)Z" } : Jvm.MethodName) method_7_code (7 : Nat) (Option.some Jvm.ClassFile.FieldType.boolean)).before a0 Z = true := hw _ (List.mem_of_getElem? (i := 309) rfl)
theorem w308 {Z : State} {a0 : Array Value} (hw : Tb a0 Z) : (Jvm.Cond.static ({ cls := "com/example/warm_tariff/warmtariff/UndecodableGetMessagePinLaw", name := "number", desc := "(Ljava/lang/String;IJI)Z" } : Jvm.MethodName)).before a0 Z = true := hw _ (List.mem_of_getElem? (i := 308) rfl)
theorem pd__Ljava_lang_String_IJI_Z_5648 : parseMethodDescriptor "(Ljava/lang/String;IJI)Z" = some ⟨[(.object "java/lang/String"), .int, .long, .int], some .boolean⟩ := by decide +kernel
theorem w316 {Z : State} {a0 : Array Value} (hw : Tb a0 Z) : (Jvm.Cond.stringLink "com/example/warm_tariff/warmtariff/UndecodableGetMessagePinLaw" (58 : Nat) ": not ").before a0 Z = true := hw _ (List.mem_of_getElem? (i := 316) rfl)
theorem w317 {Z : State} {a0 : Array Value} (hw : Tb a0 Z) : (Jvm.Cond.stringLink "com/example/warm_tariff/warmtariff/UndecodableGetMessagePinLaw" (60 : Nat) " text").before a0 Z = true := hw _ (List.mem_of_getElem? (i := 317) rfl)
theorem w1 {Z : State} {a0 : Array Value} (hw : Tb a0 Z) : (Jvm.Cond.fieldLink "com/example/warm_tariff/warmtariff/UndecodableGetMessagePinLaw" (17 : Nat) "com/example/warm_tariff/warmtariff/TextEncoding" "WINDOWS_31J" "Lcom/example/warm_tariff/warmtariff/TextEncoding;").before a0 Z = true := hw _ (List.mem_of_getElem? (i := 1) rfl)
theorem w318 {Z : State} {a0 : Array Value} (hw : Tb a0 Z) : (Jvm.Cond.fieldLink "com/example/warm_tariff/warmtariff/UndecodableGetMessagePinLaw" (14 : Nat) "com/example/warm_tariff/warmtariff/TextEncoding" "UTF_8_BOM" "Lcom/example/warm_tariff/warmtariff/TextEncoding;").before a0 Z = true := hw _ (List.mem_of_getElem? (i := 318) rfl)
theorem w323 {Z : State} {a0 : Array Value} (hw : Tb a0 Z) : (Jvm.Cond.fieldLink "com/example/warm_tariff/warmtariff/UndecodableGetMessagePinLaw" (8 : Nat) "com/example/warm_tariff/warmtariff/TextEncoding" "UTF_8" "Lcom/example/warm_tariff/warmtariff/TextEncoding;").before a0 Z = true := hw _ (List.mem_of_getElem? (i := 323) rfl)
set_option maxRecDepth 65536 in
set_option maxHeartbeats 40000000 in
theorem c_law (l : Launch) (Z : State) (a0 : Array Value) (hw : Tb a0 Z) (hEW : EW Z a0 EL0) (n0 : Nat) (line : Int64) (ei : Int32) (ff : Value) (u0 u1 : Value) (en1 nm1 nb1 : Addr) (kn1 : ClassId) (en2 nm2 nb2 : Addr) (kn2 : ClassId) (en3 nm3 nb3 : Addr) (kn3 : ClassId) (od td : Addr) (ko kt_ : ClassId) (OL TL : List Value) (cs0 : Int32) (h0 : Heap) (O : Old Z n0 h0) (hl_ : l.stackTraces = true) (SF : Sta Z Z.heap "jdk/internal/util/Preconditions" "SIOOBE_FORMATTER" "Ljava/util/function/BiFunction;" ff) (hff : ff.isRef = true) (SE1 : Sta Z Z.heap "com/example/warm_tariff/warmtariff/TextEncoding" "UTF_8" "Lcom/example/warm_tariff/warmtariff/TextEncoding;" (.ref en1)) (XE1 : Exa Z Z.heap en1 "com/example/warm_tariff/warmtariff/TextEncoding") (FE1 : Fld Z Z.heap en1 "com/example/warm_tariff/warmtariff/TextEncoding" "optionName" "Ljava/lang/String;" (.ref nm1)) (ST1 : Str Z Z.heap nm1 nb1 kn1 0 5 (([117, 116, 102, 45, 56] : List Int32).map Value.int)) (SE2 : Sta Z Z.heap "com/example/warm_tariff/warmtariff/TextEncoding" "UTF_8_BOM" "Lcom/example/warm_tariff/warmtariff/TextEncoding;" (.ref en2)) (XE2 : Exa Z Z.heap en2 "com/example/warm_tariff/warmtariff/TextEncoding") (FE2 : Fld Z Z.heap en2 "com/example/warm_tariff/warmtariff/TextEncoding" "optionName" "Ljava/lang/String;" (.ref nm2)) (ST2 : Str Z Z.heap nm2 nb2 kn2 0 9 (([117, 116, 102, 45, 56, 45, 98, 111, 109] : List Int32).map Value.int)) (SE3 : Sta Z Z.heap "com/example/warm_tariff/warmtariff/TextEncoding" "WINDOWS_31J" "Lcom/example/warm_tariff/warmtariff/TextEncoding;" (.ref en3)) (XE3 : Exa Z Z.heap en3 "com/example/warm_tariff/warmtariff/TextEncoding") (FE3 : Fld Z Z.heap en3 "com/example/warm_tariff/warmtariff/TextEncoding" "optionName" "Ljava/lang/String;" (.ref nm3)) (ST3 : Str Z Z.heap nm3 nb3 kn3 0 11 (([119, 105, 110, 100, 111, 119, 115, 45, 51, 49, 106] : List Int32).map Value.int)) (SU : Sta Z Z.heap "java/lang/Throwable" "UNASSIGNED_STACK" "[Ljava/lang/StackTraceElement;" u0) (hu0 : u0.isRef = true) (SS : Sta Z Z.heap "java/lang/Throwable" "SUPPRESSED_SENTINEL" "Ljava/util/List;" u1) (hu1 : u1.isRef = true) (SO : Sta Z Z.heap "java/lang/Integer" "DigitOnes" "[B" (.ref od)) (VO : Arv Z Z.heap od ko .byte 100 OL (.int 0)) (hO : ∀ r, r < 100 → OL.getD r (.int 0) = .int (Int32.ofNat (48 + r % 10))) (ST_ : Sta Z Z.heap "java/lang/Integer" "DigitTens" "[B" (.ref td)) (VT_ : Arv Z Z.heap td kt_ .byte 100 TL (.int 0)) (hT : ∀ r, r < 100 → TL.getD r (.int 0) = .int (Int32.ofNat (48 + r / 10))) (SC : Sta Z Z.heap "java/lang/String" "COMPACT_STRINGS" "Z" (.int cs0)) (hcs : ¬ cs0 = 0) :
    Ct l Z EL0 n0 x code maxLocals ret room_1 #[(.long line), (.int ei)] h0 [] (fun v _ _ => v = some (.int 1) ∧ True) := by
  refine Ct.of (a0 := a0) #[.val (.long line), .second, .val (.int ei), .unset, .unset, .unset, .unset, .unset, .unset, .unset, .unset] hEW O (plainFor_of_name pl_com_example_warm_tariff_warmtariff_UndecodableGetMessagePinLaw) (fun m => by first | (simp [entryFrame, mkF, argsToLocals, Value.category, maxLocals]; done) | rfl) ?_
  intro p_ e_ s_ m_ below_ meth_ c_ b_ T_ K hSP hsh
  obtain ⟨n, sg, hx⟩ := sg_ex line
  have hb_ := sg_b hx
  have hsz := szL_b n
  have hso := own_of (n := sg) (by omega)
  have hzo := own_of (n := szL n) (by omega)
  refine k_iloadN K at_0 (pc' := 1) rfl rfl ?_
  refine k_ldcI K (w0 hw) at_1 (pc' := 3) rfl ?_
  refine k_iand K at_3 (pc' := 4) rfl ?_
  refine k_iconst K (3 : Int32) at_4 (pc' := 5) rfl rfl ?_
  refine k_irem K at_5 (pc' := 6) rfl (by decide) ?_
  refine k_istoreN K at_6 (pc' := 7) (L' := #[.val (.long line), .second, .val (.int ei), .val (.int ((ei &&& (2147483647 : Int32)) % (3 : Int32))), .unset, .unset, .unset, .unset, .unset, .unset, .unset]) rfl rfl ?_
  refine k_iloadN K at_7 (pc' := 8) rfl rfl ?_
  have J31 : ∀ (en nm nb : Addr) (kn : ClassId) (ns : List Int32) (X_en : Exa Z Z.heap en "com/example/warm_tariff/warmtariff/TextEncoding") (F_on : Fld Z Z.heap en "com/example/warm_tariff/warmtariff/TextEncoding" "optionName" "Ljava/lang/String;" (.ref nm)) (S_nm : Str Z Z.heap nm nb kn 0 (Int32.ofNat ns.length) (ns.map Value.int)) (hns : ns.length ≤ 11) (han : ∀ x ∈ ns, 0 ≤ x.toInt ∧ x.toInt < 128) (b208 T208 : State) (L208 : List Loc), Wk p_ l e_ room_1 s_ m_ #[(.long line), (.int ei)] below_ meth_ c_ Z a0 EL0 n0 x code maxLocals ret b208 T208 h0 L208 0 0 → Goes p_.tables e_ below_ (FinW Z EL0 s_ n0 room_1 (fun v _ _ => v = some (.int 1) ∧ True)) (T208.setTop (mkF m_ 31 #[.val (.long line), .second, .val (.int ei), .val (.int ((ei &&& (2147483647 : Int32)) % (3 : Int32))), .unset, .unset, .unset, .unset, .unset, .unset, .unset] [(.ref en)])) := by
    intro en nm nb kn ns X_en F_on S_nm hns han b208 T208 L208 K208
    refine k_astore K208 at_31 (pc' := 33) (L' := #[.val (.long line), .second, .val (.int ei), .val (.int ((ei &&& (2147483647 : Int32)) % (3 : Int32))), .val (.ref en), .unset, .unset, .unset, .unset, .unset, .unset]) rfl rfl rfl ?_
    refine k_aload K208 at_33 (pc' := 35) rfl rfl rfl ?_
    refine k_virtualP K208 [] [] 0 (w4 hw) (w5 hw) (w6 hw) (w7 hw) (w2 hw) (w8 hw) (notFace_of_selects (args := #[]) (mvT K208.hZ (w7 hw))) rfl (by decide) (X_en.ext K208.old.2) (by decide) pd___Ljava_lang_String__9676 (c_opn l Z a0 hw hEW n0 en nm h0 K208.old (F_on.ext K208.old.2)) at_35 nofun (pc' := 38) rfl rfl rfl rfl (Nat.le_of_eq rfl) (by decide) (by decide) (by decide) (by decide) ?_
    intro b209 T209 L209 K209 tr209
    show Goes p_.tables e_ below_ _ (T209.setTop (mkF m_ 38 #[.val (.long line), .second, .val (.int ei), .val (.int ((ei &&& (2147483647 : Int32)) % (3 : Int32))), .val (.ref en), .unset, .unset, .unset, .unset, .unset, .unset] [(.ref nm)]))
    refine k_astore K209 at_38 (pc' := 40) (L' := #[.val (.long line), .second, .val (.int ei), .val (.int ((ei &&& (2147483647 : Int32)) % (3 : Int32))), .val (.ref en), .val (.ref nm), .unset, .unset, .unset, .unset, .unset]) rfl rfl rfl ?_
    refine k_new K209 (w11 hw) (w12 hw) (w13 hw) at_40 (pc' := 43) rfl (by decide) (by decide) ?_
    intro T210 h210 a210 g210 K210 E210 tr210 sf_a210 X_a210 D210 U210
    have ga_a210 : n0 ≤ a210 := own_old K209.old g210
    have F_a210_cause : Fld Z h210 a210 "java/lang/Throwable" "cause" "Ljava/lang/Throwable;" .null := D210 (Or.inl (w44 hw)) (ty := (.object "java/lang/Throwable")) (by decide)
    have F_a210_stackTrace : Fld Z h210 a210 "java/lang/Throwable" "stackTrace" "[Ljava/lang/StackTraceElement;" .null := D210 (Or.inl (w47 hw)) (ty := (.array (.object "java/lang/StackTraceElement"))) (by decide)
    have F_a210_suppressedExceptions : Fld Z h210 a210 "java/lang/Throwable" "suppressedExceptions" "Ljava/util/List;" .null := D210 (Or.inl (w50 hw)) (ty := (.object "java/util/List")) (by decide)
    have F_a210_detailMessage : Fld Z h210 a210 "java/lang/Throwable" "detailMessage" "Ljava/lang/String;" .null := D210 (Or.inl (w71 hw)) (ty := (.object "java/lang/String")) (by decide)
    have F_a210_backtrace : Fld Z h210 a210 "java/lang/Throwable" "backtrace" "Ljava/lang/Object;" .null := D210 (Or.inl (w72 hw)) (ty := (.object "java/lang/Object")) (by decide)
    have F_a210_depth : Fld Z h210 a210 "java/lang/Throwable" "depth" "I" (.int (0 : Int32)) := D210 (Or.inl (w73 hw)) (ty := .int) (by decide)
    have F_a210_encoding : Fld Z h210 a210 "com/example/warm_tariff/warmtariff/DecodingReader$Undecodable" "encoding" "Lcom/example/warm_tariff/warmtariff/TextEncoding;" .null := D210 (Or.inr (w76 hw)) (ty := (.object "com/example/warm_tariff/warmtariff/TextEncoding")) (by decide)
    have F_a210_line : Fld Z h210 a210 "com/example/warm_tariff/warmtariff/DecodingReader$Undecodable" "line" "J" (.long (0 : Int64)) := D210 (Or.inr (w78 hw)) (ty := .long) (by decide)
    refine k_dup K210 at_43 (pc' := 44) rfl rfl ?_
    refine k_aload K210 at_44 (pc' := 46) rfl rfl rfl ?_
    refine k_lloadN K210 at_46 (pc' := 47) rfl rfl ?_
    refine k_special K210 [(.ref en), (.long line)] [(.ref a210)] 1 (w14 hw) (w15 hw) (w13 hw) (w16 hw) rfl rfl (by decide) pd__Lcom_example_warm_tariff_warmtariff_TextEncoding_J_V_7242 (c_udi l Z a0 hw hEW n0 a210 u0 u1 _ _ _ en line h210 K210.old hl_ X_a210 U210 F_a210_cause F_a210_stackTrace F_a210_suppressedExceptions F_a210_backtrace ga_a210 SU hu0 SS hu1) at_47 (fun x hx => by cases List.mem_singleton.mp hx; exact ⟨X_a210.lt, sf_a210⟩) (pc' := 50) rfl rfl rfl rfl (Nat.le_of_eq rfl) (by decide) (by decide) (by decide) (by decide) ?_
    intro b211 T211 h211 L211 v211 K211 tr211 q211
    obtain ⟨rfl, -, X_q, F_l, F_e⟩ := q211
    show Goes p_.tables e_ below_ _ (T211.setTop (mkF m_ 50 #[.val (.long line), .second, .val (.int ei), .val (.int ((ei &&& (2147483647 : Int32)) % (3 : Int32))), .val (.ref en), .val (.ref nm), .unset, .unset, .unset, .unset, .unset] [(.ref a210)]))
    refine k_virtual K211 [] [] 0 (w79 hw) (w80 hw) (w81 hw) (w82 hw) (w13 hw) (w83 hw) (notFace_of_selects (args := #[]) (mvT K211.hZ (w82 hw))) rfl (by decide) X_q (by decide) pd___Ljava_lang_String__9676 (c_gm l Z a0 hw hEW n0 a210 line n sg en nm nb kn ns od td ko kt_ OL TL cs0 h211 K211.old F_l F_e X_en F_on S_nm hns hx SO VO hO ST_ VT_ hT SC hcs) at_50 nofun (pc' := 53) rfl rfl rfl rfl (Nat.le_of_eq rfl) (by decide) (by decide) (by decide) (by decide) ?_
    intro b212 T212 h212 L212 v212 K212 tr212 q212
    obtain ⟨sa, ta, kt, rfl, S⟩ := q212
    have hl7 : (msg sg n ns).length ≤ 70 := by rw [msg_l]; omega
    have hax := msg_a (sg := sg) (n := n) han
    show Goes p_.tables e_ below_ _ (T212.setTop (mkF m_ 53 #[.val (.long line), .second, .val (.int ei), .val (.int ((ei &&& (2147483647 : Int32)) % (3 : Int32))), .val (.ref en), .val (.ref nm), .unset, .unset, .unset, .unset, .unset] [(.ref sa)]))
    refine k_astore K212 at_53 (pc' := 55) (L' := #[.val (.long line), .second, .val (.int ei), .val (.int ((ei &&& (2147483647 : Int32)) % (3 : Int32))), .val (.ref en), .val (.ref nm), .val (.ref sa), .unset, .unset, .unset, .unset]) rfl rfl rfl ?_
    refine k_aload K212 at_55 (pc' := 57) rfl rfl rfl ?_
    refine k_ifnonnull K212 rfl at_57 (by decide) (pc' := 62) (pc2 := 60) (by decide) rfl (fun hc57 => ?_) (fun q => absurd q (by simp))
    refine k_aload K212 at_62 (pc' := 64) rfl rfl rfl ?_
    refine k_virtualP K212 [] [] 0 (w248 hw) (w121 hw) (w122 hw) (w123 hw) (w98 hw) (w124 hw) (notFace_of_selects (args := #[]) (mvT K212.hZ (w123 hw))) rfl (by decide) (S_nm.ext K212.old.2).1 (by decide) pd___I_341 (c_length l Z a0 hw hEW n0 nm nb kn 0 _ _ cs0 h212 K212.old (S_nm.ext K212.old.2) (Or.inl rfl) SC hcs) at_64 nofun (pc' := 67) rfl rfl rfl rfl (Nat.le_of_eq rfl) (by decide) (by decide) (by decide) (by decide) ?_
    intro b213 T213 L213 K213 tr213
    show Goes p_.tables e_ below_ _ (T213.setTop (mkF m_ 67 #[.val (.long line), .second, .val (.int ei), .val (.int ((ei &&& (2147483647 : Int32)) % (3 : Int32))), .val (.ref en), .val (.ref nm), .val (.ref sa), .unset, .unset, .unset, .unset] [(.int ((Int32.ofNat ns.length) >>> ((0 : Int32) &&& 31)))]))
    rw [own_shr0]
    refine k_bipush K213 (11 : Int32) at_67 (pc' := 69) rfl rfl ?_
    refine k_icmp_le K213 at_69 (by decide) (pc' := 74) (pc2 := 72) (by decide) rfl (fun hc69 => ?_) (fun q => absurd q (by rw [own_i32, own_of (by omega), show (11 : Int32).toInt = 11 by decide]; omega))
    refine k_lloadN K213 at_74 (pc' := 75) rfl rfl ?_
    refine k_lconst K213 (0 : Int64) at_75 (pc' := 76) rfl rfl ?_
    refine k_lcmp K213 at_76 (pc' := 77) rfl ?_
    have J85 : ∀  (b214 T214 : State) (L214 : List Loc), Wk p_ l e_ room_1 s_ m_ #[(.long line), (.int ei)] below_ meth_ c_ Z a0 EL0 n0 x code maxLocals ret b214 T214 h212 L214 17 3712 → Goes p_.tables e_ below_ (FinW Z EL0 s_ n0 room_1 (fun v _ _ => v = some (.int 1) ∧ True)) (T214.setTop (mkF m_ 85 #[.val (.long line), .second, .val (.int ei), .val (.int ((ei &&& (2147483647 : Int32)) % (3 : Int32))), .val (.ref en), .val (.ref nm), .val (.ref sa), .unset, .unset, .unset, .unset] [(.int (Int32.ofNat sg))])) := by
      intro  b214 T214 L214 K214
      refine k_istore K214 at_85 (pc' := 87) (L' := #[.val (.long line), .second, .val (.int ei), .val (.int ((ei &&& (2147483647 : Int32)) % (3 : Int32))), .val (.ref en), .val (.ref nm), .val (.ref sa), .val (.int (Int32.ofNat sg)), .unset, .unset, .unset]) rfl rfl ?_
      refine k_lloadN K214 at_87 (pc' := 88) rfl rfl ?_
      refine k_static K214 [(.long line)] [] 0 (w249 hw) (w250 hw) (w251 hw) (w252 hw) (by decide) pd__J_I_603 (c_digits l Z a0 hw hEW n0 line n sg h212 K214.old hx) at_88 nofun (pc' := 91) rfl rfl rfl rfl (Nat.le_of_eq rfl) (by decide) (by decide) (by decide) (by decide) ?_
      intro b215 T215 h215 L215 v215 K215 tr215 q215
      obtain ⟨rfl, KQ215⟩ := q215
      replace S := S.keep KQ215 nin0 nin0
      show Goes p_.tables e_ below_ _ (T215.setTop (mkF m_ 91 #[.val (.long line), .second, .val (.int ei), .val (.int ((ei &&& (2147483647 : Int32)) % (3 : Int32))), .val (.ref en), .val (.ref nm), .val (.ref sa), .val (.int (Int32.ofNat sg)), .unset, .unset, .unset] [(.int (Int32.ofNat (szL n)))]))
      refine k_istore K215 at_91 (pc' := 93) (L' := #[.val (.long line), .second, .val (.int ei), .val (.int ((ei &&& (2147483647 : Int32)) % (3 : Int32))), .val (.ref en), .val (.ref nm), .val (.ref sa), .val (.int (Int32.ofNat sg)), .val (.int (Int32.ofNat (szL n))), .unset, .unset]) rfl rfl ?_
      refine k_iconst K215 (5 : Int32) at_93 (pc' := 94) rfl rfl ?_
      refine k_iload K215 at_94 (pc' := 96) rfl rfl ?_
      refine k_iadd K215 at_96 (pc' := 97) rfl ?_
      refine k_iload K215 at_97 (pc' := 99) rfl rfl ?_
      refine k_iadd K215 at_99 (pc' := 100) rfl ?_
      refine k_bipush K215 (6 : Int32) at_100 (pc' := 102) rfl rfl ?_
      refine k_iadd K215 at_102 (pc' := 103) rfl ?_
      refine k_istore K215 at_103 (pc' := 105) (L' := #[.val (.long line), .second, .val (.int ei), .val (.int ((ei &&& (2147483647 : Int32)) % (3 : Int32))), .val (.ref en), .val (.ref nm), .val (.ref sa), .val (.int (Int32.ofNat sg)), .val (.int (Int32.ofNat (szL n))), .val (.int ((((5 : Int32) + (Int32.ofNat sg)) + (Int32.ofNat (szL n))) + (6 : Int32))), .unset]) rfl rfl ?_
      refine k_iload K215 at_105 (pc' := 107) rfl rfl ?_
      refine k_aload K215 at_107 (pc' := 109) rfl rfl rfl ?_
      have hN9 := own_sum2 (own_sum2 (own_sum2 (show (5 : Int32).toInt = (5 : Nat) by decide) hso (by omega)) hzo (by omega)) (show (6 : Int32).toInt = (6 : Nat) by decide) (by omega)
      have hN10 := own_sum2 hN9 (own_of (n := ns.length) (by omega)) (by omega)
      refine k_virtualP K215 [] [(.int ((((5 : Int32) + (Int32.ofNat sg)) + (Int32.ofNat (szL n))) + (6 : Int32)))] 1 (w248 hw) (w121 hw) (w122 hw) (w123 hw) (w98 hw) (w124 hw) (notFace_of_selects (args := #[]) (mvT K215.hZ (w123 hw))) rfl (by decide) (S_nm.ext K215.old.2).1 (by decide) pd___I_341 (c_length l Z a0 hw hEW n0 nm nb kn 0 _ _ cs0 h215 K215.old (S_nm.ext K215.old.2) (Or.inl rfl) SC hcs) at_109 nofun (pc' := 112) rfl rfl rfl rfl (Nat.le_of_eq rfl) (by decide) (by decide) (by decide) (by decide) ?_
      intro b216 T216 L216 K216 tr216
      show Goes p_.tables e_ below_ _ (T216.setTop (mkF m_ 112 #[.val (.long line), .second, .val (.int ei), .val (.int ((ei &&& (2147483647 : Int32)) % (3 : Int32))), .val (.ref en), .val (.ref nm), .val (.ref sa), .val (.int (Int32.ofNat sg)), .val (.int (Int32.ofNat (szL n))), .val (.int ((((5 : Int32) + (Int32.ofNat sg)) + (Int32.ofNat (szL n))) + (6 : Int32))), .unset] [(.int ((Int32.ofNat ns.length) >>> ((0 : Int32) &&& 31))), (.int ((((5 : Int32) + (Int32.ofNat sg)) + (Int32.ofNat (szL n))) + (6 : Int32)))]))
      rw [own_shr0]
      refine k_iadd K216 at_112 (pc' := 113) rfl ?_
      refine k_istore K216 at_113 (pc' := 115) (L' := #[.val (.long line), .second, .val (.int ei), .val (.int ((ei &&& (2147483647 : Int32)) % (3 : Int32))), .val (.ref en), .val (.ref nm), .val (.ref sa), .val (.int (Int32.ofNat sg)), .val (.int (Int32.ofNat (szL n))), .val (.int ((((5 : Int32) + (Int32.ofNat sg)) + (Int32.ofNat (szL n))) + (6 : Int32))), .val (.int (((((5 : Int32) + (Int32.ofNat sg)) + (Int32.ofNat (szL n))) + (6 : Int32)) + (Int32.ofNat ns.length)))]) rfl rfl ?_
      refine k_aload K216 at_115 (pc' := 117) rfl rfl rfl ?_
      refine k_virtualP K216 [] [] 0 (w248 hw) (w121 hw) (w122 hw) (w123 hw) (w98 hw) (w124 hw) (notFace_of_selects (args := #[]) (mvT K216.hZ (w123 hw))) rfl (by decide) S.1 (by decide) pd___I_341 (c_length l Z a0 hw hEW n0 sa ta kt 0 _ _ cs0 h215 K216.old S (Or.inl rfl) SC hcs) at_117 nofun (pc' := 120) rfl rfl rfl rfl (Nat.le_of_eq rfl) (by decide) (by decide) (by decide) (by decide) ?_
      intro b217 T217 L217 K217 tr217
      show Goes p_.tables e_ below_ _ (T217.setTop (mkF m_ 120 #[.val (.long line), .second, .val (.int ei), .val (.int ((ei &&& (2147483647 : Int32)) % (3 : Int32))), .val (.ref en), .val (.ref nm), .val (.ref sa), .val (.int (Int32.ofNat sg)), .val (.int (Int32.ofNat (szL n))), .val (.int ((((5 : Int32) + (Int32.ofNat sg)) + (Int32.ofNat (szL n))) + (6 : Int32))), .val (.int (((((5 : Int32) + (Int32.ofNat sg)) + (Int32.ofNat (szL n))) + (6 : Int32)) + (Int32.ofNat ns.length)))] [(.int ((Int32.ofNat (msg sg n ns).length) >>> ((0 : Int32) &&& 31)))]))
      rw [own_shr0]
      refine k_iload K217 at_120 (pc' := 122) rfl rfl ?_
      refine k_iconst K217 (5 : Int32) at_122 (pc' := 123) rfl rfl ?_
      refine k_iadd K217 at_123 (pc' := 124) rfl ?_
      refine k_icmp_eq K217 at_124 (by decide) (pc' := 129) (pc2 := 127) (by decide) rfl (fun hc124 => ?_) (fun q => absurd (own_i32e (by rw [own_sum2 hN10 (show (5 : Int32).toInt = (5 : Nat) by decide) (by omega), own_of (by rw [msg_l]; omega), msg_l]; omega)) q)
      refine k_aload K217 at_129 (pc' := 131) rfl rfl rfl ?_
      refine k_iconst K217 (0 : Int32) at_131 (pc' := 132) rfl rfl ?_
      refine k_ldcS K217 (vs := ([108, 105, 110, 101, 32] : List Int32).map Value.int) (z := 5) (w278 hw) (own_wS hw) (by decide) ⟨by decide, by decide⟩ (by decide) (by decide) 20 (by decide) (by decide) at_132 (pc' := 134) rfl (by decide) (by decide) ?_
      intro b218 T218 h218 s218 e218 ke218 K218 E218 tr218 X1 X2 X3 X4 nd218
      replace S := S.ext E218
      have S_s218 : Str Z h218 s218 e218 ke218 0 5 (([108, 105, 110, 101, 32] : List Int32).map Value.int) := ⟨X1, X2, X3, X4⟩
      show Goes p_.tables e_ below_ _ (T218.setTop (mkF m_ 134 #[.val (.long line), .second, .val (.int ei), .val (.int ((ei &&& (2147483647 : Int32)) % (3 : Int32))), .val (.ref en), .val (.ref nm), .val (.ref sa), .val (.int (Int32.ofNat sg)), .val (.int (Int32.ofNat (szL n))), .val (.int ((((5 : Int32) + (Int32.ofNat sg)) + (Int32.ofNat (szL n))) + (6 : Int32))), .val (.int (((((5 : Int32) + (Int32.ofNat sg)) + (Int32.ofNat (szL n))) + (6 : Int32)) + (Int32.ofNat ns.length)))] [(.ref s218), (.int (0 : Int32)), (.ref sa)]))
      refine k_staticP K218 [(.ref sa), (.int (0 : Int32)), (.ref s218)] [] 0 (w279 hw) (w280 hw) (w251 hw) (w281 hw) (by decide) pd__Ljava_lang_String_ILjava_lang_String__Z_4774 (c_region l Z a0 hw hEW n0 sa ta kt (msg sg n ns) ff cs0 s218 e218 ke218 ([108, 105, 110, 101, 32] : List Int32) 0 (0) h218 K218.old SF hff S hl7 hax S_s218 (by decide) (by decide) (by decide) (by rw [msg_l]; first | omega | (simp only [List.length_cons, List.length_nil]; omega)) (msg_0 sg n ns) SC hcs) at_134 nofun (pc' := 137) rfl rfl rfl rfl (Nat.le_of_eq rfl) (by decide) (by decide) (by decide) (by decide) ?_
      intro b219 T219 L219 K219 tr219
      show Goes p_.tables e_ below_ _ (T219.setTop (mkF m_ 137 #[.val (.long line), .second, .val (.int ei), .val (.int ((ei &&& (2147483647 : Int32)) % (3 : Int32))), .val (.ref en), .val (.ref nm), .val (.ref sa), .val (.int (Int32.ofNat sg)), .val (.int (Int32.ofNat (szL n))), .val (.int ((((5 : Int32) + (Int32.ofNat sg)) + (Int32.ofNat (szL n))) + (6 : Int32))), .val (.int (((((5 : Int32) + (Int32.ofNat sg)) + (Int32.ofNat (szL n))) + (6 : Int32)) + (Int32.ofNat ns.length)))] [(.int (1 : Int32))]))
      refine k_if_ne K219 at_137 (by decide) (pc' := 142) (pc2 := 140) (by decide) rfl (fun hc137 => ?_) (fun q => absurd q (by decide))
      refine k_iload K219 at_142 (pc' := 144) rfl rfl ?_
      refine k_iconst K219 (1 : Int32) at_144 (pc' := 145) rfl rfl ?_
      have J161 : ∀  (b220 T220 : State) (L220 : List Loc), Wk p_ l e_ room_1 s_ m_ #[(.long line), (.int ei)] below_ meth_ c_ Z a0 EL0 n0 x code maxLocals ret b220 T220 h218 L220 20 3755 → Goes p_.tables e_ below_ (FinW Z EL0 s_ n0 room_1 (fun v _ _ => v = some (.int 1) ∧ True)) (T220.setTop (mkF m_ 161 #[.val (.long line), .second, .val (.int ei), .val (.int ((ei &&& (2147483647 : Int32)) % (3 : Int32))), .val (.ref en), .val (.ref nm), .val (.ref sa), .val (.int (Int32.ofNat sg)), .val (.int (Int32.ofNat (szL n))), .val (.int ((((5 : Int32) + (Int32.ofNat sg)) + (Int32.ofNat (szL n))) + (6 : Int32))), .val (.int (((((5 : Int32) + (Int32.ofNat sg)) + (Int32.ofNat (szL n))) + (6 : Int32)) + (Int32.ofNat ns.length)))] [])) := by
        intro  b220 T220 L220 K220
        refine k_aload K220 at_161 (pc' := 163) rfl rfl rfl ?_
        refine k_iconst K220 (5 : Int32) at_163 (pc' := 164) rfl rfl ?_
        refine k_iload K220 at_164 (pc' := 166) rfl rfl ?_
        refine k_iadd K220 at_166 (pc' := 167) rfl ?_
        refine k_lloadN K220 at_167 (pc' := 168) rfl rfl ?_
        refine k_iload K220 at_168 (pc' := 170) rfl rfl ?_
        refine k_static K220 [(.ref sa), (.int ((5 : Int32) + (Int32.ofNat sg))), (.long line), (.int (Int32.ofNat (szL n)))] [] 0 (w307 hw) (w308 hw) (w251 hw) (w309 hw) (by decide) pd__Ljava_lang_String_IJI_Z_5648 (c_number l Z a0 hw hEW n0 sa ta kt (msg sg n ns) ff cs0 ((5 : Int32) + (Int32.ofNat sg)) line n sg (5 + sg) h218 K220.old SF hff S hl7 hax hx (by rw [msg_l]; omega) (msg_d sg n ns) (own_sum2 (show (5 : Int32).toInt = (5 : Nat) by decide) hso (by omega)) SC hcs) at_170 nofun (pc' := 173) rfl rfl rfl rfl (Nat.le_of_eq rfl) (by decide) (by decide) (by decide) (by decide) ?_
        intro b221 T221 h221 L221 v221 K221 tr221 q221
        obtain ⟨rfl, KQ221⟩ := q221
        replace S := S.keep KQ221 nin0 nin0
        replace S_s218 := S_s218.keep KQ221 nin0 nin0
        show Goes p_.tables e_ below_ _ (T221.setTop (mkF m_ 173 #[.val (.long line), .second, .val (.int ei), .val (.int ((ei &&& (2147483647 : Int32)) % (3 : Int32))), .val (.ref en), .val (.ref nm), .val (.ref sa), .val (.int (Int32.ofNat sg)), .val (.int (Int32.ofNat (szL n))), .val (.int ((((5 : Int32) + (Int32.ofNat sg)) + (Int32.ofNat (szL n))) + (6 : Int32))), .val (.int (((((5 : Int32) + (Int32.ofNat sg)) + (Int32.ofNat (szL n))) + (6 : Int32)) + (Int32.ofNat ns.length)))] [(.int (1 : Int32))]))
        refine k_if_ne K221 at_173 (by decide) (pc' := 178) (pc2 := 176) (by decide) rfl (fun hc173 => ?_) (fun q => absurd q (by decide))
        refine k_aload K221 at_178 (pc' := 180) rfl rfl rfl ?_
        refine k_iconst K221 (5 : Int32) at_180 (pc' := 181) rfl rfl ?_
        refine k_iload K221 at_181 (pc' := 183) rfl rfl ?_
        refine k_iadd K221 at_183 (pc' := 184) rfl ?_
        refine k_iload K221 at_184 (pc' := 186) rfl rfl ?_
        refine k_iadd K221 at_186 (pc' := 187) rfl ?_
        refine k_ldcS K221 (vs := ([58, 32, 110, 111, 116, 32] : List Int32).map Value.int) (z := 6) (w316 hw) (own_wS hw) (by decide) ⟨by decide, by decide⟩ (by decide) (by decide) 24 (by decide) (by decide) at_187 (pc' := 189) rfl (by decide) (by decide) ?_
        intro b222 T222 h222 s222 e222 ke222 K222 E222 tr222 X1 X2 X3 X4 nd222
        replace S := S.ext E222
        replace S_s218 := S_s218.ext E222
        have S_s222 : Str Z h222 s222 e222 ke222 0 6 (([58, 32, 110, 111, 116, 32] : List Int32).map Value.int) := ⟨X1, X2, X3, X4⟩
        show Goes p_.tables e_ below_ _ (T222.setTop (mkF m_ 189 #[.val (.long line), .second, .val (.int ei), .val (.int ((ei &&& (2147483647 : Int32)) % (3 : Int32))), .val (.ref en), .val (.ref nm), .val (.ref sa), .val (.int (Int32.ofNat sg)), .val (.int (Int32.ofNat (szL n))), .val (.int ((((5 : Int32) + (Int32.ofNat sg)) + (Int32.ofNat (szL n))) + (6 : Int32))), .val (.int (((((5 : Int32) + (Int32.ofNat sg)) + (Int32.ofNat (szL n))) + (6 : Int32)) + (Int32.ofNat ns.length)))] [(.ref s222), (.int (((5 : Int32) + (Int32.ofNat sg)) + (Int32.ofNat (szL n)))), (.ref sa)]))
        refine k_staticP K222 [(.ref sa), (.int (((5 : Int32) + (Int32.ofNat sg)) + (Int32.ofNat (szL n)))), (.ref s222)] [] 0 (w279 hw) (w280 hw) (w251 hw) (w281 hw) (by decide) pd__Ljava_lang_String_ILjava_lang_String__Z_4774 (c_region l Z a0 hw hEW n0 sa ta kt (msg sg n ns) ff cs0 s222 e222 ke222 ([58, 32, 110, 111, 116, 32] : List Int32) (((5 : Int32) + (Int32.ofNat sg)) + (Int32.ofNat (szL n))) (5 + sg + szL n) h222 K222.old SF hff S hl7 hax S_s222 (by decide) (by decide) (own_sum2 (own_sum2 (show (5 : Int32).toInt = (5 : Nat) by decide) hso (by omega)) hzo (by omega)) (by rw [msg_l]; first | omega | (simp only [List.length_cons, List.length_nil]; omega)) (msg_not sg n ns) SC hcs) at_189 nofun (pc' := 192) rfl rfl rfl rfl (Nat.le_of_eq rfl) (by decide) (by decide) (by decide) (by decide) ?_
        intro b223 T223 L223 K223 tr223
        show Goes p_.tables e_ below_ _ (T223.setTop (mkF m_ 192 #[.val (.long line), .second, .val (.int ei), .val (.int ((ei &&& (2147483647 : Int32)) % (3 : Int32))), .val (.ref en), .val (.ref nm), .val (.ref sa), .val (.int (Int32.ofNat sg)), .val (.int (Int32.ofNat (szL n))), .val (.int ((((5 : Int32) + (Int32.ofNat sg)) + (Int32.ofNat (szL n))) + (6 : Int32))), .val (.int (((((5 : Int32) + (Int32.ofNat sg)) + (Int32.ofNat (szL n))) + (6 : Int32)) + (Int32.ofNat ns.length)))] [(.int (1 : Int32))]))
        refine k_if_ne K223 at_192 (by decide) (pc' := 197) (pc2 := 195) (by decide) rfl (fun hc192 => ?_) (fun q => absurd q (by decide))
        refine k_aload K223 at_197 (pc' := 199) rfl rfl rfl ?_
        refine k_iload K223 at_199 (pc' := 201) rfl rfl ?_
        refine k_aload K223 at_201 (pc' := 203) rfl rfl rfl ?_
        refine k_staticP K223 [(.ref sa), (.int ((((5 : Int32) + (Int32.ofNat sg)) + (Int32.ofNat (szL n))) + (6 : Int32))), (.ref nm)] [] 0 (w279 hw) (w280 hw) (w251 hw) (w281 hw) (by decide) pd__Ljava_lang_String_ILjava_lang_String__Z_4774 (c_region l Z a0 hw hEW n0 sa ta kt (msg sg n ns) ff cs0 nm nb kn ns ((((5 : Int32) + (Int32.ofNat sg)) + (Int32.ofNat (szL n))) + (6 : Int32)) (5 + sg + szL n + 6) h222 K223.old SF hff S hl7 hax (S_nm.ext K223.old.2) hns han hN9 (by rw [msg_l]; first | omega | (simp only [List.length_cons, List.length_nil]; omega)) (msg_nm sg n ns) SC hcs) at_203 nofun (pc' := 206) rfl rfl rfl rfl (Nat.le_of_eq rfl) (by decide) (by decide) (by decide) (by decide) ?_
        intro b224 T224 L224 K224 tr224
        show Goes p_.tables e_ below_ _ (T224.setTop (mkF m_ 206 #[.val (.long line), .second, .val (.int ei), .val (.int ((ei &&& (2147483647 : Int32)) % (3 : Int32))), .val (.ref en), .val (.ref nm), .val (.ref sa), .val (.int (Int32.ofNat sg)), .val (.int (Int32.ofNat (szL n))), .val (.int ((((5 : Int32) + (Int32.ofNat sg)) + (Int32.ofNat (szL n))) + (6 : Int32))), .val (.int (((((5 : Int32) + (Int32.ofNat sg)) + (Int32.ofNat (szL n))) + (6 : Int32)) + (Int32.ofNat ns.length)))] [(.int (1 : Int32))]))
        refine k_if_ne K224 at_206 (by decide) (pc' := 211) (pc2 := 209) (by decide) rfl (fun hc206 => ?_) (fun q => absurd q (by decide))
        refine k_aload K224 at_211 (pc' := 213) rfl rfl rfl ?_
        refine k_iload K224 at_213 (pc' := 215) rfl rfl ?_
        refine k_ldcS K224 (vs := ([32, 116, 101, 120, 116] : List Int32).map Value.int) (z := 5) (w317 hw) (own_wS hw) (by decide) ⟨by decide, by decide⟩ (by decide) (by decide) 20 (by decide) (by decide) at_215 (pc' := 217) rfl (by decide) (by decide) ?_
        intro b225 T225 h225 s225 e225 ke225 K225 E225 tr225 X1 X2 X3 X4 nd225
        replace S := S.ext E225
        replace S_s218 := S_s218.ext E225
        replace S_s222 := S_s222.ext E225
        have S_s225 : Str Z h225 s225 e225 ke225 0 5 (([32, 116, 101, 120, 116] : List Int32).map Value.int) := ⟨X1, X2, X3, X4⟩
        show Goes p_.tables e_ below_ _ (T225.setTop (mkF m_ 217 #[.val (.long line), .second, .val (.int ei), .val (.int ((ei &&& (2147483647 : Int32)) % (3 : Int32))), .val (.ref en), .val (.ref nm), .val (.ref sa), .val (.int (Int32.ofNat sg)), .val (.int (Int32.ofNat (szL n))), .val (.int ((((5 : Int32) + (Int32.ofNat sg)) + (Int32.ofNat (szL n))) + (6 : Int32))), .val (.int (((((5 : Int32) + (Int32.ofNat sg)) + (Int32.ofNat (szL n))) + (6 : Int32)) + (Int32.ofNat ns.length)))] [(.ref s225), (.int (((((5 : Int32) + (Int32.ofNat sg)) + (Int32.ofNat (szL n))) + (6 : Int32)) + (Int32.ofNat ns.length))), (.ref sa)]))
        refine k_staticP K225 [(.ref sa), (.int (((((5 : Int32) + (Int32.ofNat sg)) + (Int32.ofNat (szL n))) + (6 : Int32)) + (Int32.ofNat ns.length))), (.ref s225)] [] 0 (w279 hw) (w280 hw) (w251 hw) (w281 hw) (by decide) pd__Ljava_lang_String_ILjava_lang_String__Z_4774 (c_region l Z a0 hw hEW n0 sa ta kt (msg sg n ns) ff cs0 s225 e225 ke225 ([32, 116, 101, 120, 116] : List Int32) (((((5 : Int32) + (Int32.ofNat sg)) + (Int32.ofNat (szL n))) + (6 : Int32)) + (Int32.ofNat ns.length)) (5 + sg + szL n + 6 + ns.length) h225 K225.old SF hff S hl7 hax S_s225 (by decide) (by decide) hN10 (by rw [msg_l]; first | omega | (simp only [List.length_cons, List.length_nil]; omega)) (msg_tx sg n ns) SC hcs) at_217 nofun (pc' := 220) rfl rfl rfl rfl (Nat.le_of_eq rfl) (by decide) (by decide) (by decide) (by decide) ?_
        intro b226 T226 L226 K226 tr226
        show Goes p_.tables e_ below_ _ (T226.setTop (mkF m_ 220 #[.val (.long line), .second, .val (.int ei), .val (.int ((ei &&& (2147483647 : Int32)) % (3 : Int32))), .val (.ref en), .val (.ref nm), .val (.ref sa), .val (.int (Int32.ofNat sg)), .val (.int (Int32.ofNat (szL n))), .val (.int ((((5 : Int32) + (Int32.ofNat sg)) + (Int32.ofNat (szL n))) + (6 : Int32))), .val (.int (((((5 : Int32) + (Int32.ofNat sg)) + (Int32.ofNat (szL n))) + (6 : Int32)) + (Int32.ofNat ns.length)))] [(.int (1 : Int32))]))
        exact k_nret K226 at_220 rfl (by simp) rfl (fun sf ht => ⟨rfl, trivial⟩) (by decide) (by decide)
      refine k_icmp_ne K219 at_145 (by decide) (pc' := 161) (pc2 := 148) (by decide) rfl (fun hc145 => ?_) (fun hc145 => ?_)
      · exact J161 _ _ _ K219
      · have hs1 : sg = 1 := by have q := congrArg Int32.toInt hc145; rw [hso, own_1] at q; omega
        have hj5 : 5 < (msg sg n ns).length := by rw [msg_l]; omega
        refine k_aload K219 at_148 (pc' := 150) rfl rfl rfl ?_
        refine k_iconst K219 (5 : Int32) at_150 (pc' := 151) rfl rfl ?_
        refine k_virtualP K219 [(.int (5 : Int32))] [] 0 (w285 hw) (w286 hw) (w287 hw) (w288 hw) (w98 hw) (w289 hw) (notFace_of_selects (args := #[]) (mvT K219.hZ (w288 hw))) rfl (by decide) S.1 (by decide) pd__I_C_577 (c_charAtB l Z a0 hw hEW n0 sa ta kt (msg sg n ns) ff cs0 5 5 h218 K219.old SF hff S hl7 hax (by decide) hj5 SC hcs) at_151 nofun (pc' := 154) rfl rfl rfl rfl (Nat.le_of_eq rfl) (by decide) (by decide) (by decide) (by decide) ?_
        intro b227 T227 L227 K227 tr227
        show Goes p_.tables e_ below_ _ (T227.setTop (mkF m_ 154 #[.val (.long line), .second, .val (.int ei), .val (.int ((ei &&& (2147483647 : Int32)) % (3 : Int32))), .val (.ref en), .val (.ref nm), .val (.ref sa), .val (.int (Int32.ofNat sg)), .val (.int (Int32.ofNat (szL n))), .val (.int ((((5 : Int32) + (Int32.ofNat sg)) + (Int32.ofNat (szL n))) + (6 : Int32))), .val (.int (((((5 : Int32) + (Int32.ofNat sg)) + (Int32.ofNat (szL n))) + (6 : Int32)) + (Int32.ofNat ns.length)))] [(.int ((msg sg n ns)[5]'hj5))]))
        rw [own_get hj5 (show (msg sg n ns).getD 5 0 = (45 : Int32) from by rw [hs1]; exact msg_s n ns)]
        refine k_bipush K227 (45 : Int32) at_154 (pc' := 156) rfl rfl ?_
        refine k_icmp_eq K227 at_156 (by decide) (pc' := 161) (pc2 := 159) (by decide) rfl (fun hc156 => ?_) (fun q => absurd (by decide) q)
        exact J161 _ _ _ K227
    refine k_lif_ge K213 at_77 (by decide) (pc' := 84) (pc2 := 80) (by decide) rfl (fun hc77 => ?_) (fun hc77 => ?_)
    · refine k_iconst K213 (0 : Int32) at_84 (pc' := 85) rfl rfl ?_
      obtain rfl : sg = 0 := by
        rcases hx with ⟨h, h2, h3⟩ | ⟨h, h2⟩
        · rw [own_i64, own_00] at hc77; omega
        · exact h2
      exact J85 _ _ _ K213
    · refine k_iconst K213 (1 : Int32) at_80 (pc' := 81) rfl rfl ?_
      refine k_goto K213 at_81 (by decide) (pc' := 85) (by decide) ?_
      obtain rfl : sg = 1 := by
        rcases hx with ⟨h, h2, -⟩ | ⟨h, h2⟩
        · exact h2
        · rw [own_i64, own_00] at hc77; omega
      exact J85 _ _ _ K213
  refine k_if_ne K at_8 (by decide) (pc' := 17) (pc2 := 11) (by decide) rfl (fun hc8 => ?_) (fun hc8 => ?_)
  · refine k_iloadN K at_17 (pc' := 18) rfl rfl ?_
    refine k_iconst K (1 : Int32) at_18 (pc' := 19) rfl rfl ?_
    refine k_icmp_ne K at_19 (by decide) (pc' := 28) (pc2 := 22) (by decide) rfl (fun hc19 => ?_) (fun hc19 => ?_)
    · refine k_getS K (w1 hw) Via.refl SE3 at_28 (pc' := 31) rfl ?_
      intro T228 K228
      exact J31 _ _ _ _ ([119, 105, 110, 100, 111, 119, 115, 45, 51, 49, 106] : List Int32) XE3 FE3 ST3 (by decide) (by decide) _ _ _ K228
    · refine k_getS K (w318 hw) Via.refl SE2 at_22 (pc' := 25) rfl ?_
      intro T229 K229
      refine k_goto K229 at_25 (by decide) (pc' := 31) (by decide) ?_
      exact J31 _ _ _ _ ([117, 116, 102, 45, 56, 45, 98, 111, 109] : List Int32) XE2 FE2 ST2 (by decide) (by decide) _ _ _ K229
  · refine k_getS K (w323 hw) Via.refl SE1 at_11 (pc' := 14) rfl ?_
    intro T230 K230
    refine k_goto K230 at_14 (by decide) (pc' := 31) (by decide) ?_
    exact J31 _ _ _ _ ([117, 116, 102, 45, 56] : List Int32) XE1 FE1 ST1 (by decide) (by decide) _ _ _ K230
theorem w324 {Z : State} {a0 : Array Value} (hw : Tb a0 Z) : (Jvm.Cond.laysStatic "com/example/warm_tariff/warmtariff/TextEncoding" "UTF_8" "Lcom/example/warm_tariff/warmtariff/TextEncoding;").before a0 Z = true := hw _ (List.mem_of_getElem? (i := 324) rfl)
theorem w319 {Z : State} {a0 : Array Value} (hw : Tb a0 Z) : (Jvm.Cond.laysStatic "com/example/warm_tariff/warmtariff/TextEncoding" "UTF_8_BOM" "Lcom/example/warm_tariff/warmtariff/TextEncoding;").before a0 Z = true := hw _ (List.mem_of_getElem? (i := 319) rfl)
theorem w3 {Z : State} {a0 : Array Value} (hw : Tb a0 Z) : (Jvm.Cond.laysStatic "com/example/warm_tariff/warmtariff/TextEncoding" "WINDOWS_31J" "Lcom/example/warm_tariff/warmtariff/TextEncoding;").before a0 Z = true := hw _ (List.mem_of_getElem? (i := 3) rfl)
theorem own_eqI {args : Array Value} {s : State} {t : Term} {k : Int32} (h : (Cond.eq t (.int k)).value args s none s [] = some true) : t.eval args s none [] s = some (.int k) := by
  obtain ⟨x, y, e1, e2, -, k2⟩ := cmp_v (Or.inl h)
  have e3 : y = .int k := (Option.some.inj e2).symm
  subst e3
  obtain ⟨z, rfl⟩ := k2
  have q : z = k := by simpa [Cond.value, Term.eval, e1] using h
  rw [e1, q]
theorem own_fld {args : Array Value} {s : State} {t : Term} {a : Addr} {C n d : String} {v : Value} (ht : t.eval args s none [] s = some (.ref a)) (h : (Term.field t C n d).eval args s none [] s = some v) : Fld s s.heap a C n d v := Fld.start (by rw [← fld_at ht]; exact h)
theorem own_arv {args : Array Value} {s : State} (hf : Fit s) {t : Term} {b : Addr} {ty : FieldType} {z : Int32} {vs : List Value} {dv : Value} (ev : t.eval args s none [] s = some (.ref b)) (hA : (Cond.arrayOf t ty).value args s none s [] = some true) (hL : (Cond.eq (.length t) (.int z)).value args s none s [] = some true) (hz : ¬ z < 0) (hl : z.toNatClampNeg = vs.length) (H : ∀ cl : Cell, s.heap[b]? = some cl → HasL cl 0 vs) : ∃ k, Arv s s.heap b k ty z vs dv := by
  obtain ⟨cl, A⟩ := Arr.start ev hA
  have e := own_eqI hL
  have q : s.arrayAt? b = some cl := A.fin (Vm.Alike.refl _)
  simp only [Term.eval, ev, q, Option.bind_eq_bind, Option.bind_some] at e
  split at e
  · rename_i hs
    exact ⟨cl.cls, Arv.start hf A hs (Value.int.inj (Option.some.inj e)) hz hl (H cl A.1)⟩
  · cases e
theorem own_el {args : Array Value} {s : State} {t : Term} {b : Addr} {j v : Int32} {cl : Cell} (ev : t.eval args s none [] s = some (.ref b)) (h : (Cond.eq (.elem t (.int j)) (.int v)).value args s none s [] = some true) (hc : s.heap[b]? = some cl) : cl.slots[j.toNatClampNeg]? = some (.int v) := (elem_in (own_eqI h) ev rfl hc).2
theorem own_eqR {args : Array Value} {s : State} {t u : Term} {x : Addr} (hu : u.eval args s none [] s = some (.ref x)) (h : (Cond.eq t u).value args s none s [] = some true) : t.eval args s none [] s = some (.ref x) := by
  obtain ⟨v, y, e1, e2, k1, k2⟩ := cmp_v (Or.inl h)
  have e3 : y = .ref x := Option.some.inj (e2.symm.trans hu)
  subst e3
  have hv : v.isRef = true := k2.2
  have q := gotT (eq_R e1 e2 hv rfl) h
  rw [e1, q]
theorem own_elR {args : Array Value} {s : State} {t u : Term} {b x : Addr} {j : Int32} {cl : Cell} (ev : t.eval args s none [] s = some (.ref b)) (hu : u.eval args s none [] s = some (.ref x)) (h : (Cond.eq (.elem t (.int j)) u).value args s none s [] = some true) (hc : s.heap[b]? = some cl) : cl.slots[j.toNatClampNeg]? = some (.ref x) := (elem_in (own_eqR hu h) ev rfl hc).2
theorem own_hasL {c : Cell} : ∀ (l : List Value) (i : Nat), (∀ j, j < l.length → c.slots[i + j]? = l[j]?) → HasL c i l
  | [], _, _ => trivial
  | v :: r, i, h => ⟨by simpa using h 0 (by simp), own_hasL r (i + 1) fun j hj => by
      have q := h (j + 1) (by simpa using hj)
      rw [show i + 1 + j = i + (j + 1) by omega, q]; simp⟩
theorem own_tbl {args : Array Value} {s : State} (hf : Fit s) {C n : String} {z : Int32} {F : Term} {val : Nat → Int32} (hi : (Cond.initializedFor C n "[B").before args s = true) (hx : (Cond.exactly (.static C n "[B") "[B").before args s = true) (hA : (Cond.arrayClass .byte).before args s = true)
    (hL : (Cond.eq (.length (.static C n "[B")) (.int z)).before args s = true) (hz : ¬ z < 0) (hall : (Cond.all (.static C n "[B") (.eq (.elem (.static C n "[B") (.index 0)) F)).before args s = true) (hF : ∀ r, r < z.toNatClampNeg → F.eval args s none [r] s = some (.int (val r))) :
    ∃ (a : Addr) (k : ClassId) (vs : List Value), Sta s s.heap C n "[B" (.ref a) ∧ Arv s s.heap a k .byte z vs (.int 0) ∧ ∀ r, r < z.toNatClampNeg → vs.getD r (.int 0) = .int (val r) := by
  obtain ⟨a, cB, cell, kB, hev, hfc, hcell, hk, hst, hcls, -⟩ := Cond.exactly_spec hx
  obtain ⟨cB', kB', comp, hn, hk', hkind⟩ := Cond.arrayClass_spec hA
  rw [show ("[" ++ FieldType.toString .byte) = "[B" by decide] at hn
  cases hfc.symm.trans hn
  cases hk.symm.trans hk'
  have hl := own_eqI (Cond.before_iff.mp hL)
  obtain ⟨a', cell', hev', hat, -⟩ := Term.length_spec hl
  cases hev.symm.trans hev'
  obtain ⟨hcell', hkn, -, -⟩ := State.arrayAt?_spec hat
  cases hcell.symm.trans hcell'
  have A : Arr s s.heap a cell .byte := ⟨hcell, ⟨fun q h => (by rw [h] at hst; cases hst), kB, (by rw [hcls]; exact hk), comp, hkind⟩, hkn⟩
  have e := hl
  simp only [Term.eval, hat, Option.bind_eq_bind] at e
  have hev2 := hev
  simp only [Term.eval, Option.bind_eq_bind] at hev2
  rw [hev2] at e
  simp only [Option.bind_some, hat] at e
  split at e
  · rename_i hs
    have e' : cell.slots.size.toInt32 = z := Value.int.inj (Option.some.inj e)
    have S : cell.slots.size = z.toNatClampNeg := by rw [← e']; simp only [Int32.toNatClampNeg, len_toInt hs]; rfl
    refine ⟨a, cell.cls, cell.slots.toList, Sta.start hev (Or.inl hi), Arv.start hf A hs e' hz (by rw [← S]; simp) (own_hasL _ 0 fun j hj => by simp), fun r hr => ?_⟩
    have hr' : r < cell.slots.size := by rw [S]; exact hr
    have h1 := Cond.all_elim hev hat (Cond.before_iff.mp hall) r hr'
    have h2 := eqv_i (hF r hr) h1
    have er : (Nat.toInt32 r).toNatClampNeg = r := by simp only [Int32.toNatClampNeg, len_toInt (Nat.lt_trans hr' hs)]; rfl
    have nn : ¬ Nat.toInt32 r < 0 := by rw [Int32.lt_iff_toInt_lt, len_toInt (Nat.lt_trans hr' hs)]; show ¬ (r : Int) < 0; omega
    have h3 := elem_f (t := .static C n "[B") (a := .index 0) (args := args) (first := s) (o := none) (idx := [r]) (s := s) (x := a) (j := Nat.toInt32 r) (cl := cell) (by simp only [Term.eval] at hev ⊢; exact hev) rfl hat nn
    rw [er] at h3
    have h4 := h3.symm.trans h2
    rw [List.getD_eq_getElem?_getD, Array.getElem?_toList, h4]; rfl
  · cases e
theorem ones_n : ∀ r, r < 100 → (48 : Int32) + Int32.ofNat r % 10 = Int32.ofNat (48 + r % 10) := by decide +kernel
theorem tens_n : ∀ r, r < 100 → (48 : Int32) + Int32.ofNat r / 10 = Int32.ofNat (48 + r / 10) := by decide +kernel
set_option maxRecDepth 65536 in
set_option maxHeartbeats 40000000 in
theorem comes_1 {Post : Tables → Env → Array Value → State → Outcome → State → Prop} (hpost : ∀ tb e args s v u, (limb_1_1.after args s (.returned v) u = true ∧ limb_1_2.after args s (.returned v) u = true ∧ True) → ReturnedEndW s (.returned v) u (Jvm.fieldLocs frame_1_writes args s ++ Jvm.arrayLocs frame_1_arrays args s ++ Jvm.staticLocs frame_1_statics s) 40 12224 → Post tb e args s (.returned v) u) :
    ArmFor flags0 classFile x code maxLocals ret World_1 tables_1 room_1 Calls_1 rest_1 Pre_1 Post := by
  intro l hfl _ _ p e ha hc hk s m args below hf hA hF happ hP
  obtain ⟨hcalls, hrest, hpre⟩ := hP
  obtain ⟨-, -, -, hnamed, -, -, -, hat⟩ := (Spec.applies_iff hf).mp happ
  obtain ⟨hg, hn⟩ := and_e (Cond.before_iff.mp (show (Jvm.Cond.and given_1 narrow_1).before args s = true from hpre))
  obtain ⟨hg_0, hg⟩ := and_e hg
  obtain ⟨w0, w1, rfl⟩ : ∃ w0 w1 : Value, args = #[w0, w1] := by
    have hs : args.size = 2 := by simpa [Cond.value, given_1] using hg_0
    obtain ⟨L⟩ := args
    match L, hs with
    | [w0, w1], _ => exact ⟨w0, w1, rfl⟩
  obtain ⟨hg_1, hg⟩ := and_e hg
  have hg_2 := hg
  have hw := fun d (hd : d ∈ tables_1) => atoms_spec (ws := Jvm.Cond.code x code maxLocals ret :: tables_1) hat d (List.mem_cons_of_mem _ hd)
  have hfit : Fit s := fun {y c} hc i hi => by
    obtain ⟨ha, rfl⟩ := Array.getElem?_eq_some_iff.mp hc
    have q := List.all_eq_true.mp ((Array.all_eq_true_iff_forall_mem.mp hF) _ (Array.getElem_mem ha)) i (List.mem_range.mpr hi)
    simpa [Array.getElem?_eq_getElem hi] using q
  obtain ⟨hsets, hown0⟩ := atoms_of _ (rest_1_c_eq ▸ (show rest_1_c.before _ s = true from hrest))
  obtain ⟨i0, ei0⟩ := isL_v hg_1
  obtain rfl : w0 = (.long i0) := Option.some.inj ei0
  obtain ⟨i1, ei1⟩ := is_v hg_2
  obtain rfl : w1 = (.int i1) := Option.some.inj ei1
  obtain ⟨hn_0, hn⟩ := and_e hn
  obtain ⟨hn_1, hn⟩ := and_e hn
  obtain ⟨hn_2, hn⟩ := and_e hn
  obtain ⟨hn_3, hn⟩ := and_e hn
  obtain ⟨hn_4, hn⟩ := and_e hn
  obtain ⟨hn_5, hn⟩ := and_e hn
  obtain ⟨hn_6, hn⟩ := and_e hn
  obtain ⟨hn_7, hn⟩ := and_e hn
  obtain ⟨hn_8, hn⟩ := and_e hn
  obtain ⟨hn_9, hn⟩ := and_e hn
  obtain ⟨hn_10, hn⟩ := and_e hn
  obtain ⟨hn_11, hn⟩ := and_e hn
  obtain ⟨hn_12, hn⟩ := and_e hn
  obtain ⟨hn_13, hn⟩ := and_e hn
  obtain ⟨hn_14, hn⟩ := and_e hn
  obtain ⟨hn_15, hn⟩ := and_e hn
  obtain ⟨hn_16, hn⟩ := and_e hn
  obtain ⟨hn_17, hn⟩ := and_e hn
  obtain ⟨hn_18, hn⟩ := and_e hn
  obtain ⟨hn_19, hn⟩ := and_e hn
  obtain ⟨hn_20, hn⟩ := and_e hn
  obtain ⟨hn_21, hn⟩ := and_e hn
  obtain ⟨hn_22, hn⟩ := and_e hn
  obtain ⟨hn_23, hn⟩ := and_e hn
  obtain ⟨hn_24, hn⟩ := and_e hn
  obtain ⟨hn_25, hn⟩ := and_e hn
  obtain ⟨hn_26, hn⟩ := and_e hn
  obtain ⟨hn_27, hn⟩ := and_e hn
  obtain ⟨hn_28, hn⟩ := and_e hn
  obtain ⟨hn_29, hn⟩ := and_e hn
  obtain ⟨hn_30, hn⟩ := and_e hn
  obtain ⟨hn_31, hn⟩ := and_e hn
  obtain ⟨hn_32, hn⟩ := and_e hn
  obtain ⟨hn_33, hn⟩ := and_e hn
  obtain ⟨hn_34, hn⟩ := and_e hn
  obtain ⟨hn_35, hn⟩ := and_e hn
  obtain ⟨hn_36, hn⟩ := and_e hn
  obtain ⟨hn_37, hn⟩ := and_e hn
  obtain ⟨hn_38, hn⟩ := and_e hn
  obtain ⟨hn_39, hn⟩ := and_e hn
  obtain ⟨hn_40, hn⟩ := and_e hn
  obtain ⟨hn_41, hn⟩ := and_e hn
  have hn_42 := hn
  have hEW : EW s _ EL0 := (EW.cons (w104 hw) (by decide) (EW.cons (w185 hw) (by decide) (EW.cons (w210 hw) (by decide) (EW.cons (w278 hw) (by decide) (EW.cons (w316 hw) (by decide) (EW.cons (w317 hw) (by decide) EW.nil))))))
  have hCH : CHv s EL0 s.vm s.heap := CHv.start hEW hcalls.2.2.1 (hsets _ (List.mem_of_getElem? (i := 22) rfl)) (w99 hw) (w105 hw)
  obtain ⟨cs0, ecs⟩ := is_v (Cond.before_iff.mp (hsets _ (List.mem_of_getElem? (i := 21) rfl)))
  have SC := Sta.start ecs (Or.inl (hsets _ (List.mem_of_getElem? (i := 20) rfl)))
  have hcs : ¬ cs0 = 0 := fun q => by
    have h2 := not_v (Cond.before_iff.mp (hsets _ (List.mem_of_getElem? (i := 22) rfl)))
    rw [q] at ecs
    rw [eq_i ecs (Term.int_eval 0) rfl] at h2
    cases h2
  have hl_ : l.stackTraces = true := by unfold Launch.stackTraces; rw [hfl]; decide
  obtain ⟨ff, eff, hff⟩ := isR_v (Cond.before_iff.mp (hsets _ (List.mem_of_getElem? (i := 28) rfl)))
  have SF := Sta.start eff (Or.inl (hsets _ (List.mem_of_getElem? (i := 27) rfl)))
  obtain ⟨u0, eu0, hu0⟩ := isR_v (Cond.before_iff.mp (hsets _ (List.mem_of_getElem? (i := 7) rfl)))
  have SU := Sta.start eu0 (Or.inl (hsets _ (List.mem_of_getElem? (i := 6) rfl)))
  obtain ⟨u1, eu1, hu1⟩ := isR_v (Cond.before_iff.mp (hsets _ (List.mem_of_getElem? (i := 12) rfl)))
  have SS := Sta.start eu1 (Or.inl (hsets _ (List.mem_of_getElem? (i := 11) rfl)))
  obtain ⟨od, ko, OL, SO, VO, hO⟩ := own_tbl (z := 100) (val := fun r => Int32.ofNat (48 + r % 10)) hfit (hsets _ (List.mem_of_getElem? (i := 31) rfl)) (hsets _ (List.mem_of_getElem? (i := 32) rfl)) (w99 hw) (hsets _ (List.mem_of_getElem? (i := 33) rfl)) (by decide) (hsets _ (List.mem_of_getElem? (i := 34) rfl)) (fun r hr => by rw [← ones_n r hr]; rfl)
  obtain ⟨td, kt_, TL, ST_, VT_, hT⟩ := own_tbl (z := 100) (val := fun r => Int32.ofNat (48 + r / 10)) hfit (hsets _ (List.mem_of_getElem? (i := 36) rfl)) (hsets _ (List.mem_of_getElem? (i := 37) rfl)) (w99 hw) (hsets _ (List.mem_of_getElem? (i := 38) rfl)) (by decide) (hsets _ (List.mem_of_getElem? (i := 39) rfl)) (fun r hr => by rw [← tens_n r hr]; rfl)
  obtain ⟨en1, een1⟩ := exa_v hn_12
  have XE1 := Exa.start een1 hn_12
  have SE1 := Sta.start een1 (Or.inr ⟨(w2 hw), (w324 hw)⟩)
  obtain ⟨nm1, enm1⟩ := exa_v hn_13
  have Xnm1 := Exa.start enm1 hn_13
  have FE1 := own_fld een1 enm1
  have Knm1 := own_fld enm1 (own_eqI hn_17)
  obtain ⟨nb1, enb1⟩ := arr_v hn_14
  have Vnm1 := own_fld enm1 enb1
  obtain ⟨kn1, Anb1⟩ := own_arv hfit enb1 hn_14 hn_16 (by decide) (vs := ([117, 116, 102, 45, 56] : List Int32).map Value.int) (dv := .int 0) rfl (fun cl hcl => ⟨own_el enb1 hn_38 hcl, own_el enb1 hn_39 hcl, own_el enb1 hn_40 hcl, own_el enb1 hn_41 hcl, own_el enb1 hn_42 hcl, trivial⟩)
  have ST1 : Str s s.heap nm1 nb1 kn1 0 5 (([117, 116, 102, 45, 56] : List Int32).map Value.int) := ⟨Xnm1, Knm1, Vnm1, Anb1⟩
  obtain ⟨en2, een2⟩ := exa_v hn_6
  have XE2 := Exa.start een2 hn_6
  have SE2 := Sta.start een2 (Or.inr ⟨(w2 hw), (w319 hw)⟩)
  obtain ⟨nm2, enm2⟩ := exa_v hn_7
  have Xnm2 := Exa.start enm2 hn_7
  have FE2 := own_fld een2 enm2
  have Knm2 := own_fld enm2 (own_eqI hn_11)
  obtain ⟨nb2, enb2⟩ := arr_v hn_8
  have Vnm2 := own_fld enm2 enb2
  obtain ⟨kn2, Anb2⟩ := own_arv hfit enb2 hn_8 hn_10 (by decide) (vs := ([117, 116, 102, 45, 56, 45, 98, 111, 109] : List Int32).map Value.int) (dv := .int 0) rfl (fun cl hcl => ⟨own_el enb2 hn_29 hcl, own_el enb2 hn_30 hcl, own_el enb2 hn_31 hcl, own_el enb2 hn_32 hcl, own_el enb2 hn_33 hcl, own_el enb2 hn_34 hcl, own_el enb2 hn_35 hcl, own_el enb2 hn_36 hcl, own_el enb2 hn_37 hcl, trivial⟩)
  have ST2 : Str s s.heap nm2 nb2 kn2 0 9 (([117, 116, 102, 45, 56, 45, 98, 111, 109] : List Int32).map Value.int) := ⟨Xnm2, Knm2, Vnm2, Anb2⟩
  obtain ⟨en3, een3⟩ := exa_v hn_0
  have XE3 := Exa.start een3 hn_0
  have SE3 := Sta.start een3 (Or.inr ⟨(w2 hw), (w3 hw)⟩)
  obtain ⟨nm3, enm3⟩ := exa_v hn_1
  have Xnm3 := Exa.start enm3 hn_1
  have FE3 := own_fld een3 enm3
  have Knm3 := own_fld enm3 (own_eqI hn_5)
  obtain ⟨nb3, enb3⟩ := arr_v hn_2
  have Vnm3 := own_fld enm3 enb3
  obtain ⟨kn3, Anb3⟩ := own_arv hfit enb3 hn_2 hn_4 (by decide) (vs := ([119, 105, 110, 100, 111, 119, 115, 45, 51, 49, 106] : List Int32).map Value.int) (dv := .int 0) rfl (fun cl hcl => ⟨own_el enb3 hn_18 hcl, own_el enb3 hn_19 hcl, own_el enb3 hn_20 hcl, own_el enb3 hn_21 hcl, own_el enb3 hn_22 hcl, own_el enb3 hn_23 hcl, own_el enb3 hn_24 hcl, own_el enb3 hn_25 hcl, own_el enb3 hn_26 hcl, own_el enb3 hn_27 hcl, own_el enb3 hn_28 hcl, trivial⟩)
  have ST3 : Str s s.heap nm3 nb3 kn3 0 11 (([119, 105, 110, 100, 111, 119, 115, 45, 51, 49, 106] : List Int32).map Value.int) := ⟨Xnm3, Knm3, Vnm3, Anb3⟩
  obtain ⟨n, o, h1, h2, h3, _, L, rfl, ⟨N, -, rfl, -⟩, -, hq⟩ := c_law l s _ hw hEW s.heap.size i0 i1 ff u0 u1 en1 nm1 nb1 kn1 en2 nm2 nb2 kn2 en3 nm3 nb3 kn3 od td ko kt_ OL TL cs0 s.heap (Old.start s) hl_ SF hff SE1 XE1 FE1 ST1 SE2 XE2 FE2 ST2 SE3 XE3 FE3 ST3 SU hu0 SS hu1 SO VO hO ST_ VT_ hT SC hcs tables_1 p e ha hc hk s m _ below hf ((Spec.applies_iff_loose hf).mp happ).1 ⟨rfl, State.Warmed39.refl s, rfl, nofun, hCH⟩ ⟨MethodsKnown_of_tablesKnown hcalls.2.1, FramesKnown_of_framesKnown hcalls.1 hf⟩
  refine ⟨n, _, h1, h2, h3, hpost _ _ _ _ _ _ ⟨Cond.after_iff.mpr rfl, Cond.after_iff.mpr (eq_i res_at (Term.int_eval (1)) rfl), trivial⟩ ⟨hq.1, hq.2.1, hq.2.2.1, (hq.2.2.2.sift fun y hy => Or.inr (N y hy)).mono (by decide) (by decide)⟩⟩
theorem main_1_1 : Claimed_1_1 := comes_1 fun _ _ _ _ _ _ h hF => ⟨h.1, hF⟩
theorem main_1_2 : Claimed_1_2 := comes_1 fun _ _ _ _ _ _ h hF => ⟨h.2.1, hF⟩
end Jvm.Pilot.@@N@@
namespace Jvm.Pilot.@@N@@
open Jvm Jvm.ClassFile Sem Op Lib Jvm.Free Jvm.Stand Jvm.Pilot.@@N@@.Jvm.D
/-! MADE BY PROGRAM (witnessworld.py) out of the Statement's table words and the real class files: 47 classes; the members and pool entries that the words name. The judged class is class 1, her method 1. -/
namespace start1
open Jvm.ClassFile
def u (s : String) : CpInfo := .utf8 (stringToUtf16 s)
/-- a pool by its gaps: so many unusable entries, then the entry; so many at the end -/
def gap : Nat → List CpInfo → List CpInfo
  | 0, r => r
  | n + 1, r => .unusable :: gap n r
def poolList (es : List (Nat × CpInfo)) (last : Nat) : List CpInfo := es.foldr (fun e r => gap e.1 (e.2 :: r)) (gap last [])
def pool (es : List (Nat × CpInfo)) (last : Nat) : Array CpInfo := ⟨poolList es last⟩
def fileOf (pool : Array CpInfo) (this : Nat) (attrs : Array Attribute := #[]) (ms : Array MethodInfo := #[]) (fl : Nat := 33) (sup : Nat := 0) (ifs : Array Nat := #[]) (fds : Array FieldInfo := #[]) : ClassFile where
  minorVersion := 0
  majorVersion := 65
  constantPool := pool
  accessFlags := fl
  thisClass := this
  superClass := sup
  interfaces := ifs
  fields := fds
  methods := ms
  attributes := attrs
def plain (name : String) (sup : Option ClassId) : Class where
  name := name
  kind := .ordinary
  loader := none
  accessFlags := 33
  super := sup
  interfaces := #[]
  cf := none
  fields := #[]
  methods := #[]
  instanceTypes := #[]
  staticTypes := #[]
  resolved := #[]
  callSites := []
  init := .initialized
  statics := none
  mirror := none

def pool0 : Array CpInfo := pool [(5, u "<init>"), (0, u "()V"), (1, .class_ 10), (1, u "java/lang/Object"), (85, u "clone"), (0, u "()Ljava/lang/Object;")] 26

def k0c0 : Code := { maxStack := 0, maxLocals := 1, code := object_method_1_code, exceptionTable := #[], attributes := #[] }
def k0m0 : Method := { name := "<init>", desc := "()V", sig := { parameters := [], returnType := none }, accessFlags := 1, code := some k0c0 }
def k0m1 : Method := { name := "clone", desc := "()Ljava/lang/Object;", sig := { parameters := [], returnType := some (.object "java/lang/Object") }, accessFlags := 260, code := none }
/-- java/lang/Object -/
def k0 : Class := { plain "java/lang/Object" none with
  accessFlags := 33
  interfaces := #[]
  cf := some (fileOf pool0 8 #[] #[{ accessFlags := 1, nameIndex := 5, descriptorIndex := 6, attributes := #[] }, { accessFlags := 260, nameIndex := 96, descriptorIndex := 97, attributes := #[] }] 33 0 #[] #[])
  fields := #[]
  methods := #[k0m0, k0m1]
  instanceTypes := #[]
  staticTypes := #[]
  resolved := Array.replicate 124 none
  statics := none }

def pool1 : Array CpInfo := pool [(2, .class_ 4), (1, u "java/lang/Object"), (0, u "<init>"), (0, u "()V"), (0, .integer 2147483647), (0, .fieldref 9 10), (0, .class_ 11), (0, .nameAndType 12 13), (0, u "com/example/warm_tariff/warmtariff/TextEncoding"), (0, u "UTF_8"), (0, u "Lcom/example/warm_tariff/warmtariff/TextEncoding;"), (0, .fieldref 9 15), (0, .nameAndType 16 13), (0, u "UTF_8_BOM"), (0, .fieldref 9 18), (0, .nameAndType 19 13), (0, u "WINDOWS_31J"), (0, .methodref 9 21), (0, .nameAndType 22 23), (0, u "optionName"), (0, u "()Ljava/lang/String;"), (0, .class_ 25), (0, u "com/example/warm_tariff/warmtariff/DecodingReader$Undecodable"), (0, .methodref 24 27), (0, .nameAndType 5 28), (0, u "(Lcom/example/warm_tariff/warmtariff/TextEncoding;J)V"), (0, .methodref 24 30), (0, .nameAndType 31 23), (0, u "getMessage"), (0, .methodref 33 34), (0, .class_ 35), (0, .nameAndType 36 37), (0, u "java/lang/String"), (0, u "length"), (0, u "()I"), (0, .methodref 39 40), (0, .class_ 41), (0, .nameAndType 42 43), (0, u "com/example/warm_tariff/warmtariff/UndecodableGetMessagePinLaw"), (0, u "digits"), (0, u "(J)I"), (0, .string 45), (0, u "line "), (0, .methodref 39 47), (0, .nameAndType 48 49), (0, u "region"), (0, u "(Ljava/lang/String;ILjava/lang/String;)Z"), (0, .methodref 33 51), (0, .nameAndType 52 53), (0, u "charAt"), (0, u "(I)C"), (0, .methodref 39 55), (0, .nameAndType 56 57), (0, u "number"), (0, u "(Ljava/lang/String;IJI)Z"), (0, .string 59), (0, u ": not "), (0, .string 61), (0, u " text"), (0, .long 10), (1, .long 100), (1, .long 1000), (1, .long 10000), (1, .long 100000), (1, .long 1000000), (1, .long 10000000), (1, .long 100000000), (1, .long 1000000000), (1, .long 10000000000), (1, .long 100000000000), (1, .long 1000000000000), (1, .long 10000000000000), (1, .long 100000000000000), (1, .long 1000000000000000), (1, .long 10000000000000000), (1, .long 100000000000000000), (1, .long 1000000000000000000), (1, .methodref 39 99), (0, .nameAndType 100 101), (0, u "powers"), (0, u "()[J"), (0, .methodref 39 103), (0, .nameAndType 104 105), (0, u "more"), (0, u "(JJ)I"), (0, .methodref 107 108), (0, .class_ 109), (0, .nameAndType 110 111), (0, u "java/lang/Math"), (0, u "abs"), (0, u "(J)J"), (0, .methodref 39 113), (0, .nameAndType 114 115), (0, u "d"), (0, u "(Ljava/lang/String;IJ[JII)Z"), (0, .methodref 39 117), (0, .nameAndType 118 119), (0, u "at"), (0, u "(Ljava/lang/String;ILjava/lang/String;I)Z"), (2, u "law"), (0, u "(JI)Z")] 9

def k1m0 : Method := { name := "<init>", desc := "()V", sig := { parameters := [], returnType := none }, accessFlags := 1, code := none }
def k1c1 : Code := { maxStack := 5, maxLocals := 11, code := code, exceptionTable := #[], attributes := #[] }
def k1m1 : Method := { name := "law", desc := "(JI)Z", sig := { parameters := [.long, .int], returnType := some .boolean }, accessFlags := 9, code := some k1c1 }
def k1c2 : Code := { maxStack := 5, maxLocals := 1, code := method_3_code, exceptionTable := #[], attributes := #[] }
def k1m2 : Method := { name := "powers", desc := "()[J", sig := { parameters := [], returnType := some (.array .long) }, accessFlags := 10, code := some k1c2 }
def k1c3 : Code := { maxStack := 4, maxLocals := 4, code := method_4_code, exceptionTable := #[], attributes := #[] }
def k1m3 : Method := { name := "more", desc := "(JJ)I", sig := { parameters := [.long, .long], returnType := some .int }, accessFlags := 10, code := some k1c3 }
def k1c4 : Code := { maxStack := 5, maxLocals := 4, code := method_5_code, exceptionTable := #[], attributes := #[] }
def k1m4 : Method := { name := "digits", desc := "(J)I", sig := { parameters := [.long], returnType := some .int }, accessFlags := 10, code := some k1c4 }
def k1c5 : Code := { maxStack := 4, maxLocals := 8, code := method_6_code, exceptionTable := #[], attributes := #[] }
def k1m5 : Method := { name := "d", desc := "(Ljava/lang/String;IJ[JII)Z", sig := { parameters := [(.object "java/lang/String"), .int, .long, (.array .long), .int, .int], returnType := some .boolean }, accessFlags := 10, code := some k1c5 }
def k1c6 : Code := { maxStack := 7, maxLocals := 7, code := method_7_code, exceptionTable := #[], attributes := #[] }
def k1m6 : Method := { name := "number", desc := "(Ljava/lang/String;IJI)Z", sig := { parameters := [(.object "java/lang/String"), .int, .long, .int], returnType := some .boolean }, accessFlags := 10, code := some k1c6 }
def k1c7 : Code := { maxStack := 3, maxLocals := 4, code := method_8_code, exceptionTable := #[], attributes := #[] }
def k1m7 : Method := { name := "at", desc := "(Ljava/lang/String;ILjava/lang/String;I)Z", sig := { parameters := [(.object "java/lang/String"), .int, (.object "java/lang/String"), .int], returnType := some .boolean }, accessFlags := 10, code := some k1c7 }
def k1c8 : Code := { maxStack := 4, maxLocals := 3, code := method_9_code, exceptionTable := #[], attributes := #[] }
def k1m8 : Method := { name := "region", desc := "(Ljava/lang/String;ILjava/lang/String;)Z", sig := { parameters := [(.object "java/lang/String"), .int, (.object "java/lang/String")], returnType := some .boolean }, accessFlags := 10, code := some k1c8 }
/-- com/example/warm_tariff/warmtariff/UndecodableGetMessagePinLaw -/
def k1 : Class := { plain "com/example/warm_tariff/warmtariff/UndecodableGetMessagePinLaw" (some 0) with
  accessFlags := 49
  interfaces := #[]
  cf := some (fileOf pool1 39 #[] #[{ accessFlags := 1, nameIndex := 5, descriptorIndex := 6, attributes := #[] }, { accessFlags := 9, nameIndex := 122, descriptorIndex := 123, attributes := #[] }, { accessFlags := 10, nameIndex := 100, descriptorIndex := 101, attributes := #[] }, { accessFlags := 10, nameIndex := 104, descriptorIndex := 105, attributes := #[] }, { accessFlags := 10, nameIndex := 42, descriptorIndex := 43, attributes := #[] }, { accessFlags := 10, nameIndex := 114, descriptorIndex := 115, attributes := #[] }, { accessFlags := 10, nameIndex := 56, descriptorIndex := 57, attributes := #[] }, { accessFlags := 10, nameIndex := 118, descriptorIndex := 119, attributes := #[] }, { accessFlags := 10, nameIndex := 48, descriptorIndex := 49, attributes := #[] }] 49 2 #[] #[])
  fields := #[]
  methods := #[k1m0, k1m1, k1m2, k1m3, k1m4, k1m5, k1m6, k1m7, k1m8]
  instanceTypes := #[]
  staticTypes := #[]
  resolved := Array.replicate 133 none
  statics := none }

def pool2 : Array CpInfo := pool [(1, .class_ 2), (0, u "java/lang/constant/Constable"), (0, .class_ 4), (0, u "java/lang/Object")] 6

/-- java/lang/constant/Constable -/
def k2 : Class := { plain "java/lang/constant/Constable" (some 0) with
  accessFlags := 1537
  interfaces := #[]
  cf := some (fileOf pool2 1 #[] #[] 1537 3 #[] #[])
  fields := #[]
  methods := #[]
  instanceTypes := #[]
  staticTypes := #[]
  resolved := Array.replicate 11 none
  statics := none }

def pool3 : Array CpInfo := pool [(1, .class_ 2), (0, u "java/lang/Comparable"), (0, .class_ 4), (0, u "java/lang/Object")] 7

/-- java/lang/Comparable -/
def k3 : Class := { plain "java/lang/Comparable" (some 0) with
  accessFlags := 1537
  interfaces := #[]
  cf := some (fileOf pool3 1 #[] #[] 1537 3 #[] #[])
  fields := #[]
  methods := #[]
  instanceTypes := #[]
  staticTypes := #[]
  resolved := Array.replicate 12 none
  statics := none }

def pool4 : Array CpInfo := pool [(1, .class_ 2), (0, u "java/io/Serializable"), (0, .class_ 4), (0, u "java/lang/Object")] 2

/-- java/io/Serializable -/
def k4 : Class := { plain "java/io/Serializable" (some 0) with
  accessFlags := 1537
  interfaces := #[]
  cf := some (fileOf pool4 1 #[] #[] 1537 3 #[] #[])
  fields := #[]
  methods := #[]
  instanceTypes := #[]
  staticTypes := #[]
  resolved := Array.replicate 7 none
  statics := none }

def pool5 : Array CpInfo := pool [(2, .class_ 4), (1, u "java/lang/Enum"), (0, u "name"), (0, u "Ljava/lang/String;"), (2, u "ordinal"), (0, u "I"), (1, .class_ 14), (1, u "java/lang/Object"), (4, u "hash"), (86, .class_ 108), (1, u "java/lang/Enum$EnumDesc"), (2, .class_ 112), (0, u "java/lang/constant/Constable"), (0, .class_ 114), (0, u "java/lang/Comparable"), (0, .class_ 116), (0, u "java/io/Serializable")] 87

/-- java/lang/Enum -/
def k5 : Class := { plain "java/lang/Enum" (some 0) with
  accessFlags := 1057
  interfaces := #[2, 3, 4]
  cf := some (fileOf pool5 2 #[.nestMembers #[106]] #[] 1057 12 #[111, 113, 115] #[{ accessFlags := 18, nameIndex := 5, descriptorIndex := 6, attributes := #[] }, { accessFlags := 18, nameIndex := 9, descriptorIndex := 10, attributes := #[] }, { accessFlags := 2, nameIndex := 19, descriptorIndex := 10, attributes := #[] }])
  fields := #[{ name := "name", type := (.object "java/lang/String"), accessFlags := 18, slot := 0, constantValue := 0 }, { name := "ordinal", type := .int, accessFlags := 18, slot := 1, constantValue := 0 }, { name := "hash", type := .int, accessFlags := 2, slot := 2, constantValue := 0 }]
  methods := #[]
  instanceTypes := #[(.object "java/lang/String"), .int, .int]
  staticTypes := #[]
  resolved := Array.replicate 204 none
  statics := none }

def pool6 : Array CpInfo := pool [(1, .class_ 2), (0, u "com/example/warm_tariff/warmtariff/TextEncoding"), (2, u "UTF_8"), (0, u "Lcom/example/warm_tariff/warmtariff/TextEncoding;"), (2, u "UTF_8_BOM"), (2, u "WINDOWS_31J"), (2, u "$VALUES"), (0, u "[Lcom/example/warm_tariff/warmtariff/TextEncoding;"), (6, .class_ 25), (1, u "java/lang/Enum"), (6, .fieldref 1 33), (0, .nameAndType 34 35), (0, u "optionName"), (0, u "Ljava/lang/String;"), (2, u "charsetName"), (2, u "byteOrderMark"), (0, u "Z"), (2, u "read"), (62, u "()Ljava/lang/String;"), (20, u "BYTE_ORDER_MARK")] 19

def k6c0 : Code := { maxStack := 1, maxLocals := 1, code := prog_28_method_6_code, exceptionTable := #[], attributes := #[] }
def k6m0 : Method := { name := "optionName", desc := "()Ljava/lang/String;", sig := { parameters := [], returnType := some (.object "java/lang/String") }, accessFlags := 0, code := some k6c0 }
/-- com/example/warm_tariff/warmtariff/TextEncoding -/
def k6 : Class := { plain "com/example/warm_tariff/warmtariff/TextEncoding" (some 5) with
  accessFlags := 16432
  interfaces := #[]
  cf := some (fileOf pool6 1 #[] #[{ accessFlags := 0, nameIndex := 34, descriptorIndex := 108, attributes := #[] }] 16432 23 #[] #[{ accessFlags := 16409, nameIndex := 5, descriptorIndex := 6, attributes := #[] }, { accessFlags := 16409, nameIndex := 9, descriptorIndex := 6, attributes := #[] }, { accessFlags := 16409, nameIndex := 12, descriptorIndex := 6, attributes := #[] }, { accessFlags := 24, nameIndex := 129, descriptorIndex := 35, attributes := #[] }, { accessFlags := 18, nameIndex := 34, descriptorIndex := 35, attributes := #[] }, { accessFlags := 18, nameIndex := 38, descriptorIndex := 35, attributes := #[] }, { accessFlags := 18, nameIndex := 41, descriptorIndex := 42, attributes := #[] }, { accessFlags := 18, nameIndex := 45, descriptorIndex := 42, attributes := #[] }, { accessFlags := 4122, nameIndex := 15, descriptorIndex := 16, attributes := #[] }])
  fields := #[{ name := "UTF_8", type := (.object "com/example/warm_tariff/warmtariff/TextEncoding"), accessFlags := 16409, slot := 0, constantValue := 0 }, { name := "UTF_8_BOM", type := (.object "com/example/warm_tariff/warmtariff/TextEncoding"), accessFlags := 16409, slot := 1, constantValue := 0 }, { name := "WINDOWS_31J", type := (.object "com/example/warm_tariff/warmtariff/TextEncoding"), accessFlags := 16409, slot := 2, constantValue := 0 }, { name := "BYTE_ORDER_MARK", type := (.object "java/lang/String"), accessFlags := 24, slot := 3, constantValue := 0 }, { name := "optionName", type := (.object "java/lang/String"), accessFlags := 18, slot := 3, constantValue := 0 }, { name := "charsetName", type := (.object "java/lang/String"), accessFlags := 18, slot := 4, constantValue := 0 }, { name := "byteOrderMark", type := .boolean, accessFlags := 18, slot := 5, constantValue := 0 }, { name := "read", type := .boolean, accessFlags := 18, slot := 6, constantValue := 0 }, { name := "$VALUES", type := (.array (.object "com/example/warm_tariff/warmtariff/TextEncoding")), accessFlags := 4122, slot := 4, constantValue := 0 }]
  methods := #[k6m0]
  instanceTypes := #[(.object "java/lang/String"), .int, .int, (.object "java/lang/String"), (.object "java/lang/String"), .boolean, .boolean]
  staticTypes := #[(.object "com/example/warm_tariff/warmtariff/TextEncoding"), (.object "com/example/warm_tariff/warmtariff/TextEncoding"), (.object "com/example/warm_tariff/warmtariff/TextEncoding"), (.object "java/lang/String"), (.array (.object "com/example/warm_tariff/warmtariff/TextEncoding"))]
  resolved := Array.replicate 149 none
  statics := some 0 }

def pool7 : Array CpInfo := pool [(1, .methodref 2 3), (0, .class_ 4), (0, .nameAndType 5 6), (0, u "java/lang/Object"), (0, u "<init>"), (0, u "()V"), (0, .fieldref 8 9), (0, .class_ 10), (0, .nameAndType 11 12), (0, u "java/lang/Throwable"), (0, u "cause"), (0, u "Ljava/lang/Throwable;"), (0, .fieldref 8 14), (0, .nameAndType 15 16), (0, u "UNASSIGNED_STACK"), (0, u "[Ljava/lang/StackTraceElement;"), (0, .fieldref 8 18), (0, .nameAndType 19 16), (0, u "stackTrace"), (0, .fieldref 8 21), (0, .nameAndType 22 23), (0, u "SUPPRESSED_SENTINEL"), (0, u "Ljava/util/List;"), (0, .fieldref 8 25), (0, .nameAndType 26 23), (0, u "suppressedExceptions"), (0, .methodref 8 28), (0, .nameAndType 29 30), (0, u "fillInStackTrace"), (0, u "()Ljava/lang/Throwable;"), (2, u "detailMessage"), (0, u "Ljava/lang/String;"), (58, .class_ 94), (0, u "java/lang/Throwable$WrappedPrintStream"), (6, .class_ 103), (1, u "java/lang/Throwable$PrintStreamOrWriter"), (61, u "$assertionsDisabled"), (0, u "Z"), (26, .class_ 194), (0, u "java/lang/Throwable$WrappedPrintWriter"), (3, .fieldref 8 199), (0, .nameAndType 200 201), (0, u "backtrace"), (0, u "Ljava/lang/Object;"), (0, .methodref 8 203), (0, .nameAndType 29 204), (0, u "(I)Ljava/lang/Throwable;"), (6, u "depth"), (0, u "I"), (56, .class_ 271), (1, u "java/lang/Throwable$SentinelHolder"), (32, u "EMPTY_THROWABLE_ARRAY"), (0, u "[Ljava/lang/Throwable;"), (12, .class_ 319), (0, u "java/io/Serializable"), (0, u "serialVersionUID"), (0, u "J"), (5, u "NULL_CAUSE_MESSAGE"), (0, u "SELF_SUPPRESSION_MESSAGE"), (0, u "CAUSE_CAPTION"), (0, u "SUPPRESSED_CAPTION")] 73

def k7c0 : Code := { maxStack := 2, maxLocals := 1, code := jdk_78_method_1_code, exceptionTable := #[], attributes := #[] }
def k7m0 : Method := { name := "<init>", desc := "()V", sig := { parameters := [], returnType := none }, accessFlags := 1, code := some k7c0 }
def k7c1 : Code := { maxStack := 2, maxLocals := 1, code := ⟨#[0x2a, 0xb4, 0x00, 0x11, 0xc7, 0x00, 0x0a, 0x2a, 0xb4, 0x00, 0xc6, 0xc6, 0x00, 0x10, 0x2a, 0x03, 0xb6, 0x00, 0xca, 0x57, 0x2a, 0xb2, 0x00, 0x0d, 0xb5, 0x00, 0x11, 0x2a, 0xb0]⟩, exceptionTable := #[], attributes := #[] }
def k7m1 : Method := { name := "fillInStackTrace", desc := "()Ljava/lang/Throwable;", sig := { parameters := [], returnType := some (.object "java/lang/Throwable") }, accessFlags := 33, code := some k7c1 }
def k7m2 : Method := { name := "fillInStackTrace", desc := "(I)Ljava/lang/Throwable;", sig := { parameters := [.int], returnType := some (.object "java/lang/Throwable") }, accessFlags := 258, code := none }
/-- java/lang/Throwable -/
def k7 : Class := { plain "java/lang/Throwable" (some 0) with
  accessFlags := 33
  interfaces := #[4]
  cf := some (fileOf pool7 8 #[.nestMembers #[193, 93, 101, 269]] #[{ accessFlags := 1, nameIndex := 5, descriptorIndex := 6, attributes := #[] }, { accessFlags := 33, nameIndex := 29, descriptorIndex := 30, attributes := #[] }, { accessFlags := 258, nameIndex := 29, descriptorIndex := 204, attributes := #[] }] 33 2 #[318] #[{ accessFlags := 26, nameIndex := 320, descriptorIndex := 321, attributes := #[] }, { accessFlags := 130, nameIndex := 200, descriptorIndex := 201, attributes := #[] }, { accessFlags := 2, nameIndex := 33, descriptorIndex := 34, attributes := #[] }, { accessFlags := 26, nameIndex := 15, descriptorIndex := 16, attributes := #[] }, { accessFlags := 2, nameIndex := 11, descriptorIndex := 12, attributes := #[] }, { accessFlags := 2, nameIndex := 19, descriptorIndex := 16, attributes := #[] }, { accessFlags := 130, nameIndex := 211, descriptorIndex := 212, attributes := #[] }, { accessFlags := 26, nameIndex := 22, descriptorIndex := 23, attributes := #[] }, { accessFlags := 2, nameIndex := 26, descriptorIndex := 23, attributes := #[] }, { accessFlags := 26, nameIndex := 327, descriptorIndex := 34, attributes := #[] }, { accessFlags := 26, nameIndex := 328, descriptorIndex := 34, attributes := #[] }, { accessFlags := 26, nameIndex := 329, descriptorIndex := 34, attributes := #[] }, { accessFlags := 26, nameIndex := 330, descriptorIndex := 34, attributes := #[] }, { accessFlags := 26, nameIndex := 304, descriptorIndex := 305, attributes := #[] }, { accessFlags := 4120, nameIndex := 165, descriptorIndex := 166, attributes := #[] }])
  fields := #[{ name := "serialVersionUID", type := .long, accessFlags := 26, slot := 0, constantValue := 0 }, { name := "backtrace", type := (.object "java/lang/Object"), accessFlags := 130, slot := 0, constantValue := 0 }, { name := "detailMessage", type := (.object "java/lang/String"), accessFlags := 2, slot := 1, constantValue := 0 }, { name := "UNASSIGNED_STACK", type := (.array (.object "java/lang/StackTraceElement")), accessFlags := 26, slot := 1, constantValue := 0 }, { name := "cause", type := (.object "java/lang/Throwable"), accessFlags := 2, slot := 2, constantValue := 0 }, { name := "stackTrace", type := (.array (.object "java/lang/StackTraceElement")), accessFlags := 2, slot := 3, constantValue := 0 }, { name := "depth", type := .int, accessFlags := 130, slot := 4, constantValue := 0 }, { name := "SUPPRESSED_SENTINEL", type := (.object "java/util/List"), accessFlags := 26, slot := 2, constantValue := 0 }, { name := "suppressedExceptions", type := (.object "java/util/List"), accessFlags := 2, slot := 5, constantValue := 0 }, { name := "NULL_CAUSE_MESSAGE", type := (.object "java/lang/String"), accessFlags := 26, slot := 3, constantValue := 0 }, { name := "SELF_SUPPRESSION_MESSAGE", type := (.object "java/lang/String"), accessFlags := 26, slot := 4, constantValue := 0 }, { name := "CAUSE_CAPTION", type := (.object "java/lang/String"), accessFlags := 26, slot := 5, constantValue := 0 }, { name := "SUPPRESSED_CAPTION", type := (.object "java/lang/String"), accessFlags := 26, slot := 6, constantValue := 0 }, { name := "EMPTY_THROWABLE_ARRAY", type := (.array (.object "java/lang/Throwable")), accessFlags := 26, slot := 7, constantValue := 0 }, { name := "$assertionsDisabled", type := .boolean, accessFlags := 4120, slot := 8, constantValue := 0 }]
  methods := #[k7m0, k7m1, k7m2]
  instanceTypes := #[(.object "java/lang/Object"), (.object "java/lang/String"), (.object "java/lang/Throwable"), (.array (.object "java/lang/StackTraceElement")), .int, (.object "java/util/List")]
  staticTypes := #[.long, (.array (.object "java/lang/StackTraceElement")), (.object "java/util/List"), (.object "java/lang/String"), (.object "java/lang/String"), (.object "java/lang/String"), (.object "java/lang/String"), (.array (.object "java/lang/Throwable")), .boolean]
  resolved := Array.replicate 404 none
  statics := some 1 }

def pool8 : Array CpInfo := pool [(1, .methodref 2 3), (0, .class_ 4), (0, .nameAndType 5 6), (0, u "java/lang/Throwable"), (0, u "<init>"), (0, u "()V"), (12, .class_ 20), (0, u "java/lang/Exception"), (0, u "serialVersionUID"), (0, u "J")] 17

def k8c0 : Code := { maxStack := 1, maxLocals := 1, code := jdk_59_method_1_code, exceptionTable := #[], attributes := #[] }
def k8m0 : Method := { name := "<init>", desc := "()V", sig := { parameters := [], returnType := none }, accessFlags := 1, code := some k8c0 }
/-- java/lang/Exception -/
def k8 : Class := { plain "java/lang/Exception" (some 7) with
  accessFlags := 33
  interfaces := #[]
  cf := some (fileOf pool8 19 #[] #[{ accessFlags := 1, nameIndex := 5, descriptorIndex := 6, attributes := #[] }] 33 2 #[] #[{ accessFlags := 24, nameIndex := 21, descriptorIndex := 22, attributes := #[] }])
  fields := #[{ name := "serialVersionUID", type := .long, accessFlags := 24, slot := 0, constantValue := 0 }]
  methods := #[k8m0]
  instanceTypes := #[(.object "java/lang/Object"), (.object "java/lang/String"), (.object "java/lang/Throwable"), (.array (.object "java/lang/StackTraceElement")), .int, (.object "java/util/List")]
  staticTypes := #[.long]
  resolved := Array.replicate 40 none
  statics := none }

def pool9 : Array CpInfo := pool [(1, .methodref 2 3), (0, .class_ 4), (0, .nameAndType 5 6), (0, u "java/lang/Exception"), (0, u "<init>"), (0, u "()V"), (9, .class_ 17), (0, u "java/io/IOException"), (0, u "serialVersionUID"), (0, u "J")] 14

def k9c0 : Code := { maxStack := 1, maxLocals := 1, code := jdk_131_method_1_code, exceptionTable := #[], attributes := #[] }
def k9m0 : Method := { name := "<init>", desc := "()V", sig := { parameters := [], returnType := none }, accessFlags := 1, code := some k9c0 }
/-- java/io/IOException -/
def k9 : Class := { plain "java/io/IOException" (some 8) with
  accessFlags := 33
  interfaces := #[]
  cf := some (fileOf pool9 16 #[] #[{ accessFlags := 1, nameIndex := 5, descriptorIndex := 6, attributes := #[] }] 33 2 #[] #[{ accessFlags := 24, nameIndex := 18, descriptorIndex := 19, attributes := #[] }])
  fields := #[{ name := "serialVersionUID", type := .long, accessFlags := 24, slot := 0, constantValue := 0 }]
  methods := #[k9m0]
  instanceTypes := #[(.object "java/lang/Object"), (.object "java/lang/String"), (.object "java/lang/Throwable"), (.array (.object "java/lang/StackTraceElement")), .int, (.object "java/util/List")]
  staticTypes := #[.long]
  resolved := Array.replicate 34 none
  statics := none }

def pool10 : Array CpInfo := pool [(1, .methodref 2 3), (0, .class_ 4), (0, .nameAndType 5 6), (0, u "java/io/IOException"), (0, u "<init>"), (0, u "()V"), (0, .class_ 8), (0, u "java/nio/charset/CharacterCodingException"), (0, u "serialVersionUID"), (0, u "J")] 10

def k10c0 : Code := { maxStack := 1, maxLocals := 1, code := jdk_2189_method_1_code, exceptionTable := #[], attributes := #[] }
def k10m0 : Method := { name := "<init>", desc := "()V", sig := { parameters := [], returnType := none }, accessFlags := 1, code := some k10c0 }
/-- java/nio/charset/CharacterCodingException -/
def k10 : Class := { plain "java/nio/charset/CharacterCodingException" (some 9) with
  accessFlags := 33
  interfaces := #[]
  cf := some (fileOf pool10 7 #[] #[{ accessFlags := 1, nameIndex := 5, descriptorIndex := 6, attributes := #[] }] 33 2 #[] #[{ accessFlags := 26, nameIndex := 9, descriptorIndex := 10, attributes := #[] }])
  fields := #[{ name := "serialVersionUID", type := .long, accessFlags := 26, slot := 0, constantValue := 0 }]
  methods := #[k10m0]
  instanceTypes := #[(.object "java/lang/Object"), (.object "java/lang/String"), (.object "java/lang/Throwable"), (.array (.object "java/lang/StackTraceElement")), .int, (.object "java/util/List")]
  staticTypes := #[.long]
  resolved := Array.replicate 21 none
  statics := none }

def pool11 : Array CpInfo := pool [(1, .methodref 2 3), (0, .class_ 4), (0, .nameAndType 5 6), (0, u "java/nio/charset/CharacterCodingException"), (0, u "<init>"), (0, u "()V"), (0, .fieldref 8 9), (0, .class_ 10), (0, .nameAndType 11 12), (0, u "com/example/warm_tariff/warmtariff/DecodingReader$Undecodable"), (0, u "encoding"), (0, u "Lcom/example/warm_tariff/warmtariff/TextEncoding;"), (0, .fieldref 8 14), (0, .nameAndType 15 16), (0, u "line"), (0, u "J"), (0, .class_ 18), (0, u "java/lang/StringBuilder"), (0, .methodref 17 3), (0, .string 21), (0, u "line "), (0, .methodref 17 23), (0, .nameAndType 24 25), (0, u "append"), (0, u "(Ljava/lang/String;)Ljava/lang/StringBuilder;"), (0, .methodref 17 27), (0, .nameAndType 24 28), (0, u "(J)Ljava/lang/StringBuilder;"), (0, .string 30), (0, u ": not "), (0, .methodref 32 33), (0, .class_ 34), (0, .nameAndType 35 36), (0, u "com/example/warm_tariff/warmtariff/TextEncoding"), (0, u "optionName"), (0, u "()Ljava/lang/String;"), (0, .string 38), (0, u " text"), (0, .methodref 17 40), (0, .nameAndType 41 36), (0, u "toString"), (0, u "serialVersionUID"), (3, u "(Lcom/example/warm_tariff/warmtariff/TextEncoding;J)V"), (4, u "getMessage"), (3, .class_ 56), (0, u "com/example/warm_tariff/warmtariff/DecodingReader")] 2

def k11c0 : Code := { maxStack := 3, maxLocals := 4, code := prog_9_method_1_code, exceptionTable := #[], attributes := #[] }
def k11m0 : Method := { name := "<init>", desc := "(Lcom/example/warm_tariff/warmtariff/TextEncoding;J)V", sig := { parameters := [(.object "com/example/warm_tariff/warmtariff/TextEncoding"), .long], returnType := none }, accessFlags := 0, code := some k11c0 }
def k11c1 : Code := { maxStack := 3, maxLocals := 1, code := prog_9_method_4_code, exceptionTable := #[], attributes := #[] }
def k11m1 : Method := { name := "getMessage", desc := "()Ljava/lang/String;", sig := { parameters := [], returnType := some (.object "java/lang/String") }, accessFlags := 1, code := some k11c1 }
/-- com/example/warm_tariff/warmtariff/DecodingReader$Undecodable -/
def k11 : Class := { plain "com/example/warm_tariff/warmtariff/DecodingReader$Undecodable" (some 10) with
  accessFlags := 48
  interfaces := #[]
  cf := some (fileOf pool11 8 #[.nestHost 55] #[{ accessFlags := 0, nameIndex := 5, descriptorIndex := 46, attributes := #[] }, { accessFlags := 1, nameIndex := 51, descriptorIndex := 36, attributes := #[] }] 48 2 #[] #[{ accessFlags := 26, nameIndex := 42, descriptorIndex := 16, attributes := #[] }, { accessFlags := 18, nameIndex := 11, descriptorIndex := 12, attributes := #[] }, { accessFlags := 18, nameIndex := 15, descriptorIndex := 16, attributes := #[] }])
  fields := #[{ name := "serialVersionUID", type := .long, accessFlags := 26, slot := 0, constantValue := 0 }, { name := "encoding", type := (.object "com/example/warm_tariff/warmtariff/TextEncoding"), accessFlags := 18, slot := 6, constantValue := 0 }, { name := "line", type := .long, accessFlags := 18, slot := 7, constantValue := 0 }]
  methods := #[k11m0, k11m1]
  instanceTypes := #[(.object "java/lang/Object"), (.object "java/lang/String"), (.object "java/lang/Throwable"), (.array (.object "java/lang/StackTraceElement")), .int, (.object "java/util/List"), (.object "com/example/warm_tariff/warmtariff/TextEncoding"), .long]
  staticTypes := #[.long]
  resolved := Array.replicate 59 none
  statics := none }

def pool12 : Array CpInfo := pool [(1, .class_ 2), (0, u "java/lang/Appendable"), (0, .class_ 4), (0, u "java/lang/Object")] 9

/-- java/lang/Appendable -/
def k12 : Class := { plain "java/lang/Appendable" (some 0) with
  accessFlags := 1537
  interfaces := #[]
  cf := some (fileOf pool12 1 #[] #[] 1537 3 #[] #[])
  fields := #[]
  methods := #[]
  instanceTypes := #[]
  staticTypes := #[]
  resolved := Array.replicate 14 none
  statics := none }

def pool13 : Array CpInfo := pool [(2, .class_ 4), (1, u "java/lang/CharSequence"), (42, .class_ 48), (0, u "java/lang/CharSequence$1CodePointIterator"), (10, .class_ 60), (0, u "java/lang/CharSequence$1CharIterator"), (5, .class_ 67), (0, u "java/lang/Object")] 63

/-- java/lang/CharSequence -/
def k13 : Class := { plain "java/lang/CharSequence" (some 0) with
  accessFlags := 1537
  interfaces := #[]
  cf := some (fileOf pool13 2 #[.nestMembers #[47, 59]] #[] 1537 66 #[] #[])
  fields := #[]
  methods := #[]
  instanceTypes := #[]
  staticTypes := #[]
  resolved := Array.replicate 131 none
  statics := none }

def pool14 : Array CpInfo := pool [(1, .class_ 2), (0, u "java/lang/String"), (0, .methodref 4 5), (0, .class_ 6), (0, .nameAndType 7 8), (0, u "java/lang/Object"), (0, u "<init>"), (0, u "()V"), (1, .class_ 12), (1, u "java/lang/AbstractStringBuilder"), (0, u "EMPTYVALUE"), (0, u "[B"), (0, .fieldref 10 16), (0, .nameAndType 17 14), (0, u "value"), (0, .fieldref 1 19), (0, .nameAndType 20 21), (0, u "COMPACT_STRINGS"), (0, u "Z"), (0, .fieldref 10 23), (0, .nameAndType 24 25), (0, u "coder"), (0, u "B"), (6, .methodref 1 33), (0, .nameAndType 34 35), (0, u "length"), (0, u "()I"), (3, .integer 2147483647), (0, .methodref 1 41), (0, .nameAndType 24 42), (0, u "()B"), (2, u "append"), (0, u "(Ljava/lang/String;)Ljava/lang/AbstractStringBuilder;"), (1, .class_ 49), (0, u "java/lang/CharSequence"), (19, u "(Ljava/lang/String;)V"), (5, u "maybeLatin1"), (3, .fieldref 10 80), (0, .nameAndType 81 82), (0, u "count"), (0, u "I"), (0, .methodref 10 84), (0, .nameAndType 85 86), (0, u "isLatin1"), (0, u "()Z"), (13, .methodref 10 101), (0, .nameAndType 102 103), (0, u "ensureCapacityInternal"), (0, u "(I)V"), (0, .methodref 10 105), (0, .nameAndType 106 107), (0, u "newCapacity"), (0, u "(I)I"), (0, .methodref 109 110), (0, .class_ 111), (0, .nameAndType 112 113), (0, u "java/util/Arrays"), (0, u "copyOf"), (0, u "([BI)[B"), (0, .methodref 115 116), (0, .class_ 117), (0, .nameAndType 118 119), (0, u "jdk/internal/util/ArraysSupport"), (0, u "newLength"), (0, u "(III)I"), (68, u "getChars"), (19, .methodref 10 209), (0, .nameAndType 210 211), (0, u "putStringAt"), (0, u "(ILjava/lang/String;)V"), (5, u "inflateIfNeededFor"), (2, .nameAndType 221 222), (0, u "getBytes"), (0, u "([BIB)V"), (24, u "stringSize"), (6, .methodref 255 256), (0, .class_ 257), (0, .nameAndType 247 258), (0, u "java/lang/Long"), (0, u "(J)I"), (0, .methodref 255 260), (0, .nameAndType 188 261), (0, u "(JI[B)I"), (135, .methodref 10 398), (0, .nameAndType 217 69), (0, .methodref 1 220), (3, u "()[B"), (40, .class_ 445), (0, u "java/lang/Appendable"), (67, u "(J)Ljava/lang/AbstractStringBuilder;"), (38, u "getValue")] 56

def k14m0 : Method := { name := "<init>", desc := "()V", sig := { parameters := [], returnType := none }, accessFlags := 0, code := none }
def k14c1 : Code := { maxStack := 2, maxLocals := 2, code := jdk_68_method_2_code, exceptionTable := #[], attributes := #[] }
def k14m1 : Method := { name := "<init>", desc := "(I)V", sig := { parameters := [.int], returnType := none }, accessFlags := 0, code := some k14c1 }
def k14c2 : Code := { maxStack := 1, maxLocals := 1, code := jdk_68_method_6_code, exceptionTable := #[], attributes := #[] }
def k14m2 : Method := { name := "length", desc := "()I", sig := { parameters := [], returnType := some .int }, accessFlags := 1, code := some k14c2 }
def k14c3 : Code := { maxStack := 4, maxLocals := 3, code := jdk_68_method_9_code, exceptionTable := #[], attributes := #[] }
def k14m3 : Method := { name := "ensureCapacityInternal", desc := "(I)V", sig := { parameters := [.int], returnType := none }, accessFlags := 2, code := some k14c3 }
def k14c4 : Code := { maxStack := 5, maxLocals := 6, code := jdk_68_method_10_code, exceptionTable := #[], attributes := #[] }
def k14m4 : Method := { name := "newCapacity", desc := "(I)I", sig := { parameters := [.int], returnType := some .int }, accessFlags := 2, code := some k14c4 }
def k14c5 : Code := { maxStack := 3, maxLocals := 3, code := jdk_68_method_22_code, exceptionTable := #[], attributes := #[] }
def k14m5 : Method := { name := "append", desc := "(Ljava/lang/String;)Ljava/lang/AbstractStringBuilder;", sig := { parameters := [(.object "java/lang/String")], returnType := some (.object "java/lang/AbstractStringBuilder") }, accessFlags := 1, code := some k14c5 }
def k14c6 : Code := { maxStack := 5, maxLocals := 5, code := jdk_68_method_33_code, exceptionTable := #[], attributes := #[] }
def k14m6 : Method := { name := "append", desc := "(J)Ljava/lang/AbstractStringBuilder;", sig := { parameters := [.long], returnType := some (.object "java/lang/AbstractStringBuilder") }, accessFlags := 1, code := some k14c6 }
def k14c7 : Code := { maxStack := 1, maxLocals := 1, code := jdk_68_method_64_code, exceptionTable := #[], attributes := #[] }
def k14m7 : Method := { name := "getValue", desc := "()[B", sig := { parameters := [], returnType := some (.array .byte) }, accessFlags := 16, code := some k14c7 }
def k14c8 : Code := { maxStack := 1, maxLocals := 1, code := jdk_68_method_68_code, exceptionTable := #[], attributes := #[] }
def k14m8 : Method := { name := "isLatin1", desc := "()Z", sig := { parameters := [], returnType := some .boolean }, accessFlags := 16, code := some k14c8 }
def k14c9 : Code := { maxStack := 2, maxLocals := 2, code := jdk_68_method_71_code, exceptionTable := #[], attributes := #[] }
def k14m9 : Method := { name := "inflateIfNeededFor", desc := "(Ljava/lang/String;)V", sig := { parameters := [(.object "java/lang/String")], returnType := none }, accessFlags := 2, code := some k14c9 }
def k14c10 : Code := { maxStack := 4, maxLocals := 3, code := jdk_68_method_73_code, exceptionTable := #[], attributes := #[] }
def k14m10 : Method := { name := "putStringAt", desc := "(ILjava/lang/String;)V", sig := { parameters := [.int, (.object "java/lang/String")], returnType := none }, accessFlags := 2, code := some k14c10 }
/-- java/lang/AbstractStringBuilder -/
def k14 : Class := { plain "java/lang/AbstractStringBuilder" (some 0) with
  accessFlags := 1056
  interfaces := #[12, 13]
  cf := some (fileOf pool14 10 #[] #[{ accessFlags := 0, nameIndex := 7, descriptorIndex := 8, attributes := #[] }, { accessFlags := 0, nameIndex := 7, descriptorIndex := 103, attributes := #[] }, { accessFlags := 1, nameIndex := 34, descriptorIndex := 35, attributes := #[] }, { accessFlags := 2, nameIndex := 102, descriptorIndex := 103, attributes := #[] }, { accessFlags := 2, nameIndex := 106, descriptorIndex := 107, attributes := #[] }, { accessFlags := 1, nameIndex := 45, descriptorIndex := 46, attributes := #[] }, { accessFlags := 1, nameIndex := 45, descriptorIndex := 513, attributes := #[] }, { accessFlags := 16, nameIndex := 552, descriptorIndex := 403, attributes := #[] }, { accessFlags := 16, nameIndex := 85, descriptorIndex := 86, attributes := #[] }, { accessFlags := 2, nameIndex := 217, descriptorIndex := 69, attributes := #[] }, { accessFlags := 2, nameIndex := 210, descriptorIndex := 211, attributes := #[] }] 1056 4 #[444, 48] #[{ accessFlags := 0, nameIndex := 17, descriptorIndex := 14, attributes := #[] }, { accessFlags := 0, nameIndex := 24, descriptorIndex := 25, attributes := #[] }, { accessFlags := 0, nameIndex := 75, descriptorIndex := 21, attributes := #[] }, { accessFlags := 0, nameIndex := 81, descriptorIndex := 82, attributes := #[] }, { accessFlags := 26, nameIndex := 13, descriptorIndex := 14, attributes := #[] }])
  fields := #[{ name := "value", type := (.array .byte), accessFlags := 0, slot := 0, constantValue := 0 }, { name := "coder", type := .byte, accessFlags := 0, slot := 1, constantValue := 0 }, { name := "maybeLatin1", type := .boolean, accessFlags := 0, slot := 2, constantValue := 0 }, { name := "count", type := .int, accessFlags := 0, slot := 3, constantValue := 0 }, { name := "EMPTYVALUE", type := (.array .byte), accessFlags := 26, slot := 0, constantValue := 0 }]
  methods := #[k14m0, k14m1, k14m2, k14m3, k14m4, k14m5, k14m6, k14m7, k14m8, k14m9, k14m10]
  instanceTypes := #[(.array .byte), .byte, .boolean, .int]
  staticTypes := #[(.array .byte)]
  resolved := Array.replicate 609 none
  statics := none }

def pool15 : Array CpInfo := pool [(1, .methodref 2 3), (0, .class_ 4), (0, .nameAndType 5 6), (0, u "java/lang/AbstractStringBuilder"), (0, u "<init>"), (0, u "(I)V"), (11, .class_ 20), (1, u "java/lang/String"), (3, .class_ 26), (1, u "java/lang/StringBuilder"), (0, u "append"), (0, u "(Ljava/lang/String;)Ljava/lang/StringBuilder;"), (0, .methodref 2 30), (0, .nameAndType 27 31), (0, u "(Ljava/lang/String;)Ljava/lang/AbstractStringBuilder;"), (24, .methodref 2 57), (0, .nameAndType 27 58), (0, u "(J)Ljava/lang/AbstractStringBuilder;"), (78, .methodref 18 138), (0, .nameAndType 5 139), (0, u "(Ljava/lang/StringBuilder;)V"), (5, u "()V"), (10, u "()I"), (124, u "(J)Ljava/lang/StringBuilder;"), (61, .methodref 2 344), (0, .nameAndType 345 156), (0, u "length"), (3, .class_ 350), (0, u "java/lang/Appendable"), (0, .class_ 352), (0, u "java/io/Serializable"), (0, .class_ 354), (0, u "java/lang/Comparable"), (0, .class_ 356), (0, u "java/lang/CharSequence"), (0, u "serialVersionUID"), (0, u "J"), (40, u "toString"), (0, u "()Ljava/lang/String;")] 21

def k15c0 : Code := { maxStack := 2, maxLocals := 1, code := jdk_67_method_1_code, exceptionTable := #[], attributes := #[] }
def k15m0 : Method := { name := "<init>", desc := "()V", sig := { parameters := [], returnType := none }, accessFlags := 1, code := some k15c0 }
def k15c1 : Code := { maxStack := 2, maxLocals := 2, code := jdk_67_method_7_code, exceptionTable := #[], attributes := #[] }
def k15m1 : Method := { name := "append", desc := "(Ljava/lang/String;)Ljava/lang/StringBuilder;", sig := { parameters := [(.object "java/lang/String")], returnType := some (.object "java/lang/StringBuilder") }, accessFlags := 1, code := some k15c1 }
def k15c2 : Code := { maxStack := 3, maxLocals := 3, code := jdk_67_method_16_code, exceptionTable := #[], attributes := #[] }
def k15m2 : Method := { name := "append", desc := "(J)Ljava/lang/StringBuilder;", sig := { parameters := [.long], returnType := some (.object "java/lang/StringBuilder") }, accessFlags := 1, code := some k15c2 }
def k15c3 : Code := { maxStack := 3, maxLocals := 1, code := jdk_67_method_42_code, exceptionTable := #[], attributes := #[] }
def k15m3 : Method := { name := "toString", desc := "()Ljava/lang/String;", sig := { parameters := [], returnType := some (.object "java/lang/String") }, accessFlags := 1, code := some k15c3 }
def k15c4 : Code := { maxStack := 1, maxLocals := 1, code := jdk_67_method_93_code, exceptionTable := #[], attributes := #[] }
def k15m4 : Method := { name := "length", desc := "()I", sig := { parameters := [], returnType := some .int }, accessFlags := 4161, code := some k15c4 }
/-- java/lang/StringBuilder -/
def k15 : Class := { plain "java/lang/StringBuilder" (some 14) with
  accessFlags := 49
  interfaces := #[12, 4, 3, 13]
  cf := some (fileOf pool15 24 #[] #[{ accessFlags := 1, nameIndex := 5, descriptorIndex := 145, attributes := #[] }, { accessFlags := 1, nameIndex := 27, descriptorIndex := 28, attributes := #[] }, { accessFlags := 1, nameIndex := 27, descriptorIndex := 281, attributes := #[] }, { accessFlags := 1, nameIndex := 399, descriptorIndex := 400, attributes := #[] }, { accessFlags := 4161, nameIndex := 345, descriptorIndex := 156, attributes := #[] }] 49 2 #[349, 351, 353, 355] #[{ accessFlags := 24, nameIndex := 357, descriptorIndex := 358, attributes := #[] }])
  fields := #[{ name := "serialVersionUID", type := .long, accessFlags := 24, slot := 0, constantValue := 0 }]
  methods := #[k15m0, k15m1, k15m2, k15m3, k15m4]
  instanceTypes := #[(.array .byte), .byte, .boolean, .int]
  staticTypes := #[.long]
  resolved := Array.replicate 422 none
  statics := none }

def pool16 : Array CpInfo := pool [(1, .class_ 2), (0, u "java/lang/constant/ConstantDesc"), (0, .class_ 4), (0, u "java/lang/Object")] 32

/-- java/lang/constant/ConstantDesc -/
def k16 : Class := { plain "java/lang/constant/ConstantDesc" (some 0) with
  accessFlags := 1537
  interfaces := #[]
  cf := some (fileOf pool16 1 #[] #[] 1537 3 #[] #[])
  fields := #[]
  methods := #[]
  instanceTypes := #[]
  staticTypes := #[]
  resolved := Array.replicate 37 none
  statics := none }

def pool17 : Array CpInfo := pool [(1, .methodref 2 3), (0, .class_ 4), (0, .nameAndType 5 6), (0, u "java/lang/Object"), (0, u "<init>"), (0, u "()V"), (2, .fieldref 10 11), (0, .class_ 12), (0, .nameAndType 13 14), (0, u "java/lang/String"), (0, u "value"), (0, u "[B"), (0, .fieldref 10 16), (0, .nameAndType 17 18), (0, u "coder"), (0, u "B"), (2, u "hash"), (0, u "I"), (2, u "hashIsZero"), (0, u "Z"), (11, .fieldref 10 39), (0, .nameAndType 40 26), (0, u "COMPACT_STRINGS"), (13, .methodref 55 56), (0, .class_ 57), (0, .nameAndType 58 59), (0, u "java/util/Arrays"), (0, u "copyOfRange"), (0, u "([BII)[B"), (47, .class_ 109), (1, u "java/lang/StringLatin1"), (32, u "()Z"), (50, .class_ 195), (1, u "java/lang/System"), (16, .methodref 193 213), (0, .nameAndType 214 215), (0, u "arraycopy"), (0, u "(Ljava/lang/Object;ILjava/lang/Object;II)V"), (118, u "()I"), (0, .methodref 10 336), (0, .nameAndType 17 337), (0, u "()B"), (2, u "()[B"), (22, u "([BI)C"), (27, u "(II)V"), (35, u "(I)C"), (61, .methodref 10 490), (0, .nameAndType 5 491), (0, u "(Ljava/lang/AbstractStringBuilder;Ljava/lang/Void;)V"), (0, .methodref 10 493), (0, .nameAndType 494 142), (0, u "isLatin1"), (0, .methodref 107 496), (0, .nameAndType 497 363), (0, u "charAt"), (3, u "checkIndex"), (4, .nameAndType 507 334), (0, u "length"), (24, u "getBytes"), (16, .methodref 550 506), (0, .class_ 551), (0, u "java/lang/AbstractStringBuilder"), (0, .methodref 550 553), (0, .nameAndType 554 340), (0, u "getValue"), (20, .class_ 576), (0, u "java/lang/CharSequence"), (22, u "CASE_INSENSITIVE_ORDER"), (0, u "Ljava/util/Comparator;"), (220, u "([BIB)V"), (225, .methodref 550 493), (5, .fieldref 1054 1055), (0, .class_ 1056), (0, .nameAndType 1057 1058), (0, u "jdk/internal/util/Preconditions"), (0, u "SIOOBE_FORMATTER"), (0, u "Ljava/util/function/BiFunction;"), (0, .methodref 1054 1060), (0, .nameAndType 501 1061), (0, u "(IILjava/util/function/BiFunction;)I"), (39, u "serialPersistentFields"), (0, u "[Ljava/io/ObjectStreamField;"), (0, .class_ 1104), (0, u "java/lang/String$CaseInsensitiveComparator"), (1, .class_ 1107), (0, u "java/io/Serializable"), (0, .class_ 1109), (0, u "java/lang/Comparable"), (0, .class_ 1111), (0, u "java/lang/constant/Constable"), (0, .class_ 1113), (0, u "java/lang/constant/ConstantDesc"), (2, u "serialVersionUID"), (0, u "J"), (3, u "REPL"), (0, u "C"), (2, u "LATIN1"), (1, u "UTF16"), (105, u "(Ljava/lang/StringBuilder;)V")] 217

def k17m0 : Method := { name := "<init>", desc := "()V", sig := { parameters := [], returnType := none }, accessFlags := 1, code := none }
def k17c1 : Code := { maxStack := 3, maxLocals := 2, code := jdk_42_method_53_code, exceptionTable := #[], attributes := #[] }
def k17m1 : Method := { name := "<init>", desc := "(Ljava/lang/StringBuilder;)V", sig := { parameters := [(.object "java/lang/StringBuilder")], returnType := none }, accessFlags := 1, code := some k17c1 }
def k17c2 : Code := { maxStack := 2, maxLocals := 1, code := jdk_42_method_54_code, exceptionTable := #[], attributes := #[] }
def k17m2 : Method := { name := "length", desc := "()I", sig := { parameters := [], returnType := some .int }, accessFlags := 1, code := some k17c2 }
def k17c3 : Code := { maxStack := 2, maxLocals := 2, code := jdk_42_method_56_code, exceptionTable := #[], attributes := #[] }
def k17m3 : Method := { name := "charAt", desc := "(I)C", sig := { parameters := [.int], returnType := some .char }, accessFlags := 1, code := some k17c3 }
def k17c4 : Code := { maxStack := 5, maxLocals := 4, code := jdk_42_method_147_code, exceptionTable := #[], attributes := #[] }
def k17m4 : Method := { name := "getBytes", desc := "([BIB)V", sig := { parameters := [(.array .byte), .int, .byte], returnType := none }, accessFlags := 0, code := some k17c4 }
def k17c5 : Code := { maxStack := 5, maxLocals := 5, code := jdk_42_method_150_code, exceptionTable := #[], attributes := #[] }
def k17m5 : Method := { name := "<init>", desc := "(Ljava/lang/AbstractStringBuilder;Ljava/lang/Void;)V", sig := { parameters := [(.object "java/lang/AbstractStringBuilder"), (.object "java/lang/Void")], returnType := none }, accessFlags := 0, code := some k17c5 }
def k17c6 : Code := { maxStack := 1, maxLocals := 1, code := jdk_42_method_152_code, exceptionTable := #[], attributes := #[] }
def k17m6 : Method := { name := "coder", desc := "()B", sig := { parameters := [], returnType := some .byte }, accessFlags := 0, code := some k17c6 }
def k17c7 : Code := { maxStack := 1, maxLocals := 1, code := jdk_42_method_154_code, exceptionTable := #[], attributes := #[] }
def k17m7 : Method := { name := "isLatin1", desc := "()Z", sig := { parameters := [], returnType := some .boolean }, accessFlags := 0, code := some k17c7 }
def k17c8 : Code := { maxStack := 3, maxLocals := 2, code := jdk_42_method_155_code, exceptionTable := #[], attributes := #[] }
def k17m8 : Method := { name := "checkIndex", desc := "(II)V", sig := { parameters := [.int, .int], returnType := none }, accessFlags := 8, code := some k17c8 }
/-- java/lang/String -/
def k17 : Class := { plain "java/lang/String" (some 0) with
  accessFlags := 49
  interfaces := #[4, 3, 13, 2, 16]
  cf := some (fileOf pool17 10 #[.nestMembers #[1103]] #[{ accessFlags := 1, nameIndex := 5, descriptorIndex := 6, attributes := #[] }, { accessFlags := 1, nameIndex := 5, descriptorIndex := 1233, attributes := #[] }, { accessFlags := 1, nameIndex := 507, descriptorIndex := 334, attributes := #[] }, { accessFlags := 1, nameIndex := 497, descriptorIndex := 427, attributes := #[] }, { accessFlags := 0, nameIndex := 532, descriptorIndex := 821, attributes := #[] }, { accessFlags := 0, nameIndex := 5, descriptorIndex := 491, attributes := #[] }, { accessFlags := 0, nameIndex := 17, descriptorIndex := 337, attributes := #[] }, { accessFlags := 0, nameIndex := 494, descriptorIndex := 142, attributes := #[] }, { accessFlags := 8, nameIndex := 501, descriptorIndex := 391, attributes := #[] }] 49 2 #[1106, 1108, 575, 1110, 1112] #[{ accessFlags := 18, nameIndex := 13, descriptorIndex := 14, attributes := #[] }, { accessFlags := 18, nameIndex := 17, descriptorIndex := 18, attributes := #[] }, { accessFlags := 2, nameIndex := 21, descriptorIndex := 22, attributes := #[] }, { accessFlags := 2, nameIndex := 25, descriptorIndex := 26, attributes := #[] }, { accessFlags := 26, nameIndex := 1116, descriptorIndex := 1117, attributes := #[] }, { accessFlags := 24, nameIndex := 40, descriptorIndex := 26, attributes := #[] }, { accessFlags := 26, nameIndex := 1101, descriptorIndex := 1102, attributes := #[] }, { accessFlags := 26, nameIndex := 1121, descriptorIndex := 1122, attributes := #[] }, { accessFlags := 25, nameIndex := 599, descriptorIndex := 600, attributes := #[] }, { accessFlags := 24, nameIndex := 1125, descriptorIndex := 18, attributes := #[] }, { accessFlags := 24, nameIndex := 1127, descriptorIndex := 18, attributes := #[] }])
  fields := #[{ name := "value", type := (.array .byte), accessFlags := 18, slot := 0, constantValue := 0 }, { name := "coder", type := .byte, accessFlags := 18, slot := 1, constantValue := 0 }, { name := "hash", type := .int, accessFlags := 2, slot := 2, constantValue := 0 }, { name := "hashIsZero", type := .boolean, accessFlags := 2, slot := 3, constantValue := 0 }, { name := "serialVersionUID", type := .long, accessFlags := 26, slot := 0, constantValue := 0 }, { name := "COMPACT_STRINGS", type := .boolean, accessFlags := 24, slot := 1, constantValue := 0 }, { name := "serialPersistentFields", type := (.array (.object "java/io/ObjectStreamField")), accessFlags := 26, slot := 2, constantValue := 0 }, { name := "REPL", type := .char, accessFlags := 26, slot := 3, constantValue := 0 }, { name := "CASE_INSENSITIVE_ORDER", type := (.object "java/util/Comparator"), accessFlags := 25, slot := 4, constantValue := 0 }, { name := "LATIN1", type := .byte, accessFlags := 24, slot := 5, constantValue := 0 }, { name := "UTF16", type := .byte, accessFlags := 24, slot := 6, constantValue := 0 }]
  methods := #[k17m0, k17m1, k17m2, k17m3, k17m4, k17m5, k17m6, k17m7, k17m8]
  instanceTypes := #[(.array .byte), .byte, .int, .boolean]
  staticTypes := #[.long, .boolean, (.array (.object "java/io/ObjectStreamField")), .char, (.object "java/util/Comparator"), .byte, .byte]
  resolved := Array.replicate 1451 none
  statics := some 2 }

def pool18 : Array CpInfo := pool [(2, .class_ 4), (1, u "java/lang/Object"), (0, u "<init>"), (0, u "()V"), (1, .class_ 10), (1, u "java/lang/System"), (0, u "allowSecurityManager"), (0, u "I"), (16, u "cons"), (0, u "Ljava/io/Console;"), (77, .class_ 110), (1, u "java/lang/System$CallersHolder"), (43, u "initialErrStream"), (0, u "Ljava/io/PrintStream;"), (19, u "security"), (0, u "Ljava/lang/SecurityManager;"), (31, .class_ 209), (0, u "java/lang/System$1"), (7, u "props"), (0, u "Ljava/util/Properties;"), (2, u "lineSeparator"), (0, u "Ljava/lang/String;"), (96, .class_ 321), (1, u "java/lang/System$LoggerFinder"), (5, .class_ 328), (0, u "java/lang/System$Logger"), (67, u "err"), (2, u "out"), (91, u "notSupportedJnuEncoding"), (15, u "in"), (17, u "initialIn"), (0, u "Ljava/io/InputStream;"), (35, u "bootLayer"), (0, u "Ljava/lang/ModuleLayer;"), (99, .class_ 664), (0, u "java/lang/System$2"), (9, u "NEVER"), (2, u "MAYBE"), (49, u "arraycopy"), (0, u "(Ljava/lang/Object;ILjava/lang/Object;II)V"), (72, .class_ 802), (0, u "java/lang/System$Logger$Level")] 31

def k18m0 : Method := { name := "<init>", desc := "()V", sig := { parameters := [], returnType := none }, accessFlags := 2, code := none }
def k18m1 : Method := { name := "arraycopy", desc := "(Ljava/lang/Object;ILjava/lang/Object;II)V", sig := { parameters := [(.object "java/lang/Object"), .int, (.object "java/lang/Object"), .int, .int], returnType := none }, accessFlags := 265, code := none }
/-- java/lang/System -/
def k18 : Class := { plain "java/lang/System" (some 0) with
  accessFlags := 49
  interfaces := #[]
  cf := some (fileOf pool18 8 #[.nestMembers #[319, 327, 801, 108, 663, 208]] #[{ accessFlags := 2, nameIndex := 5, descriptorIndex := 6, attributes := #[] }, { accessFlags := 265, nameIndex := 727, descriptorIndex := 728, attributes := #[] }] 49 2 #[] #[{ accessFlags := 25, nameIndex := 507, descriptorIndex := 526, attributes := #[] }, { accessFlags := 25, nameIndex := 399, descriptorIndex := 155, attributes := #[] }, { accessFlags := 25, nameIndex := 396, descriptorIndex := 155, attributes := #[] }, { accessFlags := 10, nameIndex := 525, descriptorIndex := 526, attributes := #[] }, { accessFlags := 26, nameIndex := 674, descriptorIndex := 12, attributes := #[] }, { accessFlags := 26, nameIndex := 677, descriptorIndex := 12, attributes := #[] }, { accessFlags := 10, nameIndex := 11, descriptorIndex := 12, attributes := #[] }, { accessFlags := 74, nameIndex := 175, descriptorIndex := 176, attributes := #[] }, { accessFlags := 10, nameIndex := 491, descriptorIndex := 222, attributes := #[] }, { accessFlags := 74, nameIndex := 29, descriptorIndex := 30, attributes := #[] }, { accessFlags := 74, nameIndex := 154, descriptorIndex := 155, attributes := #[] }, { accessFlags := 10, nameIndex := 217, descriptorIndex := 218, attributes := #[] }, { accessFlags := 10, nameIndex := 221, descriptorIndex := 222, attributes := #[] }, { accessFlags := 8, nameIndex := 562, descriptorIndex := 563, attributes := #[] }])
  fields := #[{ name := "in", type := (.object "java/io/InputStream"), accessFlags := 25, slot := 0, constantValue := 0 }, { name := "out", type := (.object "java/io/PrintStream"), accessFlags := 25, slot := 1, constantValue := 0 }, { name := "err", type := (.object "java/io/PrintStream"), accessFlags := 25, slot := 2, constantValue := 0 }, { name := "initialIn", type := (.object "java/io/InputStream"), accessFlags := 10, slot := 3, constantValue := 0 }, { name := "NEVER", type := .int, accessFlags := 26, slot := 4, constantValue := 0 }, { name := "MAYBE", type := .int, accessFlags := 26, slot := 5, constantValue := 0 }, { name := "allowSecurityManager", type := .int, accessFlags := 10, slot := 6, constantValue := 0 }, { name := "security", type := (.object "java/lang/SecurityManager"), accessFlags := 74, slot := 7, constantValue := 0 }, { name := "notSupportedJnuEncoding", type := (.object "java/lang/String"), accessFlags := 10, slot := 8, constantValue := 0 }, { name := "cons", type := (.object "java/io/Console"), accessFlags := 74, slot := 9, constantValue := 0 }, { name := "initialErrStream", type := (.object "java/io/PrintStream"), accessFlags := 74, slot := 10, constantValue := 0 }, { name := "props", type := (.object "java/util/Properties"), accessFlags := 10, slot := 11, constantValue := 0 }, { name := "lineSeparator", type := (.object "java/lang/String"), accessFlags := 10, slot := 12, constantValue := 0 }, { name := "bootLayer", type := (.object "java/lang/ModuleLayer"), accessFlags := 8, slot := 13, constantValue := 0 }]
  methods := #[k18m0, k18m1]
  instanceTypes := #[]
  staticTypes := #[(.object "java/io/InputStream"), (.object "java/io/PrintStream"), (.object "java/io/PrintStream"), (.object "java/io/InputStream"), .int, .int, .int, (.object "java/lang/SecurityManager"), (.object "java/lang/String"), (.object "java/io/Console"), (.object "java/io/PrintStream"), (.object "java/util/Properties"), (.object "java/lang/String"), (.object "java/lang/ModuleLayer")]
  resolved := Array.replicate 834 none
  statics := none }

def pool19 : Array CpInfo := pool [(2, .class_ 4), (1, u "java/lang/Object"), (0, u "<init>"), (0, u "()V"), (1, .class_ 10), (1, u "java/lang/Number"), (2, .class_ 14), (0, u "java/io/Serializable"), (0, u "serialVersionUID"), (0, u "J")] 20

def k19m0 : Method := { name := "<init>", desc := "()V", sig := { parameters := [], returnType := none }, accessFlags := 1, code := none }
/-- java/lang/Number -/
def k19 : Class := { plain "java/lang/Number" (some 0) with
  accessFlags := 1057
  interfaces := #[4]
  cf := some (fileOf pool19 8 #[] #[{ accessFlags := 1, nameIndex := 5, descriptorIndex := 6, attributes := #[] }] 1057 2 #[13] #[{ accessFlags := 26, nameIndex := 15, descriptorIndex := 16, attributes := #[] }])
  fields := #[{ name := "serialVersionUID", type := .long, accessFlags := 26, slot := 0, constantValue := 0 }]
  methods := #[k19m0]
  instanceTypes := #[]
  staticTypes := #[.long]
  resolved := Array.replicate 37 none
  statics := none }

def pool20 : Array CpInfo := pool [(1, .class_ 2), (0, u "java/lang/Long"), (15, .class_ 20), (1, u "java/lang/Integer"), (32, .long 10), (47, u "(J)I"), (18, u "stringSize"), (2, u "getChars"), (0, u "(JI[B)I"), (4, .long 18446744071562067968), (1, .long 100), (1, .fieldref 18 134), (0, .nameAndType 135 136), (0, u "DigitOnes"), (0, u "[B"), (0, .fieldref 18 138), (0, .nameAndType 139 136), (0, u "DigitTens"), (0, .long 18446744073709551606), (94, .class_ 237), (1, u "java/lang/Long$LongCache"), (33, .class_ 272), (0, u "java/lang/Number"), (2, u "value"), (0, u "J"), (84, u "TYPE"), (0, u "Ljava/lang/Class;"), (0, .class_ 364), (0, u "java/lang/Comparable"), (0, .class_ 366), (0, u "java/lang/constant/Constable"), (0, .class_ 368), (0, u "java/lang/constant/ConstantDesc"), (0, u "MIN_VALUE"), (1, u "MAX_VALUE"), (4, u "SIZE"), (0, u "I"), (1, u "BYTES"), (1, u "serialVersionUID")] 142

def k20c0 : Code := { maxStack := 4, maxLocals := 11, code := jdk_35_method_14_code, exceptionTable := #[], attributes := #[] }
def k20m0 : Method := { name := "getChars", desc := "(JI[B)I", sig := { parameters := [.long, .int, (.array .byte)], returnType := some .int }, accessFlags := 8, code := some k20c0 }
def k20c1 : Code := { maxStack := 4, maxLocals := 6, code := jdk_35_method_15_code, exceptionTable := #[], attributes := #[] }
def k20m1 : Method := { name := "stringSize", desc := "(J)I", sig := { parameters := [.long], returnType := some .int }, accessFlags := 8, code := some k20c1 }
/-- java/lang/Long -/
def k20 : Class := { plain "java/lang/Long" (some 19) with
  accessFlags := 49
  interfaces := #[3, 2, 16]
  cf := some (fileOf pool20 1 #[.nestMembers #[235]] #[{ accessFlags := 8, nameIndex := 123, descriptorIndex := 124, attributes := #[] }, { accessFlags := 8, nameIndex := 120, descriptorIndex := 101, attributes := #[] }] 49 271 #[363, 365, 367] #[{ accessFlags := 25, nameIndex := 369, descriptorIndex := 276, attributes := #[] }, { accessFlags := 25, nameIndex := 371, descriptorIndex := 276, attributes := #[] }, { accessFlags := 25, nameIndex := 361, descriptorIndex := 362, attributes := #[] }, { accessFlags := 18, nameIndex := 275, descriptorIndex := 276, attributes := #[] }, { accessFlags := 25, nameIndex := 376, descriptorIndex := 377, attributes := #[] }, { accessFlags := 25, nameIndex := 379, descriptorIndex := 377, attributes := #[] }, { accessFlags := 26, nameIndex := 381, descriptorIndex := 276, attributes := #[] }])
  fields := #[{ name := "MIN_VALUE", type := .long, accessFlags := 25, slot := 0, constantValue := 0 }, { name := "MAX_VALUE", type := .long, accessFlags := 25, slot := 1, constantValue := 0 }, { name := "TYPE", type := (.object "java/lang/Class"), accessFlags := 25, slot := 2, constantValue := 0 }, { name := "value", type := .long, accessFlags := 18, slot := 0, constantValue := 0 }, { name := "SIZE", type := .int, accessFlags := 25, slot := 3, constantValue := 0 }, { name := "BYTES", type := .int, accessFlags := 25, slot := 4, constantValue := 0 }, { name := "serialVersionUID", type := .long, accessFlags := 26, slot := 5, constantValue := 0 }]
  methods := #[k20m0, k20m1]
  instanceTypes := #[.long]
  staticTypes := #[.long, .long, (.object "java/lang/Class"), .int, .int, .long]
  resolved := Array.replicate 524 none
  statics := none }

def pool21 : Array CpInfo := pool [(1, .class_ 2), (0, u "java/lang/Integer"), (16, u "digits"), (0, u "[C"), (64, u "DigitOnes"), (0, u "[B"), (2, u "DigitTens"), (99, .class_ 190), (0, u "java/lang/Integer$IntegerCache"), (3, u "I"), (8, .class_ 204), (0, u "java/lang/Number"), (2, u "value"), (94, u "TYPE"), (0, u "Ljava/lang/Class;"), (0, .class_ 305), (0, u "java/lang/Comparable"), (0, .class_ 307), (0, u "java/lang/constant/Constable"), (0, .class_ 309), (0, u "java/lang/constant/ConstantDesc"), (0, u "MIN_VALUE"), (1, u "MAX_VALUE"), (3, u "SIZE"), (1, u "BYTES"), (1, u "serialVersionUID"), (0, u "J")] 131

/-- java/lang/Integer -/
def k21 : Class := { plain "java/lang/Integer" (some 19) with
  accessFlags := 49
  interfaces := #[3, 2, 16]
  cf := some (fileOf pool21 1 #[.nestMembers #[189]] #[] 49 203 #[304, 306, 308] #[{ accessFlags := 25, nameIndex := 310, descriptorIndex := 194, attributes := #[] }, { accessFlags := 25, nameIndex := 312, descriptorIndex := 194, attributes := #[] }, { accessFlags := 25, nameIndex := 302, descriptorIndex := 303, attributes := #[] }, { accessFlags := 24, nameIndex := 19, descriptorIndex := 20, attributes := #[] }, { accessFlags := 24, nameIndex := 89, descriptorIndex := 86, attributes := #[] }, { accessFlags := 24, nameIndex := 85, descriptorIndex := 86, attributes := #[] }, { accessFlags := 18, nameIndex := 207, descriptorIndex := 194, attributes := #[] }, { accessFlags := 25, nameIndex := 316, descriptorIndex := 194, attributes := #[] }, { accessFlags := 25, nameIndex := 318, descriptorIndex := 194, attributes := #[] }, { accessFlags := 26, nameIndex := 320, descriptorIndex := 321, attributes := #[] }])
  fields := #[{ name := "MIN_VALUE", type := .int, accessFlags := 25, slot := 0, constantValue := 0 }, { name := "MAX_VALUE", type := .int, accessFlags := 25, slot := 1, constantValue := 0 }, { name := "TYPE", type := (.object "java/lang/Class"), accessFlags := 25, slot := 2, constantValue := 0 }, { name := "digits", type := (.array .char), accessFlags := 24, slot := 3, constantValue := 0 }, { name := "DigitTens", type := (.array .byte), accessFlags := 24, slot := 4, constantValue := 0 }, { name := "DigitOnes", type := (.array .byte), accessFlags := 24, slot := 5, constantValue := 0 }, { name := "value", type := .int, accessFlags := 18, slot := 0, constantValue := 0 }, { name := "SIZE", type := .int, accessFlags := 25, slot := 6, constantValue := 0 }, { name := "BYTES", type := .int, accessFlags := 25, slot := 7, constantValue := 0 }, { name := "serialVersionUID", type := .long, accessFlags := 26, slot := 8, constantValue := 0 }]
  methods := #[]
  instanceTypes := #[.int]
  staticTypes := #[.int, .int, (.object "java/lang/Class"), (.array .char), (.array .byte), (.array .byte), .int, .int, .long]
  resolved := Array.replicate 453 none
  statics := some 3 }

def pool22 : Array CpInfo := pool [(9, u "<init>"), (6, .class_ 18), (1, u "java/lang/Object"), (0, u "()V"), (1, .class_ 23), (1, u "jdk/internal/util/ArraysSupport"), (0, u "LOG2_ARRAY_LONG_INDEX_SCALE"), (0, u "I"), (2, u "U"), (0, u "Ljdk/internal/misc/Unsafe;"), (8, u "BIG_ENDIAN"), (0, u "Z"), (8, u "LOG2_BYTE_BIT_SIZE"), (4, u "LOG2_ARRAY_INT_INDEX_SCALE"), (54, u "JLA"), (0, u "Ljdk/internal/access/JavaLangAccess;"), (11, u "LOG2_ARRAY_BOOLEAN_INDEX_SCALE"), (9, u "LOG2_ARRAY_BYTE_INDEX_SCALE"), (5, u "LOG2_ARRAY_CHAR_INDEX_SCALE"), (5, u "LOG2_ARRAY_SHORT_INDEX_SCALE"), (18, u "LOG2_ARRAY_FLOAT_INDEX_SCALE"), (24, u "LOG2_ARRAY_DOUBLE_INDEX_SCALE"), (6, .methodref 195 196), (0, .class_ 197), (0, .nameAndType 198 199), (0, u "java/lang/Math"), (0, u "max"), (0, u "(II)I"), (0, .integer 2147483639), (76, u "T_BOOLEAN"), (2, u "T_CHAR"), (1, u "T_FLOAT"), (1, u "T_DOUBLE"), (1, u "T_BYTE"), (1, u "T_SHORT"), (1, u "T_INT"), (1, u "T_LONG"), (1, u "SOFT_MAX_ARRAY_LENGTH"), (56, u "newLength"), (0, u "(III)I")] 25

def k22m0 : Method := { name := "<init>", desc := "()V", sig := { parameters := [], returnType := none }, accessFlags := 2, code := none }
def k22c1 : Code := { maxStack := 3, maxLocals := 4, code := jdk_48_method_27_code, exceptionTable := #[], attributes := #[] }
def k22m1 : Method := { name := "newLength", desc := "(III)I", sig := { parameters := [.int, .int, .int], returnType := some .int }, accessFlags := 9, code := some k22c1 }
/-- jdk/internal/util/ArraysSupport -/
def k22 : Class := { plain "jdk/internal/util/ArraysSupport" (some 0) with
  accessFlags := 33
  interfaces := #[]
  cf := some (fileOf pool22 21 #[] #[{ accessFlags := 2, nameIndex := 9, descriptorIndex := 19, attributes := #[] }, { accessFlags := 9, nameIndex := 351, descriptorIndex := 352, attributes := #[] }] 33 16 #[] #[{ accessFlags := 24, nameIndex := 28, descriptorIndex := 29, attributes := #[] }, { accessFlags := 26, nameIndex := 38, descriptorIndex := 39, attributes := #[] }, { accessFlags := 25, nameIndex := 121, descriptorIndex := 25, attributes := #[] }, { accessFlags := 25, nameIndex := 131, descriptorIndex := 25, attributes := #[] }, { accessFlags := 25, nameIndex := 137, descriptorIndex := 25, attributes := #[] }, { accessFlags := 25, nameIndex := 143, descriptorIndex := 25, attributes := #[] }, { accessFlags := 25, nameIndex := 53, descriptorIndex := 25, attributes := #[] }, { accessFlags := 25, nameIndex := 24, descriptorIndex := 25, attributes := #[] }, { accessFlags := 25, nameIndex := 162, descriptorIndex := 25, attributes := #[] }, { accessFlags := 25, nameIndex := 187, descriptorIndex := 25, attributes := #[] }, { accessFlags := 26, nameIndex := 48, descriptorIndex := 25, attributes := #[] }, { accessFlags := 25, nameIndex := 277, descriptorIndex := 25, attributes := #[] }, { accessFlags := 25, nameIndex := 280, descriptorIndex := 25, attributes := #[] }, { accessFlags := 25, nameIndex := 282, descriptorIndex := 25, attributes := #[] }, { accessFlags := 25, nameIndex := 284, descriptorIndex := 25, attributes := #[] }, { accessFlags := 25, nameIndex := 286, descriptorIndex := 25, attributes := #[] }, { accessFlags := 25, nameIndex := 288, descriptorIndex := 25, attributes := #[] }, { accessFlags := 25, nameIndex := 290, descriptorIndex := 25, attributes := #[] }, { accessFlags := 25, nameIndex := 292, descriptorIndex := 25, attributes := #[] }, { accessFlags := 26, nameIndex := 108, descriptorIndex := 109, attributes := #[] }, { accessFlags := 25, nameIndex := 294, descriptorIndex := 25, attributes := #[] }])
  fields := #[{ name := "U", type := (.object "jdk/internal/misc/Unsafe"), accessFlags := 24, slot := 0, constantValue := 0 }, { name := "BIG_ENDIAN", type := .boolean, accessFlags := 26, slot := 1, constantValue := 0 }, { name := "LOG2_ARRAY_BOOLEAN_INDEX_SCALE", type := .int, accessFlags := 25, slot := 2, constantValue := 0 }, { name := "LOG2_ARRAY_BYTE_INDEX_SCALE", type := .int, accessFlags := 25, slot := 3, constantValue := 0 }, { name := "LOG2_ARRAY_CHAR_INDEX_SCALE", type := .int, accessFlags := 25, slot := 4, constantValue := 0 }, { name := "LOG2_ARRAY_SHORT_INDEX_SCALE", type := .int, accessFlags := 25, slot := 5, constantValue := 0 }, { name := "LOG2_ARRAY_INT_INDEX_SCALE", type := .int, accessFlags := 25, slot := 6, constantValue := 0 }, { name := "LOG2_ARRAY_LONG_INDEX_SCALE", type := .int, accessFlags := 25, slot := 7, constantValue := 0 }, { name := "LOG2_ARRAY_FLOAT_INDEX_SCALE", type := .int, accessFlags := 25, slot := 8, constantValue := 0 }, { name := "LOG2_ARRAY_DOUBLE_INDEX_SCALE", type := .int, accessFlags := 25, slot := 9, constantValue := 0 }, { name := "LOG2_BYTE_BIT_SIZE", type := .int, accessFlags := 26, slot := 10, constantValue := 0 }, { name := "T_BOOLEAN", type := .int, accessFlags := 25, slot := 11, constantValue := 0 }, { name := "T_CHAR", type := .int, accessFlags := 25, slot := 12, constantValue := 0 }, { name := "T_FLOAT", type := .int, accessFlags := 25, slot := 13, constantValue := 0 }, { name := "T_DOUBLE", type := .int, accessFlags := 25, slot := 14, constantValue := 0 }, { name := "T_BYTE", type := .int, accessFlags := 25, slot := 15, constantValue := 0 }, { name := "T_SHORT", type := .int, accessFlags := 25, slot := 16, constantValue := 0 }, { name := "T_INT", type := .int, accessFlags := 25, slot := 17, constantValue := 0 }, { name := "T_LONG", type := .int, accessFlags := 25, slot := 18, constantValue := 0 }, { name := "JLA", type := (.object "jdk/internal/access/JavaLangAccess"), accessFlags := 26, slot := 19, constantValue := 0 }, { name := "SOFT_MAX_ARRAY_LENGTH", type := .int, accessFlags := 25, slot := 20, constantValue := 0 }]
  methods := #[k22m0, k22m1]
  instanceTypes := #[]
  staticTypes := #[(.object "jdk/internal/misc/Unsafe"), .boolean, .int, .int, .int, .int, .int, .int, .int, .int, .int, .int, .int, .int, .int, .int, .int, .int, .int, (.object "jdk/internal/access/JavaLangAccess"), .int]
  resolved := Array.replicate 378 none
  statics := none }

def pool23 : Array CpInfo := pool [(1, .class_ 2), (0, u "java/lang/Math"), (1, .class_ 6), (1, u "java/lang/Object"), (0, u "<init>"), (0, u "()V"), (89, .class_ 100), (1, u "java/lang/Math$RandomNumberGeneratorHolder"), (23, u "abs"), (0, u "(J)J"), (46, u "negativeZeroFloatBits"), (0, u "J"), (2, u "negativeZeroDoubleBits"), (21, u "max"), (2, u "min"), (43, u "$assertionsDisabled"), (0, u "Z"), (88, u "(II)I"), (2, u "twoToTheDoubleScaleDown"), (0, u "D"), (4, u "twoToTheDoubleScaleUp"), (9, u "E"), (3, u "PI"), (2, u "TAU"), (2, u "DEGREES_TO_RADIANS"), (0, u "RADIANS_TO_DEGREES")] 94

def k23m0 : Method := { name := "<init>", desc := "()V", sig := { parameters := [], returnType := none }, accessFlags := 2, code := none }
def k23c1 : Code := { maxStack := 4, maxLocals := 2, code := jdk_29_method_61_code, exceptionTable := #[], attributes := #[] }
def k23m1 : Method := { name := "abs", desc := "(J)J", sig := { parameters := [.long], returnType := some .long }, accessFlags := 9, code := some k23c1 }
def k23c2 : Code := { maxStack := 2, maxLocals := 2, code := jdk_29_method_65_code, exceptionTable := #[], attributes := #[] }
def k23m2 : Method := { name := "max", desc := "(II)I", sig := { parameters := [.int, .int], returnType := some .int }, accessFlags := 9, code := some k23c2 }
def k23c3 : Code := { maxStack := 2, maxLocals := 2, code := jdk_29_method_69_code, exceptionTable := #[], attributes := #[] }
def k23m3 : Method := { name := "min", desc := "(II)I", sig := { parameters := [.int, .int], returnType := some .int }, accessFlags := 9, code := some k23c3 }
/-- java/lang/Math -/
def k23 : Class := { plain "java/lang/Math" (some 0) with
  accessFlags := 49
  interfaces := #[]
  cf := some (fileOf pool23 1 #[.nestMembers #[98]] #[{ accessFlags := 2, nameIndex := 7, descriptorIndex := 8, attributes := #[] }, { accessFlags := 9, nameIndex := 124, descriptorIndex := 125, attributes := #[] }, { accessFlags := 9, nameIndex := 198, descriptorIndex := 335, attributes := #[] }, { accessFlags := 9, nameIndex := 201, descriptorIndex := 335, attributes := #[] }] 49 4 #[] #[{ accessFlags := 25, nameIndex := 354, descriptorIndex := 339, attributes := #[] }, { accessFlags := 25, nameIndex := 358, descriptorIndex := 339, attributes := #[] }, { accessFlags := 25, nameIndex := 361, descriptorIndex := 339, attributes := #[] }, { accessFlags := 26, nameIndex := 364, descriptorIndex := 339, attributes := #[] }, { accessFlags := 26, nameIndex := 365, descriptorIndex := 339, attributes := #[] }, { accessFlags := 26, nameIndex := 172, descriptorIndex := 173, attributes := #[] }, { accessFlags := 26, nameIndex := 176, descriptorIndex := 173, attributes := #[] }, { accessFlags := 8, nameIndex := 344, descriptorIndex := 339, attributes := #[] }, { accessFlags := 8, nameIndex := 338, descriptorIndex := 339, attributes := #[] }, { accessFlags := 4120, nameIndex := 245, descriptorIndex := 246, attributes := #[] }])
  fields := #[{ name := "E", type := .double, accessFlags := 25, slot := 0, constantValue := 0 }, { name := "PI", type := .double, accessFlags := 25, slot := 1, constantValue := 0 }, { name := "TAU", type := .double, accessFlags := 25, slot := 2, constantValue := 0 }, { name := "DEGREES_TO_RADIANS", type := .double, accessFlags := 26, slot := 3, constantValue := 0 }, { name := "RADIANS_TO_DEGREES", type := .double, accessFlags := 26, slot := 4, constantValue := 0 }, { name := "negativeZeroFloatBits", type := .long, accessFlags := 26, slot := 5, constantValue := 0 }, { name := "negativeZeroDoubleBits", type := .long, accessFlags := 26, slot := 6, constantValue := 0 }, { name := "twoToTheDoubleScaleUp", type := .double, accessFlags := 8, slot := 7, constantValue := 0 }, { name := "twoToTheDoubleScaleDown", type := .double, accessFlags := 8, slot := 8, constantValue := 0 }, { name := "$assertionsDisabled", type := .boolean, accessFlags := 4120, slot := 9, constantValue := 0 }]
  methods := #[k23m0, k23m1, k23m2, k23m3]
  instanceTypes := #[]
  staticTypes := #[.double, .double, .double, .double, .double, .long, .long, .double, .double, .boolean]
  resolved := Array.replicate 460 none
  statics := none }

def pool24 : Array CpInfo := pool [(2, .class_ 4), (1, u "java/lang/Object"), (0, u "<init>"), (0, u "()V"), (7, .class_ 16), (1, u "java/util/Arrays"), (57, .class_ 76), (1, u "java/util/Arrays$NaturalOrder"), (32, u "()Ljava/lang/Object;"), (3, .class_ 115), (1, u "java/util/Arrays$LegacyMergeSort"), (1, u "Z"), (10, .nameAndType 129 109), (0, u "clone"), (9, u "copyOfRange"), (10, .methodref 151 152), (0, .class_ 153), (0, .nameAndType 154 155), (0, u "java/lang/System"), (0, u "arraycopy"), (0, u "(Ljava/lang/Object;ILjava/lang/Object;II)V"), (146, u "copyOf"), (1, .methodref 305 306), (0, .class_ 307), (0, .nameAndType 308 309), (0, u "java/lang/Math"), (0, u "min"), (0, u "(II)I"), (0, .methodref 311 128), (0, .class_ 312), (0, u "[B"), (26, .methodref 14 340), (0, .nameAndType 341 342), (0, u "copyOfRangeByte"), (0, u "([BII)[B"), (0, .methodref 14 344), (0, .nameAndType 345 346), (0, u "checkLength"), (0, u "(II)V"), (28, .class_ 376), (0, u "java/util/Arrays$ArrayList"), (68, u "$assertionsDisabled"), (269, u "MIN_ARRAY_SORT_GRAN"), (0, u "I"), (2, u "INSERTIONSORT_THRESHOLD"), (149, u "([BI)[B"), (105, .class_ 976), (0, u "java/util/Arrays$ArrayItr")] 52

def k24m0 : Method := { name := "<init>", desc := "()V", sig := { parameters := [], returnType := none }, accessFlags := 2, code := none }
def k24c1 : Code := { maxStack := 6, maxLocals := 3, code := jdk_65_method_121_code, exceptionTable := #[], attributes := #[] }
def k24m1 : Method := { name := "copyOf", desc := "([BI)[B", sig := { parameters := [(.array .byte), .int], returnType := some (.array .byte) }, accessFlags := 9, code := some k24c1 }
def k24c2 : Code := { maxStack := 4, maxLocals := 2, code := jdk_65_method_131_code, exceptionTable := #[], attributes := #[] }
def k24m2 : Method := { name := "checkLength", desc := "(II)V", sig := { parameters := [.int, .int], returnType := none }, accessFlags := 10, code := some k24c2 }
def k24c3 : Code := { maxStack := 3, maxLocals := 3, code := jdk_65_method_132_code, exceptionTable := #[], attributes := #[] }
def k24m3 : Method := { name := "copyOfRange", desc := "([BII)[B", sig := { parameters := [(.array .byte), .int, .int], returnType := some (.array .byte) }, accessFlags := 9, code := some k24c3 }
def k24c4 : Code := { maxStack := 6, maxLocals := 5, code := jdk_65_method_133_code, exceptionTable := #[], attributes := #[] }
def k24m4 : Method := { name := "copyOfRangeByte", desc := "([BII)[B", sig := { parameters := [(.array .byte), .int, .int], returnType := some (.array .byte) }, accessFlags := 10, code := some k24c4 }
/-- java/util/Arrays -/
def k24 : Class := { plain "java/util/Arrays" (some 0) with
  accessFlags := 49
  interfaces := #[]
  cf := some (fileOf pool24 14 #[.nestMembers #[975, 375, 113, 74]] #[{ accessFlags := 2, nameIndex := 5, descriptorIndex := 6, attributes := #[] }, { accessFlags := 9, nameIndex := 302, descriptorIndex := 869, attributes := #[] }, { accessFlags := 10, nameIndex := 345, descriptorIndex := 346, attributes := #[] }, { accessFlags := 9, nameIndex := 139, descriptorIndex := 342, attributes := #[] }, { accessFlags := 10, nameIndex := 341, descriptorIndex := 342, attributes := #[] }] 49 2 #[] #[{ accessFlags := 26, nameIndex := 715, descriptorIndex := 716, attributes := #[] }, { accessFlags := 26, nameIndex := 719, descriptorIndex := 716, attributes := #[] }, { accessFlags := 4120, nameIndex := 445, descriptorIndex := 117, attributes := #[] }])
  fields := #[{ name := "MIN_ARRAY_SORT_GRAN", type := .int, accessFlags := 26, slot := 0, constantValue := 0 }, { name := "INSERTIONSORT_THRESHOLD", type := .int, accessFlags := 26, slot := 1, constantValue := 0 }, { name := "$assertionsDisabled", type := .boolean, accessFlags := 4120, slot := 2, constantValue := 0 }]
  methods := #[k24m0, k24m1, k24m2, k24m3, k24m4]
  instanceTypes := #[]
  staticTypes := #[.int, .int, .boolean]
  resolved := Array.replicate 1029 none
  statics := none }

def pool25 : Array CpInfo := pool [(1, .class_ 2), (0, u "java/lang/String"), (1, .class_ 6), (1, u "java/lang/Object"), (0, u "<init>"), (0, u "()V"), (0, .methodref 1 10), (0, .nameAndType 11 12), (0, u "checkIndex"), (0, u "(II)V"), (1, .class_ 16), (1, u "java/lang/StringLatin1"), (36, u "([BI)C"), (67, u "$assertionsDisabled"), (0, u "Z"), (98, .class_ 223), (1, u "java/lang/StringLatin1$LinesSpliterator"), (28, u "charAt"), (137, .class_ 391), (0, u "java/lang/StringLatin1$CharsSpliterator")] 3

def k25m0 : Method := { name := "<init>", desc := "()V", sig := { parameters := [], returnType := none }, accessFlags := 0, code := none }
def k25c1 : Code := { maxStack := 2, maxLocals := 2, code := jdk_43_method_2_code, exceptionTable := #[], attributes := #[] }
def k25m1 : Method := { name := "charAt", desc := "([BI)C", sig := { parameters := [(.array .byte), .int], returnType := some .char }, accessFlags := 9, code := some k25c1 }
/-- java/lang/StringLatin1 -/
def k25 : Class := { plain "java/lang/StringLatin1" (some 0) with
  accessFlags := 48
  interfaces := #[]
  cf := some (fileOf pool25 14 #[.nestMembers #[390, 221]] #[{ accessFlags := 0, nameIndex := 7, descriptorIndex := 8, attributes := #[] }, { accessFlags := 9, nameIndex := 252, descriptorIndex := 53, attributes := #[] }] 48 4 #[] #[{ accessFlags := 4120, nameIndex := 121, descriptorIndex := 122, attributes := #[] }])
  fields := #[{ name := "$assertionsDisabled", type := .boolean, accessFlags := 4120, slot := 0, constantValue := 0 }]
  methods := #[k25m0, k25m1]
  instanceTypes := #[]
  staticTypes := #[.boolean]
  resolved := Array.replicate 395 none
  statics := none }

def pool26 : Array CpInfo := pool [(2, .class_ 4), (1, u "java/lang/Object"), (0, u "<init>"), (0, u "()V"), (17, .class_ 26), (1, u "jdk/internal/util/Preconditions"), (6, u "checkIndex"), (21, .class_ 56), (0, u "jdk/internal/util/Preconditions$4"), (57, .class_ 115), (0, u "jdk/internal/util/Preconditions$1"), (7, u "SIOOBE_FORMATTER"), (0, u "Ljava/util/function/BiFunction;"), (0, .class_ 126), (0, u "jdk/internal/util/Preconditions$2"), (3, u "AIOOBE_FORMATTER"), (0, .class_ 132), (0, u "jdk/internal/util/Preconditions$3"), (3, u "IOOBE_FORMATTER"), (41, u "(IILjava/util/function/BiFunction;)I")] 15

def k26m0 : Method := { name := "<init>", desc := "()V", sig := { parameters := [], returnType := none }, accessFlags := 1, code := none }
def k26c1 : Code := { maxStack := 3, maxLocals := 3, code := jdk_41_method_11_code, exceptionTable := #[], attributes := #[] }
def k26m1 : Method := { name := "checkIndex", desc := "(IILjava/util/function/BiFunction;)I", sig := { parameters := [.int, .int, (.object "java/util/function/BiFunction")], returnType := some .int }, accessFlags := 9, code := some k26c1 }
/-- jdk/internal/util/Preconditions -/
def k26 : Class := { plain "jdk/internal/util/Preconditions" (some 0) with
  accessFlags := 33
  interfaces := #[]
  cf := some (fileOf pool26 24 #[.nestMembers #[55, 131, 125, 114]] #[{ accessFlags := 1, nameIndex := 5, descriptorIndex := 6, attributes := #[] }, { accessFlags := 9, nameIndex := 33, descriptorIndex := 178, attributes := #[] }] 33 2 #[] #[{ accessFlags := 25, nameIndex := 123, descriptorIndex := 124, attributes := #[] }, { accessFlags := 25, nameIndex := 130, descriptorIndex := 124, attributes := #[] }, { accessFlags := 25, nameIndex := 136, descriptorIndex := 124, attributes := #[] }])
  fields := #[{ name := "SIOOBE_FORMATTER", type := (.object "java/util/function/BiFunction"), accessFlags := 25, slot := 0, constantValue := 0 }, { name := "AIOOBE_FORMATTER", type := (.object "java/util/function/BiFunction"), accessFlags := 25, slot := 1, constantValue := 0 }, { name := "IOOBE_FORMATTER", type := (.object "java/util/function/BiFunction"), accessFlags := 25, slot := 2, constantValue := 0 }]
  methods := #[k26m0, k26m1]
  instanceTypes := #[]
  staticTypes := #[(.object "java/util/function/BiFunction"), (.object "java/util/function/BiFunction"), (.object "java/util/function/BiFunction")]
  resolved := Array.replicate 194 none
  statics := some 4 }

def pool27 : Array CpInfo := pool [(1, .class_ 2), (0, u "java/lang/Cloneable"), (0, .class_ 4), (0, u "java/lang/Object")] 2

/-- java/lang/Cloneable -/
def k27 : Class := { plain "java/lang/Cloneable" (some 0) with
  accessFlags := 1537
  interfaces := #[]
  cf := some (fileOf pool27 1 #[] #[] 1537 3 #[] #[])
  fields := #[]
  methods := #[]
  instanceTypes := #[]
  staticTypes := #[]
  resolved := Array.replicate 7 none
  statics := none }

def pool28 : Array CpInfo := pool [(2, .class_ 4), (1, u "java/lang/Object"), (0, u "<init>"), (0, u "()V"), (12, .class_ 20), (0, u "java/util/Collections"), (63, u "r"), (0, u "Ljava/util/Random;"), (80, .class_ 167), (0, u "java/util/Collections$UnmodifiableCollection"), (6, .class_ 175), (0, u "java/util/Collections$UnmodifiableSequencedCollection"), (6, .class_ 183), (0, u "java/util/Collections$UnmodifiableSet"), (6, .class_ 191), (0, u "java/util/Collections$UnmodifiableSequencedSet"), (6, .class_ 199), (0, u "java/util/Collections$UnmodifiableSortedSet"), (6, .class_ 207), (0, u "java/util/Collections$UnmodifiableNavigableSet"), (4, .class_ 213), (0, u "java/util/Collections$UnmodifiableList"), (1, .class_ 216), (0, u "java/util/Collections$UnmodifiableRandomAccessList"), (6, .class_ 224), (0, u "java/util/Collections$UnmodifiableMap"), (6, .class_ 232), (0, u "java/util/Collections$UnmodifiableSequencedMap"), (4, .class_ 238), (0, u "java/util/Collections$UnmodifiableSortedMap"), (6, .class_ 246), (0, u "java/util/Collections$UnmodifiableNavigableMap"), (3, .class_ 251), (0, u "java/util/Collections$SynchronizedCollection"), (4, .class_ 257), (0, u "java/util/Collections$SynchronizedSet"), (4, .class_ 263), (0, u "java/util/Collections$SynchronizedSortedSet"), (1, .class_ 266), (0, u "java/util/Collections$SynchronizedNavigableSet"), (1, .class_ 269), (0, u "java/util/Collections$SynchronizedRandomAccessList"), (1, .class_ 272), (0, u "java/util/Collections$SynchronizedList"), (5, .class_ 279), (0, u "java/util/Collections$SynchronizedMap"), (1, .class_ 282), (0, u "java/util/Collections$SynchronizedSortedMap"), (1, .class_ 285), (0, u "java/util/Collections$SynchronizedNavigableMap"), (1, .class_ 288), (0, u "java/util/Collections$CheckedCollection"), (11, .class_ 301), (0, u "java/util/Collections$CheckedQueue"), (3, .class_ 306), (0, u "java/util/Collections$CheckedSet"), (3, .class_ 311), (0, u "java/util/Collections$CheckedSortedSet"), (3, .class_ 316), (0, u "java/util/Collections$CheckedNavigableSet"), (3, .class_ 321), (0, u "java/util/Collections$CheckedRandomAccessList"), (3, .class_ 326), (0, u "java/util/Collections$CheckedList"), (1, .class_ 329), (0, u "java/util/Collections$CheckedMap"), (3, .class_ 334), (0, u "java/util/Collections$CheckedSortedMap"), (3, .class_ 339), (0, u "java/util/Collections$CheckedNavigableMap"), (4, .class_ 346), (1, u "java/util/Collections$EmptyIterator"), (3, .class_ 352), (1, u "java/util/Collections$EmptyListIterator"), (2, .class_ 357), (1, u "java/util/Collections$EmptyEnumeration"), (4, u "EMPTY_SET"), (0, u "Ljava/util/Set;"), (6, u "EMPTY_LIST"), (0, u "Ljava/util/List;"), (2, u "EMPTY_MAP"), (0, u "Ljava/util/Map;"), (4, .class_ 381), (0, u "java/util/Collections$SingletonSet"), (2, .class_ 385), (0, u "java/util/Collections$1"), (1, .class_ 388), (0, u "java/util/Collections$2"), (1, .class_ 391), (0, u "java/util/Collections$SingletonList"), (1, .class_ 394), (0, u "java/util/Collections$SingletonMap"), (22, .class_ 418), (0, u "java/util/Collections$CopiesList"), (4, .class_ 425), (1, u "java/util/Collections$ReverseComparator"), (8, .class_ 435), (0, u "java/util/Collections$ReverseComparator2"), (6, .class_ 443), (0, u "java/util/Collections$3"), (25, .class_ 470), (0, u "java/util/Collections$SetFromMap"), (2, .class_ 474), (0, u "java/util/Collections$SequencedSetFromMap"), (3, .class_ 479), (0, u "java/util/Collections$AsLIFOQueue"), (11, .class_ 492), (0, u "java/util/Collections$EmptySet"), (1, .class_ 495), (0, u "java/util/Collections$EmptyList"), (1, .class_ 498), (0, u "java/util/Collections$EmptyMap"), (1, u "BINARYSEARCH_THRESHOLD"), (0, u "I"), (2, u "REVERSE_THRESHOLD"), (1, u "SHUFFLE_THRESHOLD"), (1, u "FILL_THRESHOLD"), (1, u "ROTATE_THRESHOLD"), (1, u "COPY_THRESHOLD"), (1, u "REPLACEALL_THRESHOLD"), (1, u "INDEXOFSUBLIST_THRESHOLD"), (333, .class_ 851), (0, u "java/util/Collections$CheckedMap$CheckedEntrySet"), (0, .class_ 853), (0, u "java/util/Collections$CheckedMap$CheckedEntrySet$CheckedEntry"), (0, .class_ 855), (0, u "java/util/Collections$CheckedMap$CheckedEntrySet$1"), (0, .class_ 857), (0, u "java/util/Collections$CheckedList$1"), (0, .class_ 859), (0, u "java/util/Collections$CheckedCollection$1"), (0, .class_ 861), (0, u "java/util/Collections$UnmodifiableNavigableMap$EmptyNavigableMap"), (0, .class_ 863), (0, u "java/util/Collections$UnmodifiableMap$UnmodifiableEntrySet"), (0, .class_ 865), (0, u "java/util/Collections$UnmodifiableMap$UnmodifiableEntrySet$UnmodifiableEntry"), (0, .class_ 867), (0, u "java/util/Collections$UnmodifiableMap$UnmodifiableEntrySet$UnmodifiableEntrySetSpliterator"), (0, .class_ 869), (0, u "java/util/Collections$UnmodifiableMap$UnmodifiableEntrySet$1"), (0, .class_ 871), (0, u "java/util/Collections$UnmodifiableList$1"), (0, .class_ 873), (0, u "java/util/Collections$UnmodifiableNavigableSet$EmptyNavigableSet"), (0, .class_ 875), (0, u "java/util/Collections$UnmodifiableCollection$1")] 57

def k28m0 : Method := { name := "<init>", desc := "()V", sig := { parameters := [], returnType := none }, accessFlags := 2, code := none }
/-- java/util/Collections -/
def k28 : Class := { plain "java/util/Collections" (some 0) with
  accessFlags := 33
  interfaces := #[]
  cf := some (fileOf pool28 19 #[.nestMembers #[478, 473, 469, 434, 423, 417, 393, 390, 380, 497, 494, 491, 355, 350, 344, 338, 333, 328, 850, 852, 854, 320, 325, 856, 315, 310, 305, 300, 287, 858, 284, 281, 278, 268, 271, 265, 262, 256, 250, 245, 860, 237, 231, 223, 862, 864, 866, 868, 215, 212, 870, 206, 872, 198, 190, 182, 174, 166, 874, 442, 387, 384]] #[{ accessFlags := 2, nameIndex := 5, descriptorIndex := 6, attributes := #[] }] 33 2 #[] #[{ accessFlags := 26, nameIndex := 500, descriptorIndex := 501, attributes := #[] }, { accessFlags := 26, nameIndex := 504, descriptorIndex := 501, attributes := #[] }, { accessFlags := 26, nameIndex := 506, descriptorIndex := 501, attributes := #[] }, { accessFlags := 26, nameIndex := 508, descriptorIndex := 501, attributes := #[] }, { accessFlags := 26, nameIndex := 510, descriptorIndex := 501, attributes := #[] }, { accessFlags := 26, nameIndex := 512, descriptorIndex := 501, attributes := #[] }, { accessFlags := 26, nameIndex := 514, descriptorIndex := 501, attributes := #[] }, { accessFlags := 26, nameIndex := 516, descriptorIndex := 501, attributes := #[] }, { accessFlags := 10, nameIndex := 84, descriptorIndex := 85, attributes := #[] }, { accessFlags := 25, nameIndex := 362, descriptorIndex := 363, attributes := #[] }, { accessFlags := 25, nameIndex := 370, descriptorIndex := 371, attributes := #[] }, { accessFlags := 25, nameIndex := 374, descriptorIndex := 375, attributes := #[] }])
  fields := #[{ name := "BINARYSEARCH_THRESHOLD", type := .int, accessFlags := 26, slot := 0, constantValue := 0 }, { name := "REVERSE_THRESHOLD", type := .int, accessFlags := 26, slot := 1, constantValue := 0 }, { name := "SHUFFLE_THRESHOLD", type := .int, accessFlags := 26, slot := 2, constantValue := 0 }, { name := "FILL_THRESHOLD", type := .int, accessFlags := 26, slot := 3, constantValue := 0 }, { name := "ROTATE_THRESHOLD", type := .int, accessFlags := 26, slot := 4, constantValue := 0 }, { name := "COPY_THRESHOLD", type := .int, accessFlags := 26, slot := 5, constantValue := 0 }, { name := "REPLACEALL_THRESHOLD", type := .int, accessFlags := 26, slot := 6, constantValue := 0 }, { name := "INDEXOFSUBLIST_THRESHOLD", type := .int, accessFlags := 26, slot := 7, constantValue := 0 }, { name := "r", type := (.object "java/util/Random"), accessFlags := 10, slot := 8, constantValue := 0 }, { name := "EMPTY_SET", type := (.object "java/util/Set"), accessFlags := 25, slot := 9, constantValue := 0 }, { name := "EMPTY_LIST", type := (.object "java/util/List"), accessFlags := 25, slot := 10, constantValue := 0 }, { name := "EMPTY_MAP", type := (.object "java/util/Map"), accessFlags := 25, slot := 11, constantValue := 0 }]
  methods := #[k28m0]
  instanceTypes := #[]
  staticTypes := #[.int, .int, .int, .int, .int, .int, .int, .int, (.object "java/util/Random"), (.object "java/util/Set"), (.object "java/util/List"), (.object "java/util/Map")]
  resolved := Array.replicate 933 none
  statics := some 5 }

def pool29 : Array CpInfo := pool [(8, .class_ 10), (1, u "java/lang/Iterable"), (24, .class_ 36), (0, u "java/lang/Object")] 25

/-- java/lang/Iterable -/
def k29 : Class := { plain "java/lang/Iterable" (some 0) with
  accessFlags := 1537
  interfaces := #[]
  cf := some (fileOf pool29 8 #[] #[] 1537 35 #[] #[])
  fields := #[]
  methods := #[]
  instanceTypes := #[]
  staticTypes := #[]
  resolved := Array.replicate 62 none
  statics := none }

def pool30 : Array CpInfo := pool [(10, .class_ 12), (1, u "java/util/Collection"), (47, .class_ 61), (0, u "java/lang/Object"), (0, .class_ 63), (0, u "java/lang/Iterable")] 51

/-- java/util/Collection -/
def k30 : Class := { plain "java/util/Collection" (some 0) with
  accessFlags := 1537
  interfaces := #[29]
  cf := some (fileOf pool30 10 #[] #[] 1537 60 #[62] #[])
  fields := #[]
  methods := #[]
  instanceTypes := #[]
  staticTypes := #[]
  resolved := Array.replicate 115 none
  statics := none }

def pool31 : Array CpInfo := pool [(2, .class_ 4), (1, u "java/lang/Object"), (0, u "<init>"), (0, u "()V"), (1, .class_ 10), (1, u "java/util/AbstractCollection"), (66, .class_ 78), (0, u "java/util/Collection")] 81

def k31m0 : Method := { name := "<init>", desc := "()V", sig := { parameters := [], returnType := none }, accessFlags := 4, code := none }
/-- java/util/AbstractCollection -/
def k31 : Class := { plain "java/util/AbstractCollection" (some 0) with
  accessFlags := 1057
  interfaces := #[30]
  cf := some (fileOf pool31 8 #[] #[{ accessFlags := 4, nameIndex := 5, descriptorIndex := 6, attributes := #[] }] 1057 2 #[77] #[])
  fields := #[]
  methods := #[k31m0]
  instanceTypes := #[]
  staticTypes := #[]
  resolved := Array.replicate 160 none
  statics := none }

def pool32 : Array CpInfo := pool [(8, .class_ 10), (1, u "java/util/SequencedCollection"), (15, .class_ 27), (0, u "java/lang/Object"), (0, .class_ 29), (0, u "java/util/Collection")] 27

/-- java/util/SequencedCollection -/
def k32 : Class := { plain "java/util/SequencedCollection" (some 0) with
  accessFlags := 1537
  interfaces := #[30]
  cf := some (fileOf pool32 8 #[] #[] 1537 26 #[28] #[])
  fields := #[]
  methods := #[]
  instanceTypes := #[]
  staticTypes := #[]
  resolved := Array.replicate 57 none
  statics := none }

def pool33 : Array CpInfo := pool [(8, .class_ 10), (1, u "java/util/List"), (92, .class_ 104), (0, u "java/lang/Object"), (15, .class_ 121), (0, u "java/util/SequencedCollection")] 129

/-- java/util/List -/
def k33 : Class := { plain "java/util/List" (some 0) with
  accessFlags := 1537
  interfaces := #[32]
  cf := some (fileOf pool33 8 #[] #[] 1537 103 #[120] #[])
  fields := #[]
  methods := #[]
  instanceTypes := #[]
  staticTypes := #[]
  resolved := Array.replicate 251 none
  statics := none }

def pool34 : Array CpInfo := pool [(2, .class_ 4), (1, u "java/util/AbstractCollection"), (0, u "<init>"), (0, u "()V"), (1, .class_ 10), (1, u "java/util/AbstractList"), (0, u "modCount"), (0, u "I"), (64, .class_ 78), (0, u "java/util/AbstractList$Itr"), (3, .class_ 83), (0, u "java/util/AbstractList$ListItr"), (9, .class_ 94), (0, u "java/util/AbstractList$RandomAccessSubList"), (3, .class_ 99), (0, u "java/util/AbstractList$SubList"), (33, .class_ 134), (0, u "java/util/List"), (73, .class_ 209), (0, u "java/util/AbstractList$SubList$1"), (0, .class_ 211), (0, u "java/util/AbstractList$RandomAccessSpliterator")] 6

def k34m0 : Method := { name := "<init>", desc := "()V", sig := { parameters := [], returnType := none }, accessFlags := 4, code := none }
/-- java/util/AbstractList -/
def k34 : Class := { plain "java/util/AbstractList" (some 31) with
  accessFlags := 1057
  interfaces := #[33]
  cf := some (fileOf pool34 8 #[.nestMembers #[93, 98, 208, 210, 82, 77]] #[{ accessFlags := 4, nameIndex := 5, descriptorIndex := 6, attributes := #[] }] 1057 2 #[133] #[{ accessFlags := 132, nameIndex := 11, descriptorIndex := 12, attributes := #[] }])
  fields := #[{ name := "modCount", type := .int, accessFlags := 132, slot := 0, constantValue := 0 }]
  methods := #[k34m0]
  instanceTypes := #[.int]
  staticTypes := #[]
  resolved := Array.replicate 218 none
  statics := none }

def pool35 : Array CpInfo := pool [(1, .class_ 2), (0, u "java/util/RandomAccess"), (0, .class_ 4), (0, u "java/lang/Object")] 2

/-- java/util/RandomAccess -/
def k35 : Class := { plain "java/util/RandomAccess" (some 0) with
  accessFlags := 1537
  interfaces := #[]
  cf := some (fileOf pool35 1 #[] #[] 1537 3 #[] #[])
  fields := #[]
  methods := #[]
  instanceTypes := #[]
  staticTypes := #[]
  resolved := Array.replicate 7 none
  statics := none }

def pool36 : Array CpInfo := pool [(2, .class_ 4), (1, u "java/util/AbstractList"), (0, u "<init>"), (0, u "()V"), (1, .class_ 10), (1, u "java/util/Collections"), (54, .class_ 66), (0, u "java/util/Collections$EmptyList"), (0, .class_ 68), (0, u "java/util/RandomAccess"), (0, .class_ 70), (0, u "java/io/Serializable"), (0, u "serialVersionUID"), (0, u "J")] 77

def k36m0 : Method := { name := "<init>", desc := "()V", sig := { parameters := [], returnType := none }, accessFlags := 2, code := none }
/-- java/util/Collections$EmptyList -/
def k36 : Class := { plain "java/util/Collections$EmptyList" (some 34) with
  accessFlags := 32
  interfaces := #[35, 4]
  cf := some (fileOf pool36 65 #[.nestHost 8] #[{ accessFlags := 2, nameIndex := 5, descriptorIndex := 6, attributes := #[] }] 32 2 #[67, 69] #[{ accessFlags := 26, nameIndex := 71, descriptorIndex := 72, attributes := #[] }])
  fields := #[{ name := "serialVersionUID", type := .long, accessFlags := 26, slot := 0, constantValue := 0 }]
  methods := #[k36m0]
  instanceTypes := #[.int]
  staticTypes := #[.long]
  resolved := Array.replicate 150 none
  statics := none }

def pool37 : Array CpInfo := pool [(2, .class_ 4), (1, u "java/lang/StackTraceElement"), (0, u "<init>"), (2, .class_ 10), (1, u "java/lang/Object"), (0, u "()V"), (2, u "format"), (0, u "B"), (2, u "classLoaderName"), (0, u "Ljava/lang/String;"), (2, u "moduleName"), (2, u "moduleVersion"), (12, u "declaringClass"), (4, u "methodName"), (2, u "fileName"), (2, u "lineNumber"), (0, u "I"), (65, u "declaringClassObject"), (0, u "Ljava/lang/Class;"), (33, .class_ 153), (1, u "java/lang/StackTraceElement$HashedModules"), (17, .class_ 172), (0, u "java/io/Serializable"), (0, u "NATIVE_METHOD"), (1, u "UNKNOWN_SOURCE"), (2, u "BUILTIN_CLASS_LOADER"), (1, u "JDK_NON_UPGRADEABLE_MODULE"), (1, u "serialVersionUID"), (0, u "J")] 51

def k37m0 : Method := { name := "<init>", desc := "()V", sig := { parameters := [], returnType := none }, accessFlags := 2, code := none }
/-- java/lang/StackTraceElement -/
def k37 : Class := { plain "java/lang/StackTraceElement" (some 0) with
  accessFlags := 49
  interfaces := #[4]
  cf := some (fileOf pool37 2 #[.nestMembers #[151]] #[{ accessFlags := 2, nameIndex := 5, descriptorIndex := 11, attributes := #[] }] 49 8 #[171] #[{ accessFlags := 26, nameIndex := 173, descriptorIndex := 19, attributes := #[] }, { accessFlags := 26, nameIndex := 175, descriptorIndex := 19, attributes := #[] }, { accessFlags := 130, nameIndex := 116, descriptorIndex := 117, attributes := #[] }, { accessFlags := 2, nameIndex := 18, descriptorIndex := 19, attributes := #[] }, { accessFlags := 2, nameIndex := 22, descriptorIndex := 19, attributes := #[] }, { accessFlags := 2, nameIndex := 25, descriptorIndex := 19, attributes := #[] }, { accessFlags := 2, nameIndex := 38, descriptorIndex := 19, attributes := #[] }, { accessFlags := 2, nameIndex := 43, descriptorIndex := 19, attributes := #[] }, { accessFlags := 2, nameIndex := 46, descriptorIndex := 19, attributes := #[] }, { accessFlags := 2, nameIndex := 49, descriptorIndex := 50, attributes := #[] }, { accessFlags := 2, nameIndex := 14, descriptorIndex := 15, attributes := #[] }, { accessFlags := 26, nameIndex := 178, descriptorIndex := 15, attributes := #[] }, { accessFlags := 26, nameIndex := 180, descriptorIndex := 15, attributes := #[] }, { accessFlags := 26, nameIndex := 182, descriptorIndex := 183, attributes := #[] }])
  fields := #[{ name := "NATIVE_METHOD", type := (.object "java/lang/String"), accessFlags := 26, slot := 0, constantValue := 0 }, { name := "UNKNOWN_SOURCE", type := (.object "java/lang/String"), accessFlags := 26, slot := 1, constantValue := 0 }, { name := "declaringClassObject", type := (.object "java/lang/Class"), accessFlags := 130, slot := 0, constantValue := 0 }, { name := "classLoaderName", type := (.object "java/lang/String"), accessFlags := 2, slot := 1, constantValue := 0 }, { name := "moduleName", type := (.object "java/lang/String"), accessFlags := 2, slot := 2, constantValue := 0 }, { name := "moduleVersion", type := (.object "java/lang/String"), accessFlags := 2, slot := 3, constantValue := 0 }, { name := "declaringClass", type := (.object "java/lang/String"), accessFlags := 2, slot := 4, constantValue := 0 }, { name := "methodName", type := (.object "java/lang/String"), accessFlags := 2, slot := 5, constantValue := 0 }, { name := "fileName", type := (.object "java/lang/String"), accessFlags := 2, slot := 6, constantValue := 0 }, { name := "lineNumber", type := .int, accessFlags := 2, slot := 7, constantValue := 0 }, { name := "format", type := .byte, accessFlags := 2, slot := 8, constantValue := 0 }, { name := "BUILTIN_CLASS_LOADER", type := .byte, accessFlags := 26, slot := 2, constantValue := 0 }, { name := "JDK_NON_UPGRADEABLE_MODULE", type := .byte, accessFlags := 26, slot := 3, constantValue := 0 }, { name := "serialVersionUID", type := .long, accessFlags := 26, slot := 4, constantValue := 0 }]
  methods := #[k37m0]
  instanceTypes := #[(.object "java/lang/Class"), (.object "java/lang/String"), (.object "java/lang/String"), (.object "java/lang/String"), (.object "java/lang/String"), (.object "java/lang/String"), (.object "java/lang/String"), .int, .byte]
  staticTypes := #[(.object "java/lang/String"), (.object "java/lang/String"), .byte, .byte, .long]
  resolved := Array.replicate 235 none
  statics := none }

/-- the primitive byte -/
def k38 : Class := { plain "byte" none with kind := .primitive 'B', accessFlags := 0x411 }
/-- [B -/
def k39 : Class := { plain "[B" (some 0) with kind := .array 38 .byte, interfaces := #[27, 4], accessFlags := 1041 }

/-- the primitive int -/
def k40 : Class := { plain "int" none with kind := .primitive 'I', accessFlags := 0x411 }
/-- [I -/
def k41 : Class := { plain "[I" (some 0) with kind := .array 40 .int, interfaces := #[27, 4], accessFlags := 1041 }

/-- the primitive long -/
def k42 : Class := { plain "long" none with kind := .primitive 'J', accessFlags := 0x411 }
/-- [J -/
def k43 : Class := { plain "[J" (some 0) with kind := .array 42 .long, interfaces := #[27, 4], accessFlags := 1041 }

/-- [Ljava/lang/Object; -/
def k44 : Class := { plain "[Ljava/lang/Object;" (some 0) with kind := .array 0 (.object "java/lang/Object"), interfaces := #[27, 4], accessFlags := 1041 }

/-- [Ljava/lang/StackTraceElement; -/
def k45 : Class := { plain "[Ljava/lang/StackTraceElement;" (some 0) with kind := .array 37 (.object "java/lang/StackTraceElement"), interfaces := #[27, 4], accessFlags := 1041 }

/-- [Ljava/lang/Throwable; -/
def k46 : Class := { plain "[Ljava/lang/Throwable;" (some 0) with kind := .array 7 (.object "java/lang/Throwable"), interfaces := #[27, 4], accessFlags := 1041 }

def heap : Heap := #[{ cls := 6, slots := #[.ref 17, .ref 18, .ref 19, .null, .null], vm := .statics 6 },
  { cls := 7, slots := #[.long 0, .ref 6, .ref 10, .null, .null, .null, .null, .ref 7, .int 1], vm := .statics 7 },
  { cls := 17, slots := #[.long 0, .int 1, .null, .int 0, .null, .int 0, .int 0], vm := .statics 17 },
  { cls := 21, slots := #[.int 0, .int 0, .null, .null, .ref 9, .ref 8, .int 0, .int 0, .long 0], vm := .statics 21 },
  { cls := 26, slots := #[.null, .null, .null], vm := .statics 26 },
  { cls := 28, slots := #[.int 0, .int 0, .int 0, .int 0, .int 0, .int 0, .int 0, .int 0, .null, .null, .ref 10, .null], vm := .statics 28 },
  { cls := 45, slots := #[], vm := .none },
  { cls := 46, slots := #[], vm := .none },
  { cls := 39, slots := #[.int 48, .int 49, .int 50, .int 51, .int 52, .int 53, .int 54, .int 55, .int 56, .int 57, .int 48, .int 49, .int 50, .int 51, .int 52, .int 53, .int 54, .int 55, .int 56, .int 57, .int 48, .int 49, .int 50, .int 51, .int 52, .int 53, .int 54, .int 55, .int 56, .int 57, .int 48, .int 49, .int 50, .int 51, .int 52, .int 53, .int 54, .int 55, .int 56, .int 57, .int 48, .int 49, .int 50, .int 51, .int 52, .int 53, .int 54, .int 55, .int 56, .int 57, .int 48, .int 49, .int 50, .int 51, .int 52, .int 53, .int 54, .int 55, .int 56, .int 57, .int 48, .int 49, .int 50, .int 51, .int 52, .int 53, .int 54, .int 55, .int 56, .int 57, .int 48, .int 49, .int 50, .int 51, .int 52, .int 53, .int 54, .int 55, .int 56, .int 57, .int 48, .int 49, .int 50, .int 51, .int 52, .int 53, .int 54, .int 55, .int 56, .int 57, .int 48, .int 49, .int 50, .int 51, .int 52, .int 53, .int 54, .int 55, .int 56, .int 57], vm := .none },
  { cls := 39, slots := #[.int 48, .int 48, .int 48, .int 48, .int 48, .int 48, .int 48, .int 48, .int 48, .int 48, .int 49, .int 49, .int 49, .int 49, .int 49, .int 49, .int 49, .int 49, .int 49, .int 49, .int 50, .int 50, .int 50, .int 50, .int 50, .int 50, .int 50, .int 50, .int 50, .int 50, .int 51, .int 51, .int 51, .int 51, .int 51, .int 51, .int 51, .int 51, .int 51, .int 51, .int 52, .int 52, .int 52, .int 52, .int 52, .int 52, .int 52, .int 52, .int 52, .int 52, .int 53, .int 53, .int 53, .int 53, .int 53, .int 53, .int 53, .int 53, .int 53, .int 53, .int 54, .int 54, .int 54, .int 54, .int 54, .int 54, .int 54, .int 54, .int 54, .int 54, .int 55, .int 55, .int 55, .int 55, .int 55, .int 55, .int 55, .int 55, .int 55, .int 55, .int 56, .int 56, .int 56, .int 56, .int 56, .int 56, .int 56, .int 56, .int 56, .int 56, .int 57, .int 57, .int 57, .int 57, .int 57, .int 57, .int 57, .int 57, .int 57, .int 57], vm := .none },
  { cls := 36, slots := #[.int 0], vm := .none },
  { cls := 39, slots := #[.int 117, .int 116, .int 102, .int 45, .int 56], vm := .none },
  { cls := 39, slots := #[.int 117, .int 116, .int 102, .int 45, .int 56, .int 45, .int 98, .int 111, .int 109], vm := .none },
  { cls := 39, slots := #[.int 119, .int 105, .int 110, .int 100, .int 111, .int 119, .int 115, .int 45, .int 51, .int 49, .int 106], vm := .none },
  { cls := 17, slots := #[.ref 11, .int 0, .int 0, .int 0], vm := .none },
  { cls := 17, slots := #[.ref 12, .int 0, .int 0, .int 0], vm := .none },
  { cls := 17, slots := #[.ref 13, .int 0, .int 0, .int 0], vm := .none },
  { cls := 6, slots := #[.null, .int 0, .int 0, .ref 14, .null, .int 0, .int 0], vm := .none },
  { cls := 6, slots := #[.null, .int 0, .int 0, .ref 15, .null, .int 0, .int 0], vm := .none },
  { cls := 6, slots := #[.null, .int 0, .int 0, .ref 16, .null, .int 0, .int 0], vm := .none }]
def classes : Array Class := #[k0, k1, k2, k3, k4, k5, k6, k7, k8, k9, k10, k11, k12, k13, k14, k15, k16, k17, k18, k19, k20, k21, k22, k23, k24, k25, k26, k27, k28, k29, k30, k31, k32, k33, k34, k35, k36, k37, k38, k39, k40, k41, k42, k43, k44, k45, k46]
def interned : List (Array UInt16 × Addr) := []
def slotsUsed : Nat := 304
def theMethod : MethodId := ⟨1, 1⟩
def args0 : Array Value := #[.long 5, .int 1]
def aboutOver (below : List Frame) : State where
  vm := { classes := classes, interned := interned.toArray }
  heap := heap
  slotsUsed := slotsUsed
  threads := #[{ frames := .invoking theMethod args0 :: below }]
def below0 : List Frame := [.native { method := ⟨0, 0⟩, args := #[] }]
def about1 : State := aboutOver below0
def p0 : Program := .bare "" "" ""
def e0 : Env := launch0.env 0 0 0
theorem w_frames : about1.frames = Frame.invoking theMethod args0 :: below0 := rfl
set_option maxRecDepth 65536 in
theorem w_args : argsFit about1.vm theMethod args0 = true := by decide +kernel
set_option maxRecDepth 65536 in
theorem w_heap : heapFits about1 = true := by decide +kernel
set_option maxRecDepth 65536 in
theorem w_runnable : about1.curStatus? = some .runnable := by decide +kernel
set_option maxRecDepth 65536 in
theorem w_alone : about1.alone = true := by decide +kernel
set_option maxRecDepth 65536 in
theorem w_named : about1.methodNamed? x = some theMethod := by decide +kernel
set_option maxRecDepth 65536 in
theorem w_hears : about1.hears theMethod below0 = true := by decide +kernel
set_option maxRecDepth 65536 in
theorem w_ripe : about1.ripe theMethod args0 below0 = true := by decide +kernel
theorem w_running : about1.status = .running := rfl
set_option maxRecDepth 65536 in
theorem w_room : about1.hasRoom e0.platform room_1 = true :=
  launch0.hasRoom_least _ room_1 (by decide +kernel) (by decide +kernel) (by decide +kernel) (by decide +kernel) (by decide +kernel) (by decide +kernel)
theorem allAtoms_all (ts : List Jvm.Cond) (a : Array Jvm.Value) (st : Jvm.State) : (allAtoms ts).before a st = ts.all (fun c => c.before a st) := by
  induction ts with
  | nil => rfl
  | cons c t ih =>
    show (Jvm.Cond.and c (allAtoms t)).before a st = _
    rw [Jvm.Cond.before_and, ih, List.all_cons]
def words1 : List Jvm.Cond := Jvm.Cond.code x code maxLocals ret :: tables_1
/-- a 'code' word, met by the world's own term for the bytes: nothing is compared byte by byte -/
theorem code_word {y : MethodName} {bytes : ByteArray} {mx : Nat} {rt : Option FieldType} {a : Array Value} {s : State} {m : MethodId} {meth : Method} {c : Code} (h1 : s.methodNamed? y = some m) (h2 : s.vm.method? m = some meth) (h3 : meth.code = some c) (h4 : c.code = bytes)
    (h5 : (c.maxLocals == mx && c.exceptionTable.isEmpty && decide (c.maxStack ≤ mostOperands) && decide (meth.sig.returnType = rt) && !meth.locks && decide (parseMethodDescriptor y.desc = some meth.sig)) = true) : (Jvm.Cond.code y bytes mx rt).before a s = true := by
  simp only [Bool.and_eq_true, beq_iff_eq, Bool.not_eq_true', decide_eq_true_eq] at h5
  obtain ⟨⟨⟨⟨⟨g1, g2⟩, g3⟩, g4⟩, g5⟩, g6⟩ := h5
  simp [Cond.before, Cond.holds, Cond.value, h1, h2, h3, h4, g1, g2, g3, g4, g5, g6]
def isCode : Jvm.Cond → Bool
  | .code _ _ _ _ => true
  | _ => false
theorem all_split {L : List Jvm.Cond} {P : Jvm.Cond → Bool} (h1 : L.all (fun c => isCode c || P c) = true) (h2 : ∀ c ∈ L.filter isCode, P c = true) : L.all P = true := by
  refine List.all_eq_true.mpr fun c hc => ?_
  have h := List.all_eq_true.mp h1 c hc
  rcases Bool.eq_false_or_eq_true (isCode c) with hi | hi
  · exact h2 c (List.mem_filter.mpr ⟨hc, hi⟩)
  · simpa [hi] using h
set_option maxRecDepth 65536 in
theorem w_c0 : (Jvm.Cond.code x code maxLocals ret).before args0 about1 = true := code_word (m := ⟨1, 1⟩) (meth := k1m1) (c := k1c1) (by decide +kernel) rfl rfl rfl (by decide +kernel)
set_option maxRecDepth 65536 in
theorem w_c1 : (Jvm.Cond.code ({ cls := "com/example/warm_tariff/warmtariff/TextEncoding", name := "optionName", desc := "()Ljava/lang/String;" } : Jvm.MethodName) prog_28_method_6_code (1 : Nat) (Option.some (Jvm.ClassFile.FieldType.object "java/lang/String"))).before args0 about1 = true := code_word (m := ⟨6, 0⟩) (meth := k6m0) (c := k6c0) (by decide +kernel) rfl rfl rfl (by decide +kernel)
set_option maxRecDepth 65536 in
theorem w_c2 : (Jvm.Cond.code ({ cls := "com/example/warm_tariff/warmtariff/DecodingReader$Undecodable", name := "<init>", desc := "(Lcom/example/warm_tariff/warmtariff/TextEncoding;J)V" } : Jvm.MethodName) prog_9_method_1_code (4 : Nat) (Option.none : Option Jvm.ClassFile.FieldType)).before args0 about1 = true := code_word (m := ⟨11, 0⟩) (meth := k11m0) (c := k11c0) (by decide +kernel) rfl rfl rfl (by decide +kernel)
set_option maxRecDepth 65536 in
theorem w_c3 : (Jvm.Cond.code ({ cls := "java/nio/charset/CharacterCodingException", name := "<init>", desc := "()V" } : Jvm.MethodName) jdk_2189_method_1_code (1 : Nat) (Option.none : Option Jvm.ClassFile.FieldType)).before args0 about1 = true := code_word (m := ⟨10, 0⟩) (meth := k10m0) (c := k10c0) (by decide +kernel) rfl rfl rfl (by decide +kernel)
set_option maxRecDepth 65536 in
theorem w_c4 : (Jvm.Cond.code ({ cls := "java/io/IOException", name := "<init>", desc := "()V" } : Jvm.MethodName) jdk_131_method_1_code (1 : Nat) (Option.none : Option Jvm.ClassFile.FieldType)).before args0 about1 = true := code_word (m := ⟨9, 0⟩) (meth := k9m0) (c := k9c0) (by decide +kernel) rfl rfl rfl (by decide +kernel)
set_option maxRecDepth 65536 in
theorem w_c5 : (Jvm.Cond.code ({ cls := "java/lang/Exception", name := "<init>", desc := "()V" } : Jvm.MethodName) jdk_59_method_1_code (1 : Nat) (Option.none : Option Jvm.ClassFile.FieldType)).before args0 about1 = true := code_word (m := ⟨8, 0⟩) (meth := k8m0) (c := k8c0) (by decide +kernel) rfl rfl rfl (by decide +kernel)
set_option maxRecDepth 65536 in
theorem w_c6 : (Jvm.Cond.code ({ cls := "java/lang/Throwable", name := "<init>", desc := "()V" } : Jvm.MethodName) jdk_78_method_1_code (1 : Nat) (Option.none : Option Jvm.ClassFile.FieldType)).before args0 about1 = true := code_word (m := ⟨7, 0⟩) (meth := k7m0) (c := k7c0) (by decide +kernel) rfl rfl rfl (by decide +kernel)
set_option maxRecDepth 65536 in
theorem w_c7 : (Jvm.Cond.code ({ cls := "java/lang/Object", name := "<init>", desc := "()V" } : Jvm.MethodName) object_method_1_code (1 : Nat) (Option.none : Option Jvm.ClassFile.FieldType)).before args0 about1 = true := code_word (m := ⟨0, 0⟩) (meth := k0m0) (c := k0c0) (by decide +kernel) rfl rfl rfl (by decide +kernel)
set_option maxRecDepth 65536 in
theorem w_c8 : (Jvm.Cond.code ({ cls := "com/example/warm_tariff/warmtariff/DecodingReader$Undecodable", name := "getMessage", desc := "()Ljava/lang/String;" } : Jvm.MethodName) prog_9_method_4_code (1 : Nat) (Option.some (Jvm.ClassFile.FieldType.object "java/lang/String"))).before args0 about1 = true := code_word (m := ⟨11, 1⟩) (meth := k11m1) (c := k11c1) (by decide +kernel) rfl rfl rfl (by decide +kernel)
set_option maxRecDepth 65536 in
theorem w_c9 : (Jvm.Cond.code ({ cls := "java/lang/StringBuilder", name := "<init>", desc := "()V" } : Jvm.MethodName) jdk_67_method_1_code (1 : Nat) (Option.none : Option Jvm.ClassFile.FieldType)).before args0 about1 = true := code_word (m := ⟨15, 0⟩) (meth := k15m0) (c := k15c0) (by decide +kernel) rfl rfl rfl (by decide +kernel)
set_option maxRecDepth 65536 in
theorem w_c10 : (Jvm.Cond.code ({ cls := "java/lang/AbstractStringBuilder", name := "<init>", desc := "(I)V" } : Jvm.MethodName) jdk_68_method_2_code (2 : Nat) (Option.none : Option Jvm.ClassFile.FieldType)).before args0 about1 = true := code_word (m := ⟨14, 1⟩) (meth := k14m1) (c := k14c1) (by decide +kernel) rfl rfl rfl (by decide +kernel)
set_option maxRecDepth 65536 in
theorem w_c11 : (Jvm.Cond.code ({ cls := "java/lang/StringBuilder", name := "append", desc := "(Ljava/lang/String;)Ljava/lang/StringBuilder;" } : Jvm.MethodName) jdk_67_method_7_code (2 : Nat) (Option.some (Jvm.ClassFile.FieldType.object "java/lang/StringBuilder"))).before args0 about1 = true := code_word (m := ⟨15, 1⟩) (meth := k15m1) (c := k15c1) (by decide +kernel) rfl rfl rfl (by decide +kernel)
set_option maxRecDepth 65536 in
theorem w_c12 : (Jvm.Cond.code ({ cls := "java/lang/AbstractStringBuilder", name := "append", desc := "(Ljava/lang/String;)Ljava/lang/AbstractStringBuilder;" } : Jvm.MethodName) jdk_68_method_22_code (3 : Nat) (Option.some (Jvm.ClassFile.FieldType.object "java/lang/AbstractStringBuilder"))).before args0 about1 = true := code_word (m := ⟨14, 5⟩) (meth := k14m5) (c := k14c5) (by decide +kernel) rfl rfl rfl (by decide +kernel)
set_option maxRecDepth 65536 in
theorem w_c13 : (Jvm.Cond.code ({ cls := "java/lang/String", name := "length", desc := "()I" } : Jvm.MethodName) jdk_42_method_54_code (1 : Nat) (Option.some Jvm.ClassFile.FieldType.int)).before args0 about1 = true := code_word (m := ⟨17, 2⟩) (meth := k17m2) (c := k17c2) (by decide +kernel) rfl rfl rfl (by decide +kernel)
set_option maxRecDepth 65536 in
theorem w_c14 : (Jvm.Cond.code ({ cls := "java/lang/String", name := "coder", desc := "()B" } : Jvm.MethodName) jdk_42_method_152_code (1 : Nat) (Option.some Jvm.ClassFile.FieldType.byte)).before args0 about1 = true := code_word (m := ⟨17, 6⟩) (meth := k17m6) (c := k17c6) (by decide +kernel) rfl rfl rfl (by decide +kernel)
set_option maxRecDepth 65536 in
theorem w_c15 : (Jvm.Cond.code ({ cls := "java/lang/AbstractStringBuilder", name := "ensureCapacityInternal", desc := "(I)V" } : Jvm.MethodName) jdk_68_method_9_code (3 : Nat) (Option.none : Option Jvm.ClassFile.FieldType)).before args0 about1 = true := code_word (m := ⟨14, 3⟩) (meth := k14m3) (c := k14c3) (by decide +kernel) rfl rfl rfl (by decide +kernel)
set_option maxRecDepth 65536 in
theorem w_c16 : (Jvm.Cond.code ({ cls := "java/lang/AbstractStringBuilder", name := "putStringAt", desc := "(ILjava/lang/String;)V" } : Jvm.MethodName) jdk_68_method_73_code (3 : Nat) (Option.none : Option Jvm.ClassFile.FieldType)).before args0 about1 = true := code_word (m := ⟨14, 10⟩) (meth := k14m10) (c := k14c10) (by decide +kernel) rfl rfl rfl (by decide +kernel)
set_option maxRecDepth 65536 in
theorem w_c17 : (Jvm.Cond.code ({ cls := "java/lang/AbstractStringBuilder", name := "inflateIfNeededFor", desc := "(Ljava/lang/String;)V" } : Jvm.MethodName) jdk_68_method_71_code (2 : Nat) (Option.none : Option Jvm.ClassFile.FieldType)).before args0 about1 = true := code_word (m := ⟨14, 9⟩) (meth := k14m9) (c := k14c9) (by decide +kernel) rfl rfl rfl (by decide +kernel)
set_option maxRecDepth 65536 in
theorem w_c18 : (Jvm.Cond.code ({ cls := "java/lang/String", name := "getBytes", desc := "([BIB)V" } : Jvm.MethodName) jdk_42_method_147_code (4 : Nat) (Option.none : Option Jvm.ClassFile.FieldType)).before args0 about1 = true := code_word (m := ⟨17, 4⟩) (meth := k17m4) (c := k17c4) (by decide +kernel) rfl rfl rfl (by decide +kernel)
set_option maxRecDepth 65536 in
theorem w_c19 : (Jvm.Cond.code ({ cls := "java/lang/StringBuilder", name := "append", desc := "(J)Ljava/lang/StringBuilder;" } : Jvm.MethodName) jdk_67_method_16_code (3 : Nat) (Option.some (Jvm.ClassFile.FieldType.object "java/lang/StringBuilder"))).before args0 about1 = true := code_word (m := ⟨15, 2⟩) (meth := k15m2) (c := k15c2) (by decide +kernel) rfl rfl rfl (by decide +kernel)
set_option maxRecDepth 65536 in
theorem w_c20 : (Jvm.Cond.code ({ cls := "java/lang/AbstractStringBuilder", name := "append", desc := "(J)Ljava/lang/AbstractStringBuilder;" } : Jvm.MethodName) jdk_68_method_33_code (5 : Nat) (Option.some (Jvm.ClassFile.FieldType.object "java/lang/AbstractStringBuilder"))).before args0 about1 = true := code_word (m := ⟨14, 6⟩) (meth := k14m6) (c := k14c6) (by decide +kernel) rfl rfl rfl (by decide +kernel)
set_option maxRecDepth 65536 in
theorem w_c21 : (Jvm.Cond.code ({ cls := "java/lang/Long", name := "stringSize", desc := "(J)I" } : Jvm.MethodName) jdk_35_method_15_code (6 : Nat) (Option.some Jvm.ClassFile.FieldType.int)).before args0 about1 = true := code_word (m := ⟨20, 1⟩) (meth := k20m1) (c := k20c1) (by decide +kernel) rfl rfl rfl (by decide +kernel)
set_option maxRecDepth 65536 in
theorem w_c22 : (Jvm.Cond.code ({ cls := "java/lang/AbstractStringBuilder", name := "isLatin1", desc := "()Z" } : Jvm.MethodName) jdk_68_method_68_code (1 : Nat) (Option.some Jvm.ClassFile.FieldType.boolean)).before args0 about1 = true := code_word (m := ⟨14, 8⟩) (meth := k14m8) (c := k14c8) (by decide +kernel) rfl rfl rfl (by decide +kernel)
set_option maxRecDepth 65536 in
theorem w_c23 : (Jvm.Cond.code ({ cls := "java/lang/Long", name := "getChars", desc := "(JI[B)I" } : Jvm.MethodName) jdk_35_method_14_code (11 : Nat) (Option.some Jvm.ClassFile.FieldType.int)).before args0 about1 = true := code_word (m := ⟨20, 0⟩) (meth := k20m0) (c := k20c0) (by decide +kernel) rfl rfl rfl (by decide +kernel)
set_option maxRecDepth 65536 in
theorem w_c24 : (Jvm.Cond.code ({ cls := "java/lang/AbstractStringBuilder", name := "newCapacity", desc := "(I)I" } : Jvm.MethodName) jdk_68_method_10_code (6 : Nat) (Option.some Jvm.ClassFile.FieldType.int)).before args0 about1 = true := code_word (m := ⟨14, 4⟩) (meth := k14m4) (c := k14c4) (by decide +kernel) rfl rfl rfl (by decide +kernel)
set_option maxRecDepth 65536 in
theorem w_c25 : (Jvm.Cond.code ({ cls := "jdk/internal/util/ArraysSupport", name := "newLength", desc := "(III)I" } : Jvm.MethodName) jdk_48_method_27_code (4 : Nat) (Option.some Jvm.ClassFile.FieldType.int)).before args0 about1 = true := code_word (m := ⟨22, 1⟩) (meth := k22m1) (c := k22c1) (by decide +kernel) rfl rfl rfl (by decide +kernel)
set_option maxRecDepth 65536 in
theorem w_c26 : (Jvm.Cond.code ({ cls := "java/lang/Math", name := "max", desc := "(II)I" } : Jvm.MethodName) jdk_29_method_65_code (2 : Nat) (Option.some Jvm.ClassFile.FieldType.int)).before args0 about1 = true := code_word (m := ⟨23, 2⟩) (meth := k23m2) (c := k23c2) (by decide +kernel) rfl rfl rfl (by decide +kernel)
set_option maxRecDepth 65536 in
theorem w_c27 : (Jvm.Cond.code ({ cls := "java/util/Arrays", name := "copyOf", desc := "([BI)[B" } : Jvm.MethodName) jdk_65_method_121_code (3 : Nat) (Option.some (Jvm.ClassFile.FieldType.array Jvm.ClassFile.FieldType.byte))).before args0 about1 = true := code_word (m := ⟨24, 1⟩) (meth := k24m1) (c := k24c1) (by decide +kernel) rfl rfl rfl (by decide +kernel)
set_option maxRecDepth 65536 in
theorem w_c28 : (Jvm.Cond.code ({ cls := "java/lang/Math", name := "min", desc := "(II)I" } : Jvm.MethodName) jdk_29_method_69_code (2 : Nat) (Option.some Jvm.ClassFile.FieldType.int)).before args0 about1 = true := code_word (m := ⟨23, 3⟩) (meth := k23m3) (c := k23c3) (by decide +kernel) rfl rfl rfl (by decide +kernel)
set_option maxRecDepth 65536 in
theorem w_c29 : (Jvm.Cond.code ({ cls := "java/lang/StringBuilder", name := "toString", desc := "()Ljava/lang/String;" } : Jvm.MethodName) jdk_67_method_42_code (1 : Nat) (Option.some (Jvm.ClassFile.FieldType.object "java/lang/String"))).before args0 about1 = true := code_word (m := ⟨15, 3⟩) (meth := k15m3) (c := k15c3) (by decide +kernel) rfl rfl rfl (by decide +kernel)
set_option maxRecDepth 65536 in
theorem w_c30 : (Jvm.Cond.code ({ cls := "java/lang/String", name := "<init>", desc := "(Ljava/lang/StringBuilder;)V" } : Jvm.MethodName) jdk_42_method_53_code (2 : Nat) (Option.none : Option Jvm.ClassFile.FieldType)).before args0 about1 = true := code_word (m := ⟨17, 1⟩) (meth := k17m1) (c := k17c1) (by decide +kernel) rfl rfl rfl (by decide +kernel)
set_option maxRecDepth 65536 in
theorem w_c31 : (Jvm.Cond.code ({ cls := "java/lang/String", name := "<init>", desc := "(Ljava/lang/AbstractStringBuilder;Ljava/lang/Void;)V" } : Jvm.MethodName) jdk_42_method_150_code (5 : Nat) (Option.none : Option Jvm.ClassFile.FieldType)).before args0 about1 = true := code_word (m := ⟨17, 5⟩) (meth := k17m5) (c := k17c5) (by decide +kernel) rfl rfl rfl (by decide +kernel)
set_option maxRecDepth 65536 in
theorem w_c32 : (Jvm.Cond.code ({ cls := "java/lang/AbstractStringBuilder", name := "getValue", desc := "()[B" } : Jvm.MethodName) jdk_68_method_64_code (1 : Nat) (Option.some (Jvm.ClassFile.FieldType.array Jvm.ClassFile.FieldType.byte))).before args0 about1 = true := code_word (m := ⟨14, 7⟩) (meth := k14m7) (c := k14c7) (by decide +kernel) rfl rfl rfl (by decide +kernel)
set_option maxRecDepth 65536 in
theorem w_c33 : (Jvm.Cond.code ({ cls := "java/lang/StringBuilder", name := "length", desc := "()I" } : Jvm.MethodName) jdk_67_method_93_code (1 : Nat) (Option.some Jvm.ClassFile.FieldType.int)).before args0 about1 = true := code_word (m := ⟨15, 4⟩) (meth := k15m4) (c := k15c4) (by decide +kernel) rfl rfl rfl (by decide +kernel)
set_option maxRecDepth 65536 in
theorem w_c34 : (Jvm.Cond.code ({ cls := "java/lang/AbstractStringBuilder", name := "length", desc := "()I" } : Jvm.MethodName) jdk_68_method_6_code (1 : Nat) (Option.some Jvm.ClassFile.FieldType.int)).before args0 about1 = true := code_word (m := ⟨14, 2⟩) (meth := k14m2) (c := k14c2) (by decide +kernel) rfl rfl rfl (by decide +kernel)
set_option maxRecDepth 65536 in
theorem w_c35 : (Jvm.Cond.code ({ cls := "java/util/Arrays", name := "copyOfRange", desc := "([BII)[B" } : Jvm.MethodName) jdk_65_method_132_code (3 : Nat) (Option.some (Jvm.ClassFile.FieldType.array Jvm.ClassFile.FieldType.byte))).before args0 about1 = true := code_word (m := ⟨24, 3⟩) (meth := k24m3) (c := k24c3) (by decide +kernel) rfl rfl rfl (by decide +kernel)
set_option maxRecDepth 65536 in
theorem w_c36 : (Jvm.Cond.code ({ cls := "java/util/Arrays", name := "copyOfRangeByte", desc := "([BII)[B" } : Jvm.MethodName) jdk_65_method_133_code (5 : Nat) (Option.some (Jvm.ClassFile.FieldType.array Jvm.ClassFile.FieldType.byte))).before args0 about1 = true := code_word (m := ⟨24, 4⟩) (meth := k24m4) (c := k24c4) (by decide +kernel) rfl rfl rfl (by decide +kernel)
set_option maxRecDepth 65536 in
theorem w_c37 : (Jvm.Cond.code ({ cls := "java/util/Arrays", name := "checkLength", desc := "(II)V" } : Jvm.MethodName) jdk_65_method_131_code (2 : Nat) (Option.none : Option Jvm.ClassFile.FieldType)).before args0 about1 = true := code_word (m := ⟨24, 2⟩) (meth := k24m2) (c := k24c2) (by decide +kernel) rfl rfl rfl (by decide +kernel)
set_option maxRecDepth 65536 in
theorem w_c38 : (Jvm.Cond.code ({ cls := "com/example/warm_tariff/warmtariff/UndecodableGetMessagePinLaw", name := "digits", desc := "(J)I" } : Jvm.MethodName) method_5_code (4 : Nat) (Option.some Jvm.ClassFile.FieldType.int)).before args0 about1 = true := code_word (m := ⟨1, 4⟩) (meth := k1m4) (c := k1c4) (by decide +kernel) rfl rfl rfl (by decide +kernel)
set_option maxRecDepth 65536 in
theorem w_c39 : (Jvm.Cond.code ({ cls := "com/example/warm_tariff/warmtariff/UndecodableGetMessagePinLaw", name := "powers", desc := "()[J" } : Jvm.MethodName) method_3_code (1 : Nat) (Option.some (Jvm.ClassFile.FieldType.array Jvm.ClassFile.FieldType.long))).before args0 about1 = true := code_word (m := ⟨1, 2⟩) (meth := k1m2) (c := k1c2) (by decide +kernel) rfl rfl rfl (by decide +kernel)
set_option maxRecDepth 65536 in
theorem w_c40 : (Jvm.Cond.code ({ cls := "com/example/warm_tariff/warmtariff/UndecodableGetMessagePinLaw", name := "more", desc := "(JJ)I" } : Jvm.MethodName) method_4_code (4 : Nat) (Option.some Jvm.ClassFile.FieldType.int)).before args0 about1 = true := code_word (m := ⟨1, 3⟩) (meth := k1m3) (c := k1c3) (by decide +kernel) rfl rfl rfl (by decide +kernel)
set_option maxRecDepth 65536 in
theorem w_c41 : (Jvm.Cond.code ({ cls := "com/example/warm_tariff/warmtariff/UndecodableGetMessagePinLaw", name := "region", desc := "(Ljava/lang/String;ILjava/lang/String;)Z" } : Jvm.MethodName) method_9_code (3 : Nat) (Option.some Jvm.ClassFile.FieldType.boolean)).before args0 about1 = true := code_word (m := ⟨1, 8⟩) (meth := k1m8) (c := k1c8) (by decide +kernel) rfl rfl rfl (by decide +kernel)
set_option maxRecDepth 65536 in
theorem w_c42 : (Jvm.Cond.code ({ cls := "com/example/warm_tariff/warmtariff/UndecodableGetMessagePinLaw", name := "at", desc := "(Ljava/lang/String;ILjava/lang/String;I)Z" } : Jvm.MethodName) method_8_code (4 : Nat) (Option.some Jvm.ClassFile.FieldType.boolean)).before args0 about1 = true := code_word (m := ⟨1, 7⟩) (meth := k1m7) (c := k1c7) (by decide +kernel) rfl rfl rfl (by decide +kernel)
set_option maxRecDepth 65536 in
theorem w_c43 : (Jvm.Cond.code ({ cls := "java/lang/String", name := "charAt", desc := "(I)C" } : Jvm.MethodName) jdk_42_method_56_code (2 : Nat) (Option.some Jvm.ClassFile.FieldType.char)).before args0 about1 = true := code_word (m := ⟨17, 3⟩) (meth := k17m3) (c := k17c3) (by decide +kernel) rfl rfl rfl (by decide +kernel)
set_option maxRecDepth 65536 in
theorem w_c44 : (Jvm.Cond.code ({ cls := "java/lang/String", name := "isLatin1", desc := "()Z" } : Jvm.MethodName) jdk_42_method_154_code (1 : Nat) (Option.some Jvm.ClassFile.FieldType.boolean)).before args0 about1 = true := code_word (m := ⟨17, 7⟩) (meth := k17m7) (c := k17c7) (by decide +kernel) rfl rfl rfl (by decide +kernel)
set_option maxRecDepth 65536 in
theorem w_c45 : (Jvm.Cond.code ({ cls := "java/lang/StringLatin1", name := "charAt", desc := "([BI)C" } : Jvm.MethodName) jdk_43_method_2_code (2 : Nat) (Option.some Jvm.ClassFile.FieldType.char)).before args0 about1 = true := code_word (m := ⟨25, 1⟩) (meth := k25m1) (c := k25c1) (by decide +kernel) rfl rfl rfl (by decide +kernel)
set_option maxRecDepth 65536 in
theorem w_c46 : (Jvm.Cond.code ({ cls := "java/lang/String", name := "checkIndex", desc := "(II)V" } : Jvm.MethodName) jdk_42_method_155_code (2 : Nat) (Option.none : Option Jvm.ClassFile.FieldType)).before args0 about1 = true := code_word (m := ⟨17, 8⟩) (meth := k17m8) (c := k17c8) (by decide +kernel) rfl rfl rfl (by decide +kernel)
set_option maxRecDepth 65536 in
theorem w_c47 : (Jvm.Cond.code ({ cls := "jdk/internal/util/Preconditions", name := "checkIndex", desc := "(IILjava/util/function/BiFunction;)I" } : Jvm.MethodName) jdk_41_method_11_code (3 : Nat) (Option.some Jvm.ClassFile.FieldType.int)).before args0 about1 = true := code_word (m := ⟨26, 1⟩) (meth := k26m1) (c := k26c1) (by decide +kernel) rfl rfl rfl (by decide +kernel)
set_option maxRecDepth 65536 in
theorem w_c48 : (Jvm.Cond.code ({ cls := "com/example/warm_tariff/warmtariff/UndecodableGetMessagePinLaw", name := "number", desc := "(Ljava/lang/String;IJI)Z" } : Jvm.MethodName) method_7_code (7 : Nat) (Option.some Jvm.ClassFile.FieldType.boolean)).before args0 about1 = true := code_word (m := ⟨1, 6⟩) (meth := k1m6) (c := k1c6) (by decide +kernel) rfl rfl rfl (by decide +kernel)
set_option maxRecDepth 65536 in
theorem w_c49 : (Jvm.Cond.code ({ cls := "com/example/warm_tariff/warmtariff/UndecodableGetMessagePinLaw", name := "d", desc := "(Ljava/lang/String;IJ[JII)Z" } : Jvm.MethodName) method_6_code (8 : Nat) (Option.some Jvm.ClassFile.FieldType.boolean)).before args0 about1 = true := code_word (m := ⟨1, 5⟩) (meth := k1m5) (c := k1c5) (by decide +kernel) rfl rfl rfl (by decide +kernel)
set_option maxRecDepth 65536 in
theorem w_c50 : (Jvm.Cond.code ({ cls := "java/lang/Math", name := "abs", desc := "(J)J" } : Jvm.MethodName) jdk_29_method_61_code (2 : Nat) (Option.some Jvm.ClassFile.FieldType.long)).before args0 about1 = true := code_word (m := ⟨23, 1⟩) (meth := k23m1) (c := k23c1) (by decide +kernel) rfl rfl rfl (by decide +kernel)
def codes1 : List Jvm.Cond := [Jvm.Cond.code x code maxLocals ret, Jvm.Cond.code ({ cls := "com/example/warm_tariff/warmtariff/TextEncoding", name := "optionName", desc := "()Ljava/lang/String;" } : Jvm.MethodName) prog_28_method_6_code (1 : Nat) (Option.some (Jvm.ClassFile.FieldType.object "java/lang/String")), Jvm.Cond.code ({ cls := "com/example/warm_tariff/warmtariff/DecodingReader$Undecodable", name := "<init>", desc := "(Lcom/example/warm_tariff/warmtariff/TextEncoding;J)V" } : Jvm.MethodName) prog_9_method_1_code (4 : Nat) (Option.none : Option Jvm.ClassFile.FieldType), Jvm.Cond.code ({ cls := "java/nio/charset/CharacterCodingException", name := "<init>", desc := "()V" } : Jvm.MethodName) jdk_2189_method_1_code (1 : Nat) (Option.none : Option Jvm.ClassFile.FieldType), Jvm.Cond.code ({ cls := "java/io/IOException", name := "<init>", desc := "()V" } : Jvm.MethodName) jdk_131_method_1_code (1 : Nat) (Option.none : Option Jvm.ClassFile.FieldType), Jvm.Cond.code ({ cls := "java/lang/Exception", name := "<init>", desc := "()V" } : Jvm.MethodName) jdk_59_method_1_code (1 : Nat) (Option.none : Option Jvm.ClassFile.FieldType), Jvm.Cond.code ({ cls := "java/lang/Throwable", name := "<init>", desc := "()V" } : Jvm.MethodName) jdk_78_method_1_code (1 : Nat) (Option.none : Option Jvm.ClassFile.FieldType), Jvm.Cond.code ({ cls := "java/lang/Object", name := "<init>", desc := "()V" } : Jvm.MethodName) object_method_1_code (1 : Nat) (Option.none : Option Jvm.ClassFile.FieldType), Jvm.Cond.code ({ cls := "com/example/warm_tariff/warmtariff/DecodingReader$Undecodable", name := "getMessage", desc := "()Ljava/lang/String;" } : Jvm.MethodName) prog_9_method_4_code (1 : Nat) (Option.some (Jvm.ClassFile.FieldType.object "java/lang/String")), Jvm.Cond.code ({ cls := "java/lang/StringBuilder", name := "<init>", desc := "()V" } : Jvm.MethodName) jdk_67_method_1_code (1 : Nat) (Option.none : Option Jvm.ClassFile.FieldType), Jvm.Cond.code ({ cls := "java/lang/AbstractStringBuilder", name := "<init>", desc := "(I)V" } : Jvm.MethodName) jdk_68_method_2_code (2 : Nat) (Option.none : Option Jvm.ClassFile.FieldType), Jvm.Cond.code ({ cls := "java/lang/StringBuilder", name := "append", desc := "(Ljava/lang/String;)Ljava/lang/StringBuilder;" } : Jvm.MethodName) jdk_67_method_7_code (2 : Nat) (Option.some (Jvm.ClassFile.FieldType.object "java/lang/StringBuilder")), Jvm.Cond.code ({ cls := "java/lang/AbstractStringBuilder", name := "append", desc := "(Ljava/lang/String;)Ljava/lang/AbstractStringBuilder;" } : Jvm.MethodName) jdk_68_method_22_code (3 : Nat) (Option.some (Jvm.ClassFile.FieldType.object "java/lang/AbstractStringBuilder")), Jvm.Cond.code ({ cls := "java/lang/String", name := "length", desc := "()I" } : Jvm.MethodName) jdk_42_method_54_code (1 : Nat) (Option.some Jvm.ClassFile.FieldType.int), Jvm.Cond.code ({ cls := "java/lang/String", name := "coder", desc := "()B" } : Jvm.MethodName) jdk_42_method_152_code (1 : Nat) (Option.some Jvm.ClassFile.FieldType.byte), Jvm.Cond.code ({ cls := "java/lang/AbstractStringBuilder", name := "ensureCapacityInternal", desc := "(I)V" } : Jvm.MethodName) jdk_68_method_9_code (3 : Nat) (Option.none : Option Jvm.ClassFile.FieldType), Jvm.Cond.code ({ cls := "java/lang/AbstractStringBuilder", name := "putStringAt", desc := "(ILjava/lang/String;)V" } : Jvm.MethodName) jdk_68_method_73_code (3 : Nat) (Option.none : Option Jvm.ClassFile.FieldType), Jvm.Cond.code ({ cls := "java/lang/AbstractStringBuilder", name := "inflateIfNeededFor", desc := "(Ljava/lang/String;)V" } : Jvm.MethodName) jdk_68_method_71_code (2 : Nat) (Option.none : Option Jvm.ClassFile.FieldType), Jvm.Cond.code ({ cls := "java/lang/String", name := "getBytes", desc := "([BIB)V" } : Jvm.MethodName) jdk_42_method_147_code (4 : Nat) (Option.none : Option Jvm.ClassFile.FieldType), Jvm.Cond.code ({ cls := "java/lang/StringBuilder", name := "append", desc := "(J)Ljava/lang/StringBuilder;" } : Jvm.MethodName) jdk_67_method_16_code (3 : Nat) (Option.some (Jvm.ClassFile.FieldType.object "java/lang/StringBuilder")), Jvm.Cond.code ({ cls := "java/lang/AbstractStringBuilder", name := "append", desc := "(J)Ljava/lang/AbstractStringBuilder;" } : Jvm.MethodName) jdk_68_method_33_code (5 : Nat) (Option.some (Jvm.ClassFile.FieldType.object "java/lang/AbstractStringBuilder")), Jvm.Cond.code ({ cls := "java/lang/Long", name := "stringSize", desc := "(J)I" } : Jvm.MethodName) jdk_35_method_15_code (6 : Nat) (Option.some Jvm.ClassFile.FieldType.int), Jvm.Cond.code ({ cls := "java/lang/AbstractStringBuilder", name := "isLatin1", desc := "()Z" } : Jvm.MethodName) jdk_68_method_68_code (1 : Nat) (Option.some Jvm.ClassFile.FieldType.boolean), Jvm.Cond.code ({ cls := "java/lang/Long", name := "getChars", desc := "(JI[B)I" } : Jvm.MethodName) jdk_35_method_14_code (11 : Nat) (Option.some Jvm.ClassFile.FieldType.int), Jvm.Cond.code ({ cls := "java/lang/AbstractStringBuilder", name := "newCapacity", desc := "(I)I" } : Jvm.MethodName) jdk_68_method_10_code (6 : Nat) (Option.some Jvm.ClassFile.FieldType.int), Jvm.Cond.code ({ cls := "jdk/internal/util/ArraysSupport", name := "newLength", desc := "(III)I" } : Jvm.MethodName) jdk_48_method_27_code (4 : Nat) (Option.some Jvm.ClassFile.FieldType.int), Jvm.Cond.code ({ cls := "java/lang/Math", name := "max", desc := "(II)I" } : Jvm.MethodName) jdk_29_method_65_code (2 : Nat) (Option.some Jvm.ClassFile.FieldType.int), Jvm.Cond.code ({ cls := "java/util/Arrays", name := "copyOf", desc := "([BI)[B" } : Jvm.MethodName) jdk_65_method_121_code (3 : Nat) (Option.some (Jvm.ClassFile.FieldType.array Jvm.ClassFile.FieldType.byte)), Jvm.Cond.code ({ cls := "java/lang/Math", name := "min", desc := "(II)I" } : Jvm.MethodName) jdk_29_method_69_code (2 : Nat) (Option.some Jvm.ClassFile.FieldType.int), Jvm.Cond.code ({ cls := "java/lang/StringBuilder", name := "toString", desc := "()Ljava/lang/String;" } : Jvm.MethodName) jdk_67_method_42_code (1 : Nat) (Option.some (Jvm.ClassFile.FieldType.object "java/lang/String")), Jvm.Cond.code ({ cls := "java/lang/String", name := "<init>", desc := "(Ljava/lang/StringBuilder;)V" } : Jvm.MethodName) jdk_42_method_53_code (2 : Nat) (Option.none : Option Jvm.ClassFile.FieldType), Jvm.Cond.code ({ cls := "java/lang/String", name := "<init>", desc := "(Ljava/lang/AbstractStringBuilder;Ljava/lang/Void;)V" } : Jvm.MethodName) jdk_42_method_150_code (5 : Nat) (Option.none : Option Jvm.ClassFile.FieldType), Jvm.Cond.code ({ cls := "java/lang/AbstractStringBuilder", name := "getValue", desc := "()[B" } : Jvm.MethodName) jdk_68_method_64_code (1 : Nat) (Option.some (Jvm.ClassFile.FieldType.array Jvm.ClassFile.FieldType.byte)), Jvm.Cond.code ({ cls := "java/lang/StringBuilder", name := "length", desc := "()I" } : Jvm.MethodName) jdk_67_method_93_code (1 : Nat) (Option.some Jvm.ClassFile.FieldType.int), Jvm.Cond.code ({ cls := "java/lang/AbstractStringBuilder", name := "length", desc := "()I" } : Jvm.MethodName) jdk_68_method_6_code (1 : Nat) (Option.some Jvm.ClassFile.FieldType.int), Jvm.Cond.code ({ cls := "java/util/Arrays", name := "copyOfRange", desc := "([BII)[B" } : Jvm.MethodName) jdk_65_method_132_code (3 : Nat) (Option.some (Jvm.ClassFile.FieldType.array Jvm.ClassFile.FieldType.byte)), Jvm.Cond.code ({ cls := "java/util/Arrays", name := "copyOfRangeByte", desc := "([BII)[B" } : Jvm.MethodName) jdk_65_method_133_code (5 : Nat) (Option.some (Jvm.ClassFile.FieldType.array Jvm.ClassFile.FieldType.byte)), Jvm.Cond.code ({ cls := "java/util/Arrays", name := "checkLength", desc := "(II)V" } : Jvm.MethodName) jdk_65_method_131_code (2 : Nat) (Option.none : Option Jvm.ClassFile.FieldType), Jvm.Cond.code ({ cls := "com/example/warm_tariff/warmtariff/UndecodableGetMessagePinLaw", name := "digits", desc := "(J)I" } : Jvm.MethodName) method_5_code (4 : Nat) (Option.some Jvm.ClassFile.FieldType.int), Jvm.Cond.code ({ cls := "com/example/warm_tariff/warmtariff/UndecodableGetMessagePinLaw", name := "powers", desc := "()[J" } : Jvm.MethodName) method_3_code (1 : Nat) (Option.some (Jvm.ClassFile.FieldType.array Jvm.ClassFile.FieldType.long)), Jvm.Cond.code ({ cls := "com/example/warm_tariff/warmtariff/UndecodableGetMessagePinLaw", name := "more", desc := "(JJ)I" } : Jvm.MethodName) method_4_code (4 : Nat) (Option.some Jvm.ClassFile.FieldType.int), Jvm.Cond.code ({ cls := "com/example/warm_tariff/warmtariff/UndecodableGetMessagePinLaw", name := "region", desc := "(Ljava/lang/String;ILjava/lang/String;)Z" } : Jvm.MethodName) method_9_code (3 : Nat) (Option.some Jvm.ClassFile.FieldType.boolean), Jvm.Cond.code ({ cls := "com/example/warm_tariff/warmtariff/UndecodableGetMessagePinLaw", name := "at", desc := "(Ljava/lang/String;ILjava/lang/String;I)Z" } : Jvm.MethodName) method_8_code (4 : Nat) (Option.some Jvm.ClassFile.FieldType.boolean), Jvm.Cond.code ({ cls := "java/lang/String", name := "charAt", desc := "(I)C" } : Jvm.MethodName) jdk_42_method_56_code (2 : Nat) (Option.some Jvm.ClassFile.FieldType.char), Jvm.Cond.code ({ cls := "java/lang/String", name := "isLatin1", desc := "()Z" } : Jvm.MethodName) jdk_42_method_154_code (1 : Nat) (Option.some Jvm.ClassFile.FieldType.boolean), Jvm.Cond.code ({ cls := "java/lang/StringLatin1", name := "charAt", desc := "([BI)C" } : Jvm.MethodName) jdk_43_method_2_code (2 : Nat) (Option.some Jvm.ClassFile.FieldType.char), Jvm.Cond.code ({ cls := "java/lang/String", name := "checkIndex", desc := "(II)V" } : Jvm.MethodName) jdk_42_method_155_code (2 : Nat) (Option.none : Option Jvm.ClassFile.FieldType), Jvm.Cond.code ({ cls := "jdk/internal/util/Preconditions", name := "checkIndex", desc := "(IILjava/util/function/BiFunction;)I" } : Jvm.MethodName) jdk_41_method_11_code (3 : Nat) (Option.some Jvm.ClassFile.FieldType.int), Jvm.Cond.code ({ cls := "com/example/warm_tariff/warmtariff/UndecodableGetMessagePinLaw", name := "number", desc := "(Ljava/lang/String;IJI)Z" } : Jvm.MethodName) method_7_code (7 : Nat) (Option.some Jvm.ClassFile.FieldType.boolean), Jvm.Cond.code ({ cls := "com/example/warm_tariff/warmtariff/UndecodableGetMessagePinLaw", name := "d", desc := "(Ljava/lang/String;IJ[JII)Z" } : Jvm.MethodName) method_6_code (8 : Nat) (Option.some Jvm.ClassFile.FieldType.boolean), Jvm.Cond.code ({ cls := "java/lang/Math", name := "abs", desc := "(J)J" } : Jvm.MethodName) jdk_29_method_61_code (2 : Nat) (Option.some Jvm.ClassFile.FieldType.long)]
set_option maxRecDepth 65536 in
theorem codes_eq : words1.filter isCode = codes1 := rfl
theorem w_codes : ∀ c ∈ words1.filter isCode, c.before args0 about1 = true := by
  rw [codes_eq]
  intro c hc
  simp only [codes1, List.mem_cons, List.not_mem_nil, or_false] at hc
  rcases hc with rfl | rfl | rfl | rfl | rfl | rfl | rfl | rfl | rfl | rfl | rfl | rfl | rfl | rfl | rfl | rfl | rfl | rfl | rfl | rfl | rfl | rfl | rfl | rfl | rfl | rfl | rfl | rfl | rfl | rfl | rfl | rfl | rfl | rfl | rfl | rfl | rfl | rfl | rfl | rfl | rfl | rfl | rfl | rfl | rfl | rfl | rfl | rfl | rfl | rfl | rfl
  · exact w_c0
  · exact w_c1
  · exact w_c2
  · exact w_c3
  · exact w_c4
  · exact w_c5
  · exact w_c6
  · exact w_c7
  · exact w_c8
  · exact w_c9
  · exact w_c10
  · exact w_c11
  · exact w_c12
  · exact w_c13
  · exact w_c14
  · exact w_c15
  · exact w_c16
  · exact w_c17
  · exact w_c18
  · exact w_c19
  · exact w_c20
  · exact w_c21
  · exact w_c22
  · exact w_c23
  · exact w_c24
  · exact w_c25
  · exact w_c26
  · exact w_c27
  · exact w_c28
  · exact w_c29
  · exact w_c30
  · exact w_c31
  · exact w_c32
  · exact w_c33
  · exact w_c34
  · exact w_c35
  · exact w_c36
  · exact w_c37
  · exact w_c38
  · exact w_c39
  · exact w_c40
  · exact w_c41
  · exact w_c42
  · exact w_c43
  · exact w_c44
  · exact w_c45
  · exact w_c46
  · exact w_c47
  · exact w_c48
  · exact w_c49
  · exact w_c50
set_option maxRecDepth 65536 in
theorem w_t1 : (words1.take 24).all (fun c => isCode c || c.before args0 about1) = true := by decide +kernel
set_option maxRecDepth 65536 in
theorem w_t2 : ((words1.drop 24).take 24).all (fun c => isCode c || c.before args0 about1) = true := by decide +kernel
set_option maxRecDepth 65536 in
theorem w_t3 : (((words1.drop 24).drop 24).take 24).all (fun c => isCode c || c.before args0 about1) = true := by decide +kernel
set_option maxRecDepth 65536 in
theorem w_t4 : ((((words1.drop 24).drop 24).drop 24).take 24).all (fun c => isCode c || c.before args0 about1) = true := by decide +kernel
set_option maxRecDepth 65536 in
theorem w_t5 : (((((words1.drop 24).drop 24).drop 24).drop 24).take 24).all (fun c => isCode c || c.before args0 about1) = true := by decide +kernel
set_option maxRecDepth 65536 in
theorem w_t6 : ((((((words1.drop 24).drop 24).drop 24).drop 24).drop 24).take 24).all (fun c => isCode c || c.before args0 about1) = true := by decide +kernel
set_option maxRecDepth 65536 in
theorem w_t7 : (((((((words1.drop 24).drop 24).drop 24).drop 24).drop 24).drop 24).take 24).all (fun c => isCode c || c.before args0 about1) = true := by decide +kernel
set_option maxRecDepth 65536 in
theorem w_t8 : ((((((((words1.drop 24).drop 24).drop 24).drop 24).drop 24).drop 24).drop 24).take 24).all (fun c => isCode c || c.before args0 about1) = true := by decide +kernel
set_option maxRecDepth 65536 in
theorem w_t9 : (((((((((words1.drop 24).drop 24).drop 24).drop 24).drop 24).drop 24).drop 24).drop 24).take 24).all (fun c => isCode c || c.before args0 about1) = true := by decide +kernel
set_option maxRecDepth 65536 in
theorem w_t10 : ((((((((((words1.drop 24).drop 24).drop 24).drop 24).drop 24).drop 24).drop 24).drop 24).drop 24).take 24).all (fun c => isCode c || c.before args0 about1) = true := by decide +kernel
set_option maxRecDepth 65536 in
theorem w_t11 : (((((((((((words1.drop 24).drop 24).drop 24).drop 24).drop 24).drop 24).drop 24).drop 24).drop 24).drop 24).take 24).all (fun c => isCode c || c.before args0 about1) = true := by decide +kernel
set_option maxRecDepth 65536 in
theorem w_t12 : ((((((((((((words1.drop 24).drop 24).drop 24).drop 24).drop 24).drop 24).drop 24).drop 24).drop 24).drop 24).drop 24).take 24).all (fun c => isCode c || c.before args0 about1) = true := by decide +kernel
set_option maxRecDepth 65536 in
theorem w_t13 : (((((((((((((words1.drop 24).drop 24).drop 24).drop 24).drop 24).drop 24).drop 24).drop 24).drop 24).drop 24).drop 24).drop 24).take 24).all (fun c => isCode c || c.before args0 about1) = true := by decide +kernel
set_option maxRecDepth 65536 in
theorem w_t14 : (((((((((((((words1.drop 24).drop 24).drop 24).drop 24).drop 24).drop 24).drop 24).drop 24).drop 24).drop 24).drop 24).drop 24).drop 24).all (fun c => isCode c || c.before args0 about1) = true := by decide +kernel
theorem w_tables : (allAtoms (Jvm.Cond.code x code maxLocals ret :: tables_1)).before args0 about1 = true := by
  rw [allAtoms_all]
  show words1.all (fun c => c.before args0 about1) = true
  refine all_split ?_ w_codes
  rw [← List.take_append_drop 24 words1, List.all_append, w_t1, ← List.take_append_drop 24 (words1.drop 24), List.all_append, w_t2, ← List.take_append_drop 24 ((words1.drop 24).drop 24), List.all_append, w_t3, ← List.take_append_drop 24 (((words1.drop 24).drop 24).drop 24), List.all_append, w_t4, ← List.take_append_drop 24 ((((words1.drop 24).drop 24).drop 24).drop 24), List.all_append, w_t5, ← List.take_append_drop 24 (((((words1.drop 24).drop 24).drop 24).drop 24).drop 24), List.all_append, w_t6, ← List.take_append_drop 24 ((((((words1.drop 24).drop 24).drop 24).drop 24).drop 24).drop 24), List.all_append, w_t7, ← List.take_append_drop 24 (((((((words1.drop 24).drop 24).drop 24).drop 24).drop 24).drop 24).drop 24), List.all_append, w_t8, ← List.take_append_drop 24 ((((((((words1.drop 24).drop 24).drop 24).drop 24).drop 24).drop 24).drop 24).drop 24), List.all_append, w_t9, ← List.take_append_drop 24 (((((((((words1.drop 24).drop 24).drop 24).drop 24).drop 24).drop 24).drop 24).drop 24).drop 24), List.all_append, w_t10, ← List.take_append_drop 24 ((((((((((words1.drop 24).drop 24).drop 24).drop 24).drop 24).drop 24).drop 24).drop 24).drop 24).drop 24), List.all_append, w_t11, ← List.take_append_drop 24 (((((((((((words1.drop 24).drop 24).drop 24).drop 24).drop 24).drop 24).drop 24).drop 24).drop 24).drop 24).drop 24), List.all_append, w_t12, ← List.take_append_drop 24 ((((((((((((words1.drop 24).drop 24).drop 24).drop 24).drop 24).drop 24).drop 24).drop 24).drop 24).drop 24).drop 24).drop 24), List.all_append, w_t13, w_t14]
  rfl
set_option maxRecDepth 65536 in
theorem w_rest : rest_1_c.before args0 about1 = true := by decide +kernel
set_option maxRecDepth 65536 in
theorem w_case : (Jvm.Cond.and given_1 narrow_1).before args0 about1 = true := by decide +kernel
set_option maxRecDepth 65536 in
theorem w_consts : constsHeld consts_1 about1 := Jvm.Lit.constsHeldB_iff.mp (by decide +kernel)
theorem w_applies : (headSpec (Jvm.Cond.code x code maxLocals ret :: tables_1) room_1).applies x e0.platform about1 = true :=
  (Spec.applies_iff w_frames).mpr ⟨w_running, w_runnable, w_alone, w_named, w_hears, w_ripe, w_room, w_tables⟩
theorem atStart : AtStart classFile x code maxLocals ret World_1 tables_1 room_1 Calls_1 rest_1 Pre_1 launch0 p0 e0 about1 theMethod args0 below0 :=
  ⟨lists_1, trivial, launch0.admits_env _ _ _, launch0.least_env, fairChoices_fair.cas, fairChoices_fair.clock, w_frames, w_args, w_heap, w_applies, ⟨(by decide +kernel : framesKnown about1 = true), ⟨(by decide +kernel : tablesKnown about1 = true), ⟨w_consts, trivial⟩⟩⟩, w_rest, w_case⟩
end start1
theorem witness_1 : WitnessClaimed_1 := ⟨start1.p0, start1.e0, start1.about1, start1.theMethod, start1.args0, start1.below0, start1.atStart⟩
end Jvm.Pilot.@@N@@
