import JvmDerived
import JvmDerived.Pilot.@@N@@Statement
import JvmDerived.Pilot.@@N@@Code
set_option linter.unusedVariables false
set_option linter.unusedSimpArgs false
namespace Jvm.Pilot.@@N@@
open Jvm Jvm.ClassFile Sem Op Lib Jvm.Free Jvm.Stand Jvm.LawKit Jvm.RoadKit Bundle Jvm.Pilot.@@N@@.Jvm.D
section Own
variable {p : Program} {l : Launch} {e : Env} {R : Room} {s : State} {m : MethodId} {args : Array Value} {below : List Frame} {meth : Method} {c : Code} {Z : State} {a0 : Array Value} {EL : List (String × Nat)} {n0 : Nat} {y : MethodName} {bytes : ByteArray} {maxL : Nat} {ret : Option FieldType} {b : State} {T : State} {h : Heap} {locs : List Loc} {cells slots : Nat} {P : Outcome → State → Prop} {pc pc' : Nat} {Ls : Array Slot} {st : List Value}
def Goes (tb : Tables) (e : Env) (below : List Frame) (P : Outcome → State → Prop) (A : State) : Prop := ∃ s₂ o, Steps tb e below A s₂ ∧ s₂.status = .running ∧ Ended s₂ below o ∧ P o s₂
theorem go {tb : Tables} {A B : State} (q : ∀ t, Steps tb e below B t → Steps tb e below A t) (k : Goes tb e below P B) : Goes tb e below P A := by
  obtain ⟨t, o, h, r⟩ := k
  exact ⟨t, o, q t h, r⟩
def Sfe (Z : State) (EL : List (String × Nat)) (vm : Vm) (h : Heap) (x : Addr) : Prop := Safe Z EL vm h x
theorem sfe_new {vm : Vm} {x : Addr} (q : h.size ≤ x) : Sfe Z EL vm h x := Safe.new q
def Bs (Z : State) (a0 : Array Value) (EL : List (String × Nat)) (s b : State) (h : Heap) : Prop := (∃ vm0 k0, b = s.setVm vm0 ∧ s.Since vm0 k0 ∧ k0 ≤ h.size) ∧ CHr Z EL s.vm s.heap b.vm h ∧ EW Z a0 EL
def Wk (p : Program) (l : Launch) (e : Env) (R : Room) (s : State) (m : MethodId) (args : Array Value) (below : List Frame) (meth : Method) (c : Code) (Z : State) (a0 : Array Value) (EL : List (String × Nat)) (n0 : Nat) (y : MethodName) (bytes : ByteArray) (maxL : Nat) (ret : Option FieldType) (b : State) (T : State) (h : Heap) (locs : List Loc) (cells slots : Nat) : Prop := Stand p l e R b m args below meth c T locs cells slots ∧ T.heap = h ∧ Fr n0 locs ∧ p.tables.exec = Jvm.exec ∧ Z.Warmed39 b.vm ∧ b.vm.findClass y.cls = some m.cls ∧ c.code = bytes ∧ c.maxLocals = maxL ∧ meth.sig.returnType = ret ∧ meth.locks = false ∧ meth.name = y.name ∧ Old Z n0 h ∧ Bs Z a0 EL s b h
theorem Wk.X (K : Wk p l e R s m args below meth c Z a0 EL n0 y bytes maxL ret b T h locs cells slots) : Stand p l e R b m args below meth c T locs cells slots := K.1
theorem Wk.eT (K : Wk p l e R s m args below meth c Z a0 EL n0 y bytes maxL ret b T h locs cells slots) : T.heap = h := K.2.1
theorem Wk.fr (K : Wk p l e R s m args below meth c Z a0 EL n0 y bytes maxL ret b T h locs cells slots) : Fr n0 locs := K.2.2.1
theorem Wk.hx (K : Wk p l e R s m args below meth c Z a0 EL n0 y bytes maxL ret b T h locs cells slots) : p.tables.exec = Jvm.exec := K.2.2.2.1
theorem Wk.hZ (K : Wk p l e R s m args below meth c Z a0 EL n0 y bytes maxL ret b T h locs cells slots) : Z.Warmed39 b.vm := K.2.2.2.2.1
theorem Wk.hown (K : Wk p l e R s m args below meth c Z a0 EL n0 y bytes maxL ret b T h locs cells slots) : b.vm.findClass y.cls = some m.cls := K.2.2.2.2.2.1
theorem Wk.hby (K : Wk p l e R s m args below meth c Z a0 EL n0 y bytes maxL ret b T h locs cells slots) : c.code = bytes := K.2.2.2.2.2.2.1
theorem Wk.hml (K : Wk p l e R s m args below meth c Z a0 EL n0 y bytes maxL ret b T h locs cells slots) : c.maxLocals = maxL := K.2.2.2.2.2.2.2.1
theorem Wk.hret (K : Wk p l e R s m args below meth c Z a0 EL n0 y bytes maxL ret b T h locs cells slots) : meth.sig.returnType = ret := K.2.2.2.2.2.2.2.2.1
theorem Wk.hlk (K : Wk p l e R s m args below meth c Z a0 EL n0 y bytes maxL ret b T h locs cells slots) : meth.locks = false := K.2.2.2.2.2.2.2.2.2.1
theorem Wk.hnm (K : Wk p l e R s m args below meth c Z a0 EL n0 y bytes maxL ret b T h locs cells slots) : meth.name = y.name := K.2.2.2.2.2.2.2.2.2.2.1
theorem Wk.old (K : Wk p l e R s m args below meth c Z a0 EL n0 y bytes maxL ret b T h locs cells slots) : Old Z n0 h := K.2.2.2.2.2.2.2.2.2.2.2.1
theorem Wk.bs (K : Wk p l e R s m args below meth c Z a0 EL n0 y bytes maxL ret b T h locs cells slots) : Bs Z a0 EL s b h := K.2.2.2.2.2.2.2.2.2.2.2.2
theorem Wk.at (K : Wk p l e R s m args below meth c Z a0 EL n0 y bytes maxL ret b T h locs cells slots) : At T m c below := K.X.here
theorem Wk.move (K : Wk p l e R s m args below meth c Z a0 EL n0 y bytes maxL ret b T h locs cells slots) {T' : State} {h' : Heap} {locs' : List Loc} {cells' slots' : Nat} (X : Stand p l e R b m args below meth c T' locs' cells' slots') (eT : T'.heap = h') (hF : Fr n0 locs') (hO : Old Z n0 h') (hB : Bs Z a0 EL s b h') : Wk p l e R s m args below meth c Z a0 EL n0 y bytes maxL ret b T' h' locs' cells' slots' := ⟨X, eT, hF, K.hx, K.hZ, K.hown, K.hby, K.hml, K.hret, K.hlk, K.hnm, hO, hB⟩
theorem k_iload (K : Wk p l e R s m args below meth c Z a0 EL n0 y bytes maxL ret b T h locs cells slots) {i : Int32} {k : Nat} (hd : decode bytes pc = .ok (.iload k, 2)) (hp : pc + 2 = pc') (hl : Ls[k]? = some (.val (.int i))) (k : Goes p.tables e below P (T.setTop (mkF m pc' Ls (.int i :: st)))) : Goes p.tables e below P (T.setTop (mkF m pc Ls st)) := by
  subst hp
  exact go (fun t q => XS.iload K.at K.hx rfl (hb K.hby hd) hl q) k
theorem k_iloadN (K : Wk p l e R s m args below meth c Z a0 EL n0 y bytes maxL ret b T h locs cells slots) {i : Int32} {k : Fin 4} (hd : decode bytes pc = .ok (.iload_n k, 1)) (hp : pc + 1 = pc') (hl : Ls[k.val]? = some (.val (.int i))) (k : Goes p.tables e below P (T.setTop (mkF m pc' Ls (.int i :: st)))) : Goes p.tables e below P (T.setTop (mkF m pc Ls st)) := by
  subst hp
  exact go (fun t q => XS.iloadN K.at K.hx rfl (hb K.hby hd) hl q) k
theorem k_lload (K : Wk p l e R s m args below meth c Z a0 EL n0 y bytes maxL ret b T h locs cells slots) {i : Int64} {k : Nat} (hd : decode bytes pc = .ok (.lload k, 2)) (hp : pc + 2 = pc') (hl : Ls[k]? = some (.val (.long i))) (k : Goes p.tables e below P (T.setTop (mkF m pc' Ls (.long i :: st)))) : Goes p.tables e below P (T.setTop (mkF m pc Ls st)) := by
  subst hp
  exact go (fun t q => XT.lload K.at K.hx rfl (hb K.hby hd) hl q) k
theorem k_lloadN (K : Wk p l e R s m args below meth c Z a0 EL n0 y bytes maxL ret b T h locs cells slots) {i : Int64} {k : Fin 4} (hd : decode bytes pc = .ok (.lload_n k, 1)) (hp : pc + 1 = pc') (hl : Ls[k.val]? = some (.val (.long i))) (k : Goes p.tables e below P (T.setTop (mkF m pc' Ls (.long i :: st)))) : Goes p.tables e below P (T.setTop (mkF m pc Ls st)) := by
  subst hp
  exact go (fun t q => XT.lloadN K.at K.hx rfl (hb K.hby hd) hl q) k
theorem k_aload (K : Wk p l e R s m args below meth c Z a0 EL n0 y bytes maxL ret b T h locs cells slots) {v : Value} {k : Nat} (hd : decode bytes pc = .ok (.aload k, 2)) (hp : pc + 2 = pc') (hl : Ls[k]? = some (.val v)) (hv : v.isRef = true) (k : Goes p.tables e below P (T.setTop (mkF m pc' Ls (v :: st)))) : Goes p.tables e below P (T.setTop (mkF m pc Ls st)) := by
  subst hp
  exact go (fun t q => XS.aload K.at K.hx rfl (hb K.hby hd) hl hv q) k
theorem k_aloadN (K : Wk p l e R s m args below meth c Z a0 EL n0 y bytes maxL ret b T h locs cells slots) {v : Value} {k : Fin 4} (hd : decode bytes pc = .ok (.aload_n k, 1)) (hp : pc + 1 = pc') (hl : Ls[k.val]? = some (.val v)) (hv : v.isRef = true) (k : Goes p.tables e below P (T.setTop (mkF m pc' Ls (v :: st)))) : Goes p.tables e below P (T.setTop (mkF m pc Ls st)) := by
  subst hp
  exact go (fun t q => XS.aloadN K.at K.hx rfl (hb K.hby hd) hl hv q) k
theorem k_istore (K : Wk p l e R s m args below meth c Z a0 EL n0 y bytes maxL ret b T h locs cells slots) {i : Int32} {k : Nat} {L' : Array Slot} (hd : decode bytes pc = .ok (.istore k, 2)) (hp : pc + 2 = pc') (hl : storeLocals Ls k (.int i) = some L') (k : Goes p.tables e below P (T.setTop (mkF m pc' L' st))) : Goes p.tables e below P (T.setTop (mkF m pc Ls (.int i :: st))) := by
  subst hp
  exact go (fun t q => XS.istore K.at K.hx rfl (hb K.hby hd) rfl hl q) k
theorem k_istoreN (K : Wk p l e R s m args below meth c Z a0 EL n0 y bytes maxL ret b T h locs cells slots) {i : Int32} {k : Fin 4} {L' : Array Slot} (hd : decode bytes pc = .ok (.istore_n k, 1)) (hp : pc + 1 = pc') (hl : storeLocals Ls k.val (.int i) = some L') (k : Goes p.tables e below P (T.setTop (mkF m pc' L' st))) : Goes p.tables e below P (T.setTop (mkF m pc Ls (.int i :: st))) := by
  subst hp
  exact go (fun t q => XS.istoreN K.at K.hx rfl (hb K.hby hd) rfl hl q) k
theorem k_lstore (K : Wk p l e R s m args below meth c Z a0 EL n0 y bytes maxL ret b T h locs cells slots) {i : Int64} {k : Nat} {L' : Array Slot} (hd : decode bytes pc = .ok (.lstore k, 2)) (hp : pc + 2 = pc') (hl : storeLocals Ls k (.long i) = some L') (k : Goes p.tables e below P (T.setTop (mkF m pc' L' st))) : Goes p.tables e below P (T.setTop (mkF m pc Ls (.long i :: st))) := by
  subst hp
  exact go (fun t q => XT.lstore K.at K.hx rfl (hb K.hby hd) rfl hl q) k
theorem k_lstoreN (K : Wk p l e R s m args below meth c Z a0 EL n0 y bytes maxL ret b T h locs cells slots) {i : Int64} {k : Fin 4} {L' : Array Slot} (hd : decode bytes pc = .ok (.lstore_n k, 1)) (hp : pc + 1 = pc') (hl : storeLocals Ls k.val (.long i) = some L') (k : Goes p.tables e below P (T.setTop (mkF m pc' L' st))) : Goes p.tables e below P (T.setTop (mkF m pc Ls (.long i :: st))) := by
  subst hp
  exact go (fun t q => XT.lstoreN K.at K.hx rfl (hb K.hby hd) rfl hl q) k
theorem k_astore (K : Wk p l e R s m args below meth c Z a0 EL n0 y bytes maxL ret b T h locs cells slots) {v : Value} {k : Nat} {L' : Array Slot} (hd : decode bytes pc = .ok (.astore k, 2)) (hp : pc + 2 = pc') (hv : v.isRef = true) (hl : storeLocals Ls k v = some L') (k : Goes p.tables e below P (T.setTop (mkF m pc' L' st))) : Goes p.tables e below P (T.setTop (mkF m pc Ls (v :: st))) := by
  subst hp
  exact go (fun t q => XS.astore K.at K.hx rfl (hb K.hby hd) rfl hv hl q) k
theorem k_astoreN (K : Wk p l e R s m args below meth c Z a0 EL n0 y bytes maxL ret b T h locs cells slots) {v : Value} {k : Fin 4} {L' : Array Slot} (hd : decode bytes pc = .ok (.astore_n k, 1)) (hp : pc + 1 = pc') (hv : v.isRef = true) (hl : storeLocals Ls k.val v = some L') (k : Goes p.tables e below P (T.setTop (mkF m pc' L' st))) : Goes p.tables e below P (T.setTop (mkF m pc Ls (v :: st))) := by
  subst hp
  exact go (fun t q => XS.astoreN K.at K.hx rfl (hb K.hby hd) rfl hv hl q) k
theorem k_iconst (K : Wk p l e R s m args below meth c Z a0 EL n0 y bytes maxL ret b T h locs cells slots) {i : Int} (v : Int32) (hd : decode bytes pc = .ok (.iconst i, 1)) (hp : pc + 1 = pc') (hv : Int32.ofInt i = v) (k : Goes p.tables e below P (T.setTop (mkF m pc' Ls (.int v :: st)))) : Goes p.tables e below P (T.setTop (mkF m pc Ls st)) := by
  subst hp
  exact go (fun t q => XT.iconstV K.at K.hx rfl v (hb K.hby hd) hv q) k
theorem k_bipush (K : Wk p l e R s m args below meth c Z a0 EL n0 y bytes maxL ret b T h locs cells slots) {i : Int} (v : Int32) (hd : decode bytes pc = .ok (.bipush i, 2)) (hp : pc + 2 = pc') (hv : (Int8.ofInt i).toInt32 = v) (k : Goes p.tables e below P (T.setTop (mkF m pc' Ls (.int v :: st)))) : Goes p.tables e below P (T.setTop (mkF m pc Ls st)) := by
  subst hp
  exact go (fun t q => XT.bipushV K.at K.hx rfl v (hb K.hby hd) hv q) k
theorem k_sipush (K : Wk p l e R s m args below meth c Z a0 EL n0 y bytes maxL ret b T h locs cells slots) {i : Int} (v : Int32) (hd : decode bytes pc = .ok (.sipush i, 3)) (hp : pc + 3 = pc') (hv : (Int16.ofInt i).toInt32 = v) (k : Goes p.tables e below P (T.setTop (mkF m pc' Ls (.int v :: st)))) : Goes p.tables e below P (T.setTop (mkF m pc Ls st)) := by
  subst hp
  exact go (fun t q => XT.sipushV K.at K.hx rfl v (hb K.hby hd) hv q) k
theorem k_lconst (K : Wk p l e R s m args below meth c Z a0 EL n0 y bytes maxL ret b T h locs cells slots) {i : Fin 2} (v : Int64) (hd : decode bytes pc = .ok (.lconst i, 1)) (hp : pc + 1 = pc') (hv : Int64.ofNat i = v) (k : Goes p.tables e below P (T.setTop (mkF m pc' Ls (.long v :: st)))) : Goes p.tables e below P (T.setTop (mkF m pc Ls st)) := by
  subst hp
  exact go (fun t q => XT.lconstV K.at K.hx rfl v (hb K.hby hd) hv q) k
theorem k_aconst_null (K : Wk p l e R s m args below meth c Z a0 EL n0 y bytes maxL ret b T h locs cells slots)  (hd : decode bytes pc = .ok (.aconst_null, 1)) (hp : pc + 1 = pc') (k : Goes p.tables e below P (T.setTop (mkF m pc' Ls (.null :: st)))) : Goes p.tables e below P (T.setTop (mkF m pc Ls st)) := by
  subst hp
  exact go (fun t q => XS.aconstNull K.at K.hx rfl (hb K.hby hd) q) k
theorem k_ldcI (K : Wk p l e R s m args below meth c Z a0 EL n0 y bytes maxL ret b T h locs cells slots) {i : Nat} {v : Int32} (wd : (Cond.constant y.cls i v).before a0 Z = true) (hd : decode bytes pc = .ok (.ldc i, 2)) (hp : pc + 2 = pc') (k : Goes p.tables e below P (T.setTop (mkF m pc' Ls (.int v :: st)))) : Goes p.tables e below P (T.setTop (mkF m pc Ls st)) := by
  subst hp
  exact go (fun t q => Stand.ldcI K.X K.hx K.hown (mvT K.hZ wd) rfl (hb K.hby hd) q) k
theorem k_ldcWI (K : Wk p l e R s m args below meth c Z a0 EL n0 y bytes maxL ret b T h locs cells slots) {i : Nat} {v : Int32} (wd : (Cond.constant y.cls i v).before a0 Z = true) (hd : decode bytes pc = .ok (.ldc_w i, 3)) (hp : pc + 3 = pc') (k : Goes p.tables e below P (T.setTop (mkF m pc' Ls (.int v :: st)))) : Goes p.tables e below P (T.setTop (mkF m pc Ls st)) := by
  subst hp
  exact go (fun t q => Stand.ldcWI K.X K.hx K.hown (mvT K.hZ wd) rfl (hb K.hby hd) q) k
theorem k_ldcJ (K : Wk p l e R s m args below meth c Z a0 EL n0 y bytes maxL ret b T h locs cells slots) {i : Nat} {v : Int64} (wd : (Cond.constantLong y.cls i v).before a0 Z = true) (hd : decode bytes pc = .ok (.ldc2_w i, 3)) (hp : pc + 3 = pc') (k : Goes p.tables e below P (T.setTop (mkF m pc' Ls (.long v :: st)))) : Goes p.tables e below P (T.setTop (mkF m pc Ls st)) := by
  subst hp
  exact go (fun t q => Stand.ldc2J K.X K.hx K.hown (mvT K.hZ wd) rfl (hb K.hby hd) q) k
theorem k_iadd (K : Wk p l e R s m args below meth c Z a0 EL n0 y bytes maxL ret b T h locs cells slots) {i j : Int32} (hd : decode bytes pc = .ok (.iadd, 1)) (hp : pc + 1 = pc') (k : Goes p.tables e below P (T.setTop (mkF m pc' Ls (.int (i + j) :: st)))) : Goes p.tables e below P (T.setTop (mkF m pc Ls (.int j :: .int i :: st))) := by
  subst hp
  exact go (fun t q => XS.iadd K.at K.hx rfl (hb K.hby hd) rfl q) k
theorem k_isub (K : Wk p l e R s m args below meth c Z a0 EL n0 y bytes maxL ret b T h locs cells slots) {i j : Int32} (hd : decode bytes pc = .ok (.isub, 1)) (hp : pc + 1 = pc') (k : Goes p.tables e below P (T.setTop (mkF m pc' Ls (.int (i - j) :: st)))) : Goes p.tables e below P (T.setTop (mkF m pc Ls (.int j :: .int i :: st))) := by
  subst hp
  exact go (fun t q => XS.isub K.at K.hx rfl (hb K.hby hd) rfl q) k
theorem k_imul (K : Wk p l e R s m args below meth c Z a0 EL n0 y bytes maxL ret b T h locs cells slots) {i j : Int32} (hd : decode bytes pc = .ok (.imul, 1)) (hp : pc + 1 = pc') (k : Goes p.tables e below P (T.setTop (mkF m pc' Ls (.int (i * j) :: st)))) : Goes p.tables e below P (T.setTop (mkF m pc Ls (.int j :: .int i :: st))) := by
  subst hp
  exact go (fun t q => XS.imul K.at K.hx rfl (hb K.hby hd) rfl q) k
theorem k_iand (K : Wk p l e R s m args below meth c Z a0 EL n0 y bytes maxL ret b T h locs cells slots) {i j : Int32} (hd : decode bytes pc = .ok (.iand, 1)) (hp : pc + 1 = pc') (k : Goes p.tables e below P (T.setTop (mkF m pc' Ls (.int (i &&& j) :: st)))) : Goes p.tables e below P (T.setTop (mkF m pc Ls (.int j :: .int i :: st))) := by
  subst hp
  exact go (fun t q => XS.iand K.at K.hx rfl (hb K.hby hd) rfl q) k
theorem k_ior (K : Wk p l e R s m args below meth c Z a0 EL n0 y bytes maxL ret b T h locs cells slots) {i j : Int32} (hd : decode bytes pc = .ok (.ior, 1)) (hp : pc + 1 = pc') (k : Goes p.tables e below P (T.setTop (mkF m pc' Ls (.int (i ||| j) :: st)))) : Goes p.tables e below P (T.setTop (mkF m pc Ls (.int j :: .int i :: st))) := by
  subst hp
  exact go (fun t q => XT.ior K.at K.hx rfl (hb K.hby hd) rfl q) k
theorem k_ixor (K : Wk p l e R s m args below meth c Z a0 EL n0 y bytes maxL ret b T h locs cells slots) {i j : Int32} (hd : decode bytes pc = .ok (.ixor, 1)) (hp : pc + 1 = pc') (k : Goes p.tables e below P (T.setTop (mkF m pc' Ls (.int (i ^^^ j) :: st)))) : Goes p.tables e below P (T.setTop (mkF m pc Ls (.int j :: .int i :: st))) := by
  subst hp
  exact go (fun t q => XT.ixor K.at K.hx rfl (hb K.hby hd) rfl q) k
theorem k_ishl (K : Wk p l e R s m args below meth c Z a0 EL n0 y bytes maxL ret b T h locs cells slots) {i j : Int32} (hd : decode bytes pc = .ok (.ishl, 1)) (hp : pc + 1 = pc') (k : Goes p.tables e below P (T.setTop (mkF m pc' Ls (.int (i <<< (j &&& 31)) :: st)))) : Goes p.tables e below P (T.setTop (mkF m pc Ls (.int j :: .int i :: st))) := by
  subst hp
  exact go (fun t q => XT.ishl K.at K.hx rfl (hb K.hby hd) rfl q) k
theorem k_ishr (K : Wk p l e R s m args below meth c Z a0 EL n0 y bytes maxL ret b T h locs cells slots) {i j : Int32} (hd : decode bytes pc = .ok (.ishr, 1)) (hp : pc + 1 = pc') (k : Goes p.tables e below P (T.setTop (mkF m pc' Ls (.int (i >>> (j &&& 31)) :: st)))) : Goes p.tables e below P (T.setTop (mkF m pc Ls (.int j :: .int i :: st))) := by
  subst hp
  exact go (fun t q => XT.ishr K.at K.hx rfl (hb K.hby hd) rfl q) k
theorem k_iushr (K : Wk p l e R s m args below meth c Z a0 EL n0 y bytes maxL ret b T h locs cells slots) {i j : Int32} (hd : decode bytes pc = .ok (.iushr, 1)) (hp : pc + 1 = pc') (k : Goes p.tables e below P (T.setTop (mkF m pc' Ls (.int (XT.ushr i j) :: st)))) : Goes p.tables e below P (T.setTop (mkF m pc Ls (.int j :: .int i :: st))) := by
  subst hp
  exact go (fun t q => XT.iushr K.at K.hx rfl (hb K.hby hd) rfl q) k
theorem k_ladd (K : Wk p l e R s m args below meth c Z a0 EL n0 y bytes maxL ret b T h locs cells slots) {i j : Int64} (hd : decode bytes pc = .ok (.ladd, 1)) (hp : pc + 1 = pc') (k : Goes p.tables e below P (T.setTop (mkF m pc' Ls (.long (i + j) :: st)))) : Goes p.tables e below P (T.setTop (mkF m pc Ls (.long j :: .long i :: st))) := by
  subst hp
  exact go (fun t q => XT.ladd K.at K.hx rfl (hb K.hby hd) rfl q) k
theorem k_lsub (K : Wk p l e R s m args below meth c Z a0 EL n0 y bytes maxL ret b T h locs cells slots) {i j : Int64} (hd : decode bytes pc = .ok (.lsub, 1)) (hp : pc + 1 = pc') (k : Goes p.tables e below P (T.setTop (mkF m pc' Ls (.long (i - j) :: st)))) : Goes p.tables e below P (T.setTop (mkF m pc Ls (.long j :: .long i :: st))) := by
  subst hp
  exact go (fun t q => XT.lsub K.at K.hx rfl (hb K.hby hd) rfl q) k
theorem k_lmul (K : Wk p l e R s m args below meth c Z a0 EL n0 y bytes maxL ret b T h locs cells slots) {i j : Int64} (hd : decode bytes pc = .ok (.lmul, 1)) (hp : pc + 1 = pc') (k : Goes p.tables e below P (T.setTop (mkF m pc' Ls (.long (i * j) :: st)))) : Goes p.tables e below P (T.setTop (mkF m pc Ls (.long j :: .long i :: st))) := by
  subst hp
  exact go (fun t q => XT.lmul K.at K.hx rfl (hb K.hby hd) rfl q) k
theorem k_land (K : Wk p l e R s m args below meth c Z a0 EL n0 y bytes maxL ret b T h locs cells slots) {i j : Int64} (hd : decode bytes pc = .ok (.land, 1)) (hp : pc + 1 = pc') (k : Goes p.tables e below P (T.setTop (mkF m pc' Ls (.long (i &&& j) :: st)))) : Goes p.tables e below P (T.setTop (mkF m pc Ls (.long j :: .long i :: st))) := by
  subst hp
  exact go (fun t q => XT.land K.at K.hx rfl (hb K.hby hd) rfl q) k
theorem k_lor (K : Wk p l e R s m args below meth c Z a0 EL n0 y bytes maxL ret b T h locs cells slots) {i j : Int64} (hd : decode bytes pc = .ok (.lor, 1)) (hp : pc + 1 = pc') (k : Goes p.tables e below P (T.setTop (mkF m pc' Ls (.long (i ||| j) :: st)))) : Goes p.tables e below P (T.setTop (mkF m pc Ls (.long j :: .long i :: st))) := by
  subst hp
  exact go (fun t q => XT.lor K.at K.hx rfl (hb K.hby hd) rfl q) k
theorem k_lxor (K : Wk p l e R s m args below meth c Z a0 EL n0 y bytes maxL ret b T h locs cells slots) {i j : Int64} (hd : decode bytes pc = .ok (.lxor, 1)) (hp : pc + 1 = pc') (k : Goes p.tables e below P (T.setTop (mkF m pc' Ls (.long (i ^^^ j) :: st)))) : Goes p.tables e below P (T.setTop (mkF m pc Ls (.long j :: .long i :: st))) := by
  subst hp
  exact go (fun t q => XT.lxor K.at K.hx rfl (hb K.hby hd) rfl q) k
theorem k_lshl (K : Wk p l e R s m args below meth c Z a0 EL n0 y bytes maxL ret b T h locs cells slots) {i : Int64} {j : Int32} (hd : decode bytes pc = .ok (.lshl, 1)) (hp : pc + 1 = pc') (k : Goes p.tables e below P (T.setTop (mkF m pc' Ls (.long (i <<< (j.toInt64 &&& 63)) :: st)))) : Goes p.tables e below P (T.setTop (mkF m pc Ls (.int j :: .long i :: st))) := by
  subst hp
  exact go (fun t q => XT.lshl K.at K.hx rfl (hb K.hby hd) rfl q) k
theorem k_lshr (K : Wk p l e R s m args below meth c Z a0 EL n0 y bytes maxL ret b T h locs cells slots) {i : Int64} {j : Int32} (hd : decode bytes pc = .ok (.lshr, 1)) (hp : pc + 1 = pc') (k : Goes p.tables e below P (T.setTop (mkF m pc' Ls (.long (i >>> (j.toInt64 &&& 63)) :: st)))) : Goes p.tables e below P (T.setTop (mkF m pc Ls (.int j :: .long i :: st))) := by
  subst hp
  exact go (fun t q => XT.lshr K.at K.hx rfl (hb K.hby hd) rfl q) k
theorem k_lushr (K : Wk p l e R s m args below meth c Z a0 EL n0 y bytes maxL ret b T h locs cells slots) {i : Int64} {j : Int32} (hd : decode bytes pc = .ok (.lushr, 1)) (hp : pc + 1 = pc') (k : Goes p.tables e below P (T.setTop (mkF m pc' Ls (.long (XT.ushrL i j) :: st)))) : Goes p.tables e below P (T.setTop (mkF m pc Ls (.int j :: .long i :: st))) := by
  subst hp
  exact go (fun t q => XT.lushr K.at K.hx rfl (hb K.hby hd) rfl q) k
theorem k_idiv (K : Wk p l e R s m args below meth c Z a0 EL n0 y bytes maxL ret b T h locs cells slots) {i j : Int32} (hd : decode bytes pc = .ok (.idiv, 1)) (hp : pc + 1 = pc') (hj : j ≠ 0) (k : Goes p.tables e below P (T.setTop (mkF m pc' Ls (.int (i / j) :: st)))) : Goes p.tables e below P (T.setTop (mkF m pc Ls (.int j :: .int i :: st))) := by
  subst hp
  exact go (fun t q => XS.idiv K.at K.hx rfl (hb K.hby hd) rfl hj q) k
theorem k_irem (K : Wk p l e R s m args below meth c Z a0 EL n0 y bytes maxL ret b T h locs cells slots) {i j : Int32} (hd : decode bytes pc = .ok (.irem, 1)) (hp : pc + 1 = pc') (hj : j ≠ 0) (k : Goes p.tables e below P (T.setTop (mkF m pc' Ls (.int (i % j) :: st)))) : Goes p.tables e below P (T.setTop (mkF m pc Ls (.int j :: .int i :: st))) := by
  subst hp
  exact go (fun t q => Jvm.RoadKit.iremM K.X K.hx rfl (hb K.hby hd) rfl hj q) k
theorem k_ldiv (K : Wk p l e R s m args below meth c Z a0 EL n0 y bytes maxL ret b T h locs cells slots) {i j : Int64} (hd : decode bytes pc = .ok (.ldiv, 1)) (hp : pc + 1 = pc') (hj : j ≠ 0) (k : Goes p.tables e below P (T.setTop (mkF m pc' Ls (.long (i / j) :: st)))) : Goes p.tables e below P (T.setTop (mkF m pc Ls (.long j :: .long i :: st))) := by
  subst hp
  exact go (fun t q => XT.ldiv K.at K.hx rfl (hb K.hby hd) rfl hj q) k
theorem k_lrem (K : Wk p l e R s m args below meth c Z a0 EL n0 y bytes maxL ret b T h locs cells slots) {i j : Int64} (hd : decode bytes pc = .ok (.lrem, 1)) (hp : pc + 1 = pc') (hj : j ≠ 0) (k : Goes p.tables e below P (T.setTop (mkF m pc' Ls (.long (i - (i / j) * j) :: st)))) : Goes p.tables e below P (T.setTop (mkF m pc Ls (.long j :: .long i :: st))) := by
  subst hp
  exact go (fun t q => XT.lrem K.at K.hx rfl (hb K.hby hd) rfl hj q) k
theorem k_lcmp (K : Wk p l e R s m args below meth c Z a0 EL n0 y bytes maxL ret b T h locs cells slots) {i j : Int64} (hd : decode bytes pc = .ok (.lcmp, 1)) (hp : pc + 1 = pc') (k : Goes p.tables e below P (T.setTop (mkF m pc' Ls (.int (XT.cmpL i j) :: st)))) : Goes p.tables e below P (T.setTop (mkF m pc Ls (.long j :: .long i :: st))) := by
  subst hp
  exact go (fun t q => XT.lcmp K.at K.hx rfl (hb K.hby hd) rfl q) k
theorem k_ineg (K : Wk p l e R s m args below meth c Z a0 EL n0 y bytes maxL ret b T h locs cells slots) {i : Int32} (hd : decode bytes pc = .ok (.ineg, 1)) (hp : pc + 1 = pc') (k : Goes p.tables e below P (T.setTop (mkF m pc' Ls (.int (-i) :: st)))) : Goes p.tables e below P (T.setTop (mkF m pc Ls (.int i :: st))) := by
  subst hp
  exact go (fun t q => XS.ineg K.at K.hx rfl (hb K.hby hd) rfl q) k
theorem k_lneg (K : Wk p l e R s m args below meth c Z a0 EL n0 y bytes maxL ret b T h locs cells slots) {i : Int64} (hd : decode bytes pc = .ok (.lneg, 1)) (hp : pc + 1 = pc') (k : Goes p.tables e below P (T.setTop (mkF m pc' Ls (.long (-i) :: st)))) : Goes p.tables e below P (T.setTop (mkF m pc Ls (.long i :: st))) := by
  subst hp
  exact go (fun t q => XT.lneg K.at K.hx rfl (hb K.hby hd) rfl q) k
theorem k_i2l (K : Wk p l e R s m args below meth c Z a0 EL n0 y bytes maxL ret b T h locs cells slots) {i : Int32} (hd : decode bytes pc = .ok (.i2l, 1)) (hp : pc + 1 = pc') (k : Goes p.tables e below P (T.setTop (mkF m pc' Ls (.long i.toInt64 :: st)))) : Goes p.tables e below P (T.setTop (mkF m pc Ls (.int i :: st))) := by
  subst hp
  exact go (fun t q => XT.i2l K.at K.hx rfl (hb K.hby hd) rfl q) k
theorem k_l2i (K : Wk p l e R s m args below meth c Z a0 EL n0 y bytes maxL ret b T h locs cells slots) {i : Int64} (hd : decode bytes pc = .ok (.l2i, 1)) (hp : pc + 1 = pc') (k : Goes p.tables e below P (T.setTop (mkF m pc' Ls (.int i.toInt32 :: st)))) : Goes p.tables e below P (T.setTop (mkF m pc Ls (.long i :: st))) := by
  subst hp
  exact go (fun t q => XT.l2i K.at K.hx rfl (hb K.hby hd) rfl q) k
theorem k_i2b (K : Wk p l e R s m args below meth c Z a0 EL n0 y bytes maxL ret b T h locs cells slots) {i : Int32} (hd : decode bytes pc = .ok (.i2b, 1)) (hp : pc + 1 = pc') (k : Goes p.tables e below P (T.setTop (mkF m pc' Ls (.int i.toInt8.toInt32 :: st)))) : Goes p.tables e below P (T.setTop (mkF m pc Ls (.int i :: st))) := by
  subst hp
  exact go (fun t q => XT.i2b K.at K.hx rfl (hb K.hby hd) rfl q) k
theorem k_i2c (K : Wk p l e R s m args below meth c Z a0 EL n0 y bytes maxL ret b T h locs cells slots) {i : Int32} (hd : decode bytes pc = .ok (.i2c, 1)) (hp : pc + 1 = pc') (k : Goes p.tables e below P (T.setTop (mkF m pc' Ls (.int i.toUInt32.toUInt16.toUInt32.toInt32 :: st)))) : Goes p.tables e below P (T.setTop (mkF m pc Ls (.int i :: st))) := by
  subst hp
  exact go (fun t q => XT.i2c K.at K.hx rfl (hb K.hby hd) rfl q) k
theorem k_i2s (K : Wk p l e R s m args below meth c Z a0 EL n0 y bytes maxL ret b T h locs cells slots) {i : Int32} (hd : decode bytes pc = .ok (.i2s, 1)) (hp : pc + 1 = pc') (k : Goes p.tables e below P (T.setTop (mkF m pc' Ls (.int i.toInt16.toInt32 :: st)))) : Goes p.tables e below P (T.setTop (mkF m pc Ls (.int i :: st))) := by
  subst hp
  exact go (fun t q => XT.i2s K.at K.hx rfl (hb K.hby hd) rfl q) k
theorem k_iinc (K : Wk p l e R s m args below meth c Z a0 EL n0 y bytes maxL ret b T h locs cells slots) {i : Int32} {k : Nat} {ct : Int} {L' : Array Slot} (v : Int32) (hd : decode bytes pc = .ok (.iinc k ct, 3)) (hp : pc + 3 = pc') (hv : Int32.ofInt ct = v) (hl : Ls[k]? = some (.val (.int i))) (hl' : storeLocals Ls k (.int (i + v)) = some L') (k : Goes p.tables e below P (T.setTop (mkF m pc' L' st))) : Goes p.tables e below P (T.setTop (mkF m pc Ls st)) := by
  subst hp
  exact go (fun t q => XT.iincV K.at K.hx rfl v (hb K.hby hd) hv hl hl' q) k
theorem k_dup (K : Wk p l e R s m args below meth c Z a0 EL n0 y bytes maxL ret b T h locs cells slots) {v : Value} (hd : decode bytes pc = .ok (.dup, 1)) (hp : pc + 1 = pc') (hc : v.category = 1) (k : Goes p.tables e below P (T.setTop (mkF m pc' Ls (v :: v :: st)))) : Goes p.tables e below P (T.setTop (mkF m pc Ls (v :: st))) := by
  subst hp
  exact go (fun t q => XS.dup K.at K.hx rfl (hb K.hby hd) rfl hc q) k
theorem k_pop (K : Wk p l e R s m args below meth c Z a0 EL n0 y bytes maxL ret b T h locs cells slots) {v : Value} (hd : decode bytes pc = .ok (.pop, 1)) (hp : pc + 1 = pc') (hc : v.category = 1) (k : Goes p.tables e below P (T.setTop (mkF m pc' Ls st))) : Goes p.tables e below P (T.setTop (mkF m pc Ls (v :: st))) := by
  subst hp
  exact go (fun t q => XT.pop K.at K.hx rfl (hb K.hby hd) rfl hc q) k
theorem k_dup_x1 (K : Wk p l e R s m args below meth c Z a0 EL n0 y bytes maxL ret b T h locs cells slots) {v u : Value} (hd : decode bytes pc = .ok (.dup_x1, 1)) (hp : pc + 1 = pc') (hc : v.category = 1) (hc' : u.category = 1) (k : Goes p.tables e below P (T.setTop (mkF m pc' Ls (v :: u :: v :: st)))) : Goes p.tables e below P (T.setTop (mkF m pc Ls (v :: u :: st))) := by
  subst hp
  exact go (fun t q => XT.dupX1 K.at K.hx rfl (hb K.hby hd) rfl hc hc' q) k
theorem k_dup2J (K : Wk p l e R s m args below meth c Z a0 EL n0 y bytes maxL ret b T h locs cells slots) {i : Int64} (hd : decode bytes pc = .ok (.dup2, 1)) (hp : pc + 1 = pc') (k : Goes p.tables e below P (T.setTop (mkF m pc' Ls (.long i :: .long i :: st)))) : Goes p.tables e below P (T.setTop (mkF m pc Ls (.long i :: st))) := by
  subst hp
  refine go (fun t q => ?_) k
  have hd' := (hb K.hby hd)
  have hA := K.at
  have hx := K.hx
  jvm_step hA [hA.top, hx, hd', Value.category]
  exact q
theorem k_dup2II (K : Wk p l e R s m args below meth c Z a0 EL n0 y bytes maxL ret b T h locs cells slots) {i j : Int32} (hd : decode bytes pc = .ok (.dup2, 1)) (hp : pc + 1 = pc') (k : Goes p.tables e below P (T.setTop (mkF m pc' Ls (.int j :: .int i :: .int j :: .int i :: st)))) : Goes p.tables e below P (T.setTop (mkF m pc Ls (.int j :: .int i :: st))) := by
  subst hp
  refine go (fun t q => ?_) k
  have hd' := (hb K.hby hd)
  have hA := K.at
  have hx := K.hx
  jvm_step hA [hA.top, hx, hd', Value.category]
  exact q
theorem k_dup2AI (K : Wk p l e R s m args below meth c Z a0 EL n0 y bytes maxL ret b T h locs cells slots) {a : Addr} {j : Int32} (hd : decode bytes pc = .ok (.dup2, 1)) (hp : pc + 1 = pc') (k : Goes p.tables e below P (T.setTop (mkF m pc' Ls (.int j :: .ref a :: .int j :: .ref a :: st)))) : Goes p.tables e below P (T.setTop (mkF m pc Ls (.int j :: .ref a :: st))) := by
  subst hp
  refine go (fun t q => ?_) k
  have hd' := (hb K.hby hd)
  have hA := K.at
  have hx := K.hx
  jvm_step hA [hA.top, hx, hd', Value.category]
  exact q
theorem k_pop2J (K : Wk p l e R s m args below meth c Z a0 EL n0 y bytes maxL ret b T h locs cells slots) {i : Int64} (hd : decode bytes pc = .ok (.pop2, 1)) (hp : pc + 1 = pc') (k : Goes p.tables e below P (T.setTop (mkF m pc' Ls st))) : Goes p.tables e below P (T.setTop (mkF m pc Ls (.long i :: st))) := by
  subst hp
  refine go (fun t q => ?_) k
  have hd' := (hb K.hby hd)
  have hA := K.at
  have hx := K.hx
  jvm_step hA [hA.top, hx, hd', Value.category]
  exact q
theorem k_dup_x2AI (K : Wk p l e R s m args below meth c Z a0 EL n0 y bytes maxL ret b T h locs cells slots) {a : Addr} {i j : Int32} (hd : decode bytes pc = .ok (.dup_x2, 1)) (hp : pc + 1 = pc') (k : Goes p.tables e below P (T.setTop (mkF m pc' Ls (.int i :: .int j :: .ref a :: .int i :: st)))) : Goes p.tables e below P (T.setTop (mkF m pc Ls (.int i :: .int j :: .ref a :: st))) := by
  subst hp
  refine go (fun t q => ?_) k
  have hd' := (hb K.hby hd)
  have hA := K.at
  have hx := K.hx
  jvm_step hA [hA.top, hx, hd', Value.category]
  exact q
theorem k_dup2_x1JA (K : Wk p l e R s m args below meth c Z a0 EL n0 y bytes maxL ret b T h locs cells slots) {i : Int64} {a : Addr} (hd : decode bytes pc = .ok (.dup2_x1, 1)) (hp : pc + 1 = pc') (k : Goes p.tables e below P (T.setTop (mkF m pc' Ls (.long i :: .ref a :: .long i :: st)))) : Goes p.tables e below P (T.setTop (mkF m pc Ls (.long i :: .ref a :: st))) := by
  subst hp
  refine go (fun t q => ?_) k
  have hd' := (hb K.hby hd)
  have hA := K.at
  have hx := K.hx
  jvm_step hA [hA.top, hx, hd', Value.category]
  exact q
theorem k_dup2_x2JAI (K : Wk p l e R s m args below meth c Z a0 EL n0 y bytes maxL ret b T h locs cells slots) {i : Int64} {a : Addr} {j : Int32} (hd : decode bytes pc = .ok (.dup2_x2, 1)) (hp : pc + 1 = pc') (k : Goes p.tables e below P (T.setTop (mkF m pc' Ls (.long i :: .int j :: .ref a :: .long i :: st)))) : Goes p.tables e below P (T.setTop (mkF m pc Ls (.long i :: .int j :: .ref a :: st))) := by
  subst hp
  refine go (fun t q => ?_) k
  have hd' := (hb K.hby hd)
  have hA := K.at
  have hx := K.hx
  jvm_step hA [hA.top, hx, hd', Value.category]
  exact q
theorem k_goto (K : Wk p l e R s m args below meth c Z a0 EL n0 y bytes maxL ret b T h locs cells slots) {o : Int} (hd : decode bytes pc = .ok (.goto o, 3)) (ho : 0 ≤ (pc : Int) + o) (hp : ((pc : Int) + o).toNat = pc') (k : Goes p.tables e below P (T.setTop (mkF m pc' Ls st))) : Goes p.tables e below P (T.setTop (mkF m pc Ls st)) := go (fun t q => XS.goto K.at K.hx rfl rfl (hb K.hby hd) ho hp q) k
theorem k_icmp_eq (K : Wk p l e R s m args below meth c Z a0 EL n0 y bytes maxL ret b T h locs cells slots) {i j : Int32} {o : Int} {pc2 : Nat} (hd : decode bytes pc = .ok (.if_icmp .eq o, 3)) (ho : 0 ≤ (pc : Int) + o) (hp : ((pc : Int) + o).toNat = pc') (hp2 : pc + 3 = pc2) (kT : i = j → Goes p.tables e below P (T.setTop (mkF m pc' Ls st))) (kF : ¬ i = j → Goes p.tables e below P (T.setTop (mkF m pc2 Ls st))) : Goes p.tables e below P (T.setTop (mkF m pc Ls (.int j :: .int i :: st))) := by
  subst hp2
  by_cases q : i = j
  · exact go (fun t r => XS.icmpYes K.at K.hx rfl rfl (hb K.hby hd) rfl (XT.ii_eq_t q) ho hp r) (kT q)
  · exact go (fun t r => XS.icmpNo K.at K.hx rfl (hb K.hby hd) rfl (XT.ii_eq_f q) r) (kF q)
theorem k_if_eq (K : Wk p l e R s m args below meth c Z a0 EL n0 y bytes maxL ret b T h locs cells slots) {i : Int32} {o : Int} {pc2 : Nat} (hd : decode bytes pc = .ok (.ifCond .eq o, 3)) (ho : 0 ≤ (pc : Int) + o) (hp : ((pc : Int) + o).toNat = pc') (hp2 : pc + 3 = pc2) (kT : i = 0 → Goes p.tables e below P (T.setTop (mkF m pc' Ls st))) (kF : ¬ i = 0 → Goes p.tables e below P (T.setTop (mkF m pc2 Ls st))) : Goes p.tables e below P (T.setTop (mkF m pc Ls (.int i :: st))) := by
  subst hp2
  by_cases q : i = 0
  · exact go (fun t r => XS.ifYes K.at K.hx rfl rfl (hb K.hby hd) rfl (XT.i0_eq_t q) ho hp r) (kT q)
  · exact go (fun t r => XS.ifNo K.at K.hx rfl (hb K.hby hd) rfl (XT.i0_eq_f q) r) (kF q)
theorem k_lif_eq (K : Wk p l e R s m args below meth c Z a0 EL n0 y bytes maxL ret b T h locs cells slots) {i j : Int64} {o : Int} {pc2 : Nat} (hd : decode bytes pc = .ok (.ifCond .eq o, 3)) (ho : 0 ≤ (pc : Int) + o) (hp : ((pc : Int) + o).toNat = pc') (hp2 : pc + 3 = pc2) (kT : i = j → Goes p.tables e below P (T.setTop (mkF m pc' Ls st))) (kF : ¬ i = j → Goes p.tables e below P (T.setTop (mkF m pc2 Ls st))) : Goes p.tables e below P (T.setTop (mkF m pc Ls (.int (XT.cmpL i j) :: st))) := by
  subst hp2
  by_cases q : i = j
  · exact go (fun t r => XS.ifYes K.at K.hx rfl rfl (hb K.hby hd) rfl (XT.ll_eq_t q) ho hp r) (kT q)
  · exact go (fun t r => XS.ifNo K.at K.hx rfl (hb K.hby hd) rfl (XT.ll_eq_f q) r) (kF q)
theorem k_icmp_ne (K : Wk p l e R s m args below meth c Z a0 EL n0 y bytes maxL ret b T h locs cells slots) {i j : Int32} {o : Int} {pc2 : Nat} (hd : decode bytes pc = .ok (.if_icmp .ne o, 3)) (ho : 0 ≤ (pc : Int) + o) (hp : ((pc : Int) + o).toNat = pc') (hp2 : pc + 3 = pc2) (kT : ¬ i = j → Goes p.tables e below P (T.setTop (mkF m pc' Ls st))) (kF : i = j → Goes p.tables e below P (T.setTop (mkF m pc2 Ls st))) : Goes p.tables e below P (T.setTop (mkF m pc Ls (.int j :: .int i :: st))) := by
  subst hp2
  by_cases q : ¬ i = j
  · exact go (fun t r => XS.icmpYes K.at K.hx rfl rfl (hb K.hby hd) rfl (XT.ii_ne_t q) ho hp r) (kT q)
  · exact go (fun t r => XS.icmpNo K.at K.hx rfl (hb K.hby hd) rfl (XT.ii_ne_f (Classical.not_not.mp q)) r) (kF (Classical.not_not.mp q))
theorem k_if_ne (K : Wk p l e R s m args below meth c Z a0 EL n0 y bytes maxL ret b T h locs cells slots) {i : Int32} {o : Int} {pc2 : Nat} (hd : decode bytes pc = .ok (.ifCond .ne o, 3)) (ho : 0 ≤ (pc : Int) + o) (hp : ((pc : Int) + o).toNat = pc') (hp2 : pc + 3 = pc2) (kT : ¬ i = 0 → Goes p.tables e below P (T.setTop (mkF m pc' Ls st))) (kF : i = 0 → Goes p.tables e below P (T.setTop (mkF m pc2 Ls st))) : Goes p.tables e below P (T.setTop (mkF m pc Ls (.int i :: st))) := by
  subst hp2
  by_cases q : ¬ i = 0
  · exact go (fun t r => XS.ifYes K.at K.hx rfl rfl (hb K.hby hd) rfl (XT.i0_ne_t q) ho hp r) (kT q)
  · exact go (fun t r => XS.ifNo K.at K.hx rfl (hb K.hby hd) rfl (XT.i0_ne_f (Classical.not_not.mp q)) r) (kF (Classical.not_not.mp q))
theorem k_lif_ne (K : Wk p l e R s m args below meth c Z a0 EL n0 y bytes maxL ret b T h locs cells slots) {i j : Int64} {o : Int} {pc2 : Nat} (hd : decode bytes pc = .ok (.ifCond .ne o, 3)) (ho : 0 ≤ (pc : Int) + o) (hp : ((pc : Int) + o).toNat = pc') (hp2 : pc + 3 = pc2) (kT : ¬ i = j → Goes p.tables e below P (T.setTop (mkF m pc' Ls st))) (kF : i = j → Goes p.tables e below P (T.setTop (mkF m pc2 Ls st))) : Goes p.tables e below P (T.setTop (mkF m pc Ls (.int (XT.cmpL i j) :: st))) := by
  subst hp2
  by_cases q : ¬ i = j
  · exact go (fun t r => XS.ifYes K.at K.hx rfl rfl (hb K.hby hd) rfl (XT.ll_ne_t q) ho hp r) (kT q)
  · exact go (fun t r => XS.ifNo K.at K.hx rfl (hb K.hby hd) rfl (XT.ll_ne_f (Classical.not_not.mp q)) r) (kF (Classical.not_not.mp q))
theorem k_icmp_lt (K : Wk p l e R s m args below meth c Z a0 EL n0 y bytes maxL ret b T h locs cells slots) {i j : Int32} {o : Int} {pc2 : Nat} (hd : decode bytes pc = .ok (.if_icmp .lt o, 3)) (ho : 0 ≤ (pc : Int) + o) (hp : ((pc : Int) + o).toNat = pc') (hp2 : pc + 3 = pc2) (kT : i < j → Goes p.tables e below P (T.setTop (mkF m pc' Ls st))) (kF : ¬ i < j → Goes p.tables e below P (T.setTop (mkF m pc2 Ls st))) : Goes p.tables e below P (T.setTop (mkF m pc Ls (.int j :: .int i :: st))) := by
  subst hp2
  by_cases q : i < j
  · exact go (fun t r => XS.icmpYes K.at K.hx rfl rfl (hb K.hby hd) rfl (XT.ii_lt_t q) ho hp r) (kT q)
  · exact go (fun t r => XS.icmpNo K.at K.hx rfl (hb K.hby hd) rfl (XT.ii_lt_f q) r) (kF q)
theorem k_if_lt (K : Wk p l e R s m args below meth c Z a0 EL n0 y bytes maxL ret b T h locs cells slots) {i : Int32} {o : Int} {pc2 : Nat} (hd : decode bytes pc = .ok (.ifCond .lt o, 3)) (ho : 0 ≤ (pc : Int) + o) (hp : ((pc : Int) + o).toNat = pc') (hp2 : pc + 3 = pc2) (kT : i < 0 → Goes p.tables e below P (T.setTop (mkF m pc' Ls st))) (kF : ¬ i < 0 → Goes p.tables e below P (T.setTop (mkF m pc2 Ls st))) : Goes p.tables e below P (T.setTop (mkF m pc Ls (.int i :: st))) := by
  subst hp2
  by_cases q : i < 0
  · exact go (fun t r => XS.ifYes K.at K.hx rfl rfl (hb K.hby hd) rfl (XT.i0_lt_t q) ho hp r) (kT q)
  · exact go (fun t r => XS.ifNo K.at K.hx rfl (hb K.hby hd) rfl (XT.i0_lt_f q) r) (kF q)
theorem k_lif_lt (K : Wk p l e R s m args below meth c Z a0 EL n0 y bytes maxL ret b T h locs cells slots) {i j : Int64} {o : Int} {pc2 : Nat} (hd : decode bytes pc = .ok (.ifCond .lt o, 3)) (ho : 0 ≤ (pc : Int) + o) (hp : ((pc : Int) + o).toNat = pc') (hp2 : pc + 3 = pc2) (kT : i < j → Goes p.tables e below P (T.setTop (mkF m pc' Ls st))) (kF : ¬ i < j → Goes p.tables e below P (T.setTop (mkF m pc2 Ls st))) : Goes p.tables e below P (T.setTop (mkF m pc Ls (.int (XT.cmpL i j) :: st))) := by
  subst hp2
  by_cases q : i < j
  · exact go (fun t r => XS.ifYes K.at K.hx rfl rfl (hb K.hby hd) rfl (XT.ll_lt_t q) ho hp r) (kT q)
  · exact go (fun t r => XS.ifNo K.at K.hx rfl (hb K.hby hd) rfl (XT.ll_lt_f q) r) (kF q)
theorem k_icmp_ge (K : Wk p l e R s m args below meth c Z a0 EL n0 y bytes maxL ret b T h locs cells slots) {i j : Int32} {o : Int} {pc2 : Nat} (hd : decode bytes pc = .ok (.if_icmp .ge o, 3)) (ho : 0 ≤ (pc : Int) + o) (hp : ((pc : Int) + o).toNat = pc') (hp2 : pc + 3 = pc2) (kT : ¬ i < j → Goes p.tables e below P (T.setTop (mkF m pc' Ls st))) (kF : i < j → Goes p.tables e below P (T.setTop (mkF m pc2 Ls st))) : Goes p.tables e below P (T.setTop (mkF m pc Ls (.int j :: .int i :: st))) := by
  subst hp2
  by_cases q : ¬ i < j
  · exact go (fun t r => XS.icmpYes K.at K.hx rfl rfl (hb K.hby hd) rfl (XT.ii_ge_t q) ho hp r) (kT q)
  · exact go (fun t r => XS.icmpNo K.at K.hx rfl (hb K.hby hd) rfl (XT.ii_ge_f (Classical.not_not.mp q)) r) (kF (Classical.not_not.mp q))
theorem k_if_ge (K : Wk p l e R s m args below meth c Z a0 EL n0 y bytes maxL ret b T h locs cells slots) {i : Int32} {o : Int} {pc2 : Nat} (hd : decode bytes pc = .ok (.ifCond .ge o, 3)) (ho : 0 ≤ (pc : Int) + o) (hp : ((pc : Int) + o).toNat = pc') (hp2 : pc + 3 = pc2) (kT : ¬ i < 0 → Goes p.tables e below P (T.setTop (mkF m pc' Ls st))) (kF : i < 0 → Goes p.tables e below P (T.setTop (mkF m pc2 Ls st))) : Goes p.tables e below P (T.setTop (mkF m pc Ls (.int i :: st))) := by
  subst hp2
  by_cases q : ¬ i < 0
  · exact go (fun t r => XS.ifYes K.at K.hx rfl rfl (hb K.hby hd) rfl (XT.i0_ge_t q) ho hp r) (kT q)
  · exact go (fun t r => XS.ifNo K.at K.hx rfl (hb K.hby hd) rfl (XT.i0_ge_f (Classical.not_not.mp q)) r) (kF (Classical.not_not.mp q))
theorem k_lif_ge (K : Wk p l e R s m args below meth c Z a0 EL n0 y bytes maxL ret b T h locs cells slots) {i j : Int64} {o : Int} {pc2 : Nat} (hd : decode bytes pc = .ok (.ifCond .ge o, 3)) (ho : 0 ≤ (pc : Int) + o) (hp : ((pc : Int) + o).toNat = pc') (hp2 : pc + 3 = pc2) (kT : ¬ i < j → Goes p.tables e below P (T.setTop (mkF m pc' Ls st))) (kF : i < j → Goes p.tables e below P (T.setTop (mkF m pc2 Ls st))) : Goes p.tables e below P (T.setTop (mkF m pc Ls (.int (XT.cmpL i j) :: st))) := by
  subst hp2
  by_cases q : ¬ i < j
  · exact go (fun t r => XS.ifYes K.at K.hx rfl rfl (hb K.hby hd) rfl (XT.ll_ge_t q) ho hp r) (kT q)
  · exact go (fun t r => XS.ifNo K.at K.hx rfl (hb K.hby hd) rfl (XT.ll_ge_f (Classical.not_not.mp q)) r) (kF (Classical.not_not.mp q))
theorem k_icmp_gt (K : Wk p l e R s m args below meth c Z a0 EL n0 y bytes maxL ret b T h locs cells slots) {i j : Int32} {o : Int} {pc2 : Nat} (hd : decode bytes pc = .ok (.if_icmp .gt o, 3)) (ho : 0 ≤ (pc : Int) + o) (hp : ((pc : Int) + o).toNat = pc') (hp2 : pc + 3 = pc2) (kT : j < i → Goes p.tables e below P (T.setTop (mkF m pc' Ls st))) (kF : ¬ j < i → Goes p.tables e below P (T.setTop (mkF m pc2 Ls st))) : Goes p.tables e below P (T.setTop (mkF m pc Ls (.int j :: .int i :: st))) := by
  subst hp2
  by_cases q : j < i
  · exact go (fun t r => XS.icmpYes K.at K.hx rfl rfl (hb K.hby hd) rfl (XT.ii_gt_t q) ho hp r) (kT q)
  · exact go (fun t r => XS.icmpNo K.at K.hx rfl (hb K.hby hd) rfl (XT.ii_gt_f q) r) (kF q)
theorem k_if_gt (K : Wk p l e R s m args below meth c Z a0 EL n0 y bytes maxL ret b T h locs cells slots) {i : Int32} {o : Int} {pc2 : Nat} (hd : decode bytes pc = .ok (.ifCond .gt o, 3)) (ho : 0 ≤ (pc : Int) + o) (hp : ((pc : Int) + o).toNat = pc') (hp2 : pc + 3 = pc2) (kT : 0 < i → Goes p.tables e below P (T.setTop (mkF m pc' Ls st))) (kF : ¬ 0 < i → Goes p.tables e below P (T.setTop (mkF m pc2 Ls st))) : Goes p.tables e below P (T.setTop (mkF m pc Ls (.int i :: st))) := by
  subst hp2
  by_cases q : 0 < i
  · exact go (fun t r => XS.ifYes K.at K.hx rfl rfl (hb K.hby hd) rfl (XT.i0_gt_t q) ho hp r) (kT q)
  · exact go (fun t r => XS.ifNo K.at K.hx rfl (hb K.hby hd) rfl (XT.i0_gt_f q) r) (kF q)
theorem k_lif_gt (K : Wk p l e R s m args below meth c Z a0 EL n0 y bytes maxL ret b T h locs cells slots) {i j : Int64} {o : Int} {pc2 : Nat} (hd : decode bytes pc = .ok (.ifCond .gt o, 3)) (ho : 0 ≤ (pc : Int) + o) (hp : ((pc : Int) + o).toNat = pc') (hp2 : pc + 3 = pc2) (kT : j < i → Goes p.tables e below P (T.setTop (mkF m pc' Ls st))) (kF : ¬ j < i → Goes p.tables e below P (T.setTop (mkF m pc2 Ls st))) : Goes p.tables e below P (T.setTop (mkF m pc Ls (.int (XT.cmpL i j) :: st))) := by
  subst hp2
  by_cases q : j < i
  · exact go (fun t r => XS.ifYes K.at K.hx rfl rfl (hb K.hby hd) rfl (XT.ll_gt_t q) ho hp r) (kT q)
  · exact go (fun t r => XS.ifNo K.at K.hx rfl (hb K.hby hd) rfl (XT.ll_gt_f q) r) (kF q)
theorem k_icmp_le (K : Wk p l e R s m args below meth c Z a0 EL n0 y bytes maxL ret b T h locs cells slots) {i j : Int32} {o : Int} {pc2 : Nat} (hd : decode bytes pc = .ok (.if_icmp .le o, 3)) (ho : 0 ≤ (pc : Int) + o) (hp : ((pc : Int) + o).toNat = pc') (hp2 : pc + 3 = pc2) (kT : ¬ j < i → Goes p.tables e below P (T.setTop (mkF m pc' Ls st))) (kF : j < i → Goes p.tables e below P (T.setTop (mkF m pc2 Ls st))) : Goes p.tables e below P (T.setTop (mkF m pc Ls (.int j :: .int i :: st))) := by
  subst hp2
  by_cases q : ¬ j < i
  · exact go (fun t r => XS.icmpYes K.at K.hx rfl rfl (hb K.hby hd) rfl (XT.ii_le_t q) ho hp r) (kT q)
  · exact go (fun t r => XS.icmpNo K.at K.hx rfl (hb K.hby hd) rfl (XT.ii_le_f (Classical.not_not.mp q)) r) (kF (Classical.not_not.mp q))
theorem k_if_le (K : Wk p l e R s m args below meth c Z a0 EL n0 y bytes maxL ret b T h locs cells slots) {i : Int32} {o : Int} {pc2 : Nat} (hd : decode bytes pc = .ok (.ifCond .le o, 3)) (ho : 0 ≤ (pc : Int) + o) (hp : ((pc : Int) + o).toNat = pc') (hp2 : pc + 3 = pc2) (kT : ¬ 0 < i → Goes p.tables e below P (T.setTop (mkF m pc' Ls st))) (kF : 0 < i → Goes p.tables e below P (T.setTop (mkF m pc2 Ls st))) : Goes p.tables e below P (T.setTop (mkF m pc Ls (.int i :: st))) := by
  subst hp2
  by_cases q : ¬ 0 < i
  · exact go (fun t r => XS.ifYes K.at K.hx rfl rfl (hb K.hby hd) rfl (XT.i0_le_t q) ho hp r) (kT q)
  · exact go (fun t r => XS.ifNo K.at K.hx rfl (hb K.hby hd) rfl (XT.i0_le_f (Classical.not_not.mp q)) r) (kF (Classical.not_not.mp q))
theorem k_lif_le (K : Wk p l e R s m args below meth c Z a0 EL n0 y bytes maxL ret b T h locs cells slots) {i j : Int64} {o : Int} {pc2 : Nat} (hd : decode bytes pc = .ok (.ifCond .le o, 3)) (ho : 0 ≤ (pc : Int) + o) (hp : ((pc : Int) + o).toNat = pc') (hp2 : pc + 3 = pc2) (kT : ¬ j < i → Goes p.tables e below P (T.setTop (mkF m pc' Ls st))) (kF : j < i → Goes p.tables e below P (T.setTop (mkF m pc2 Ls st))) : Goes p.tables e below P (T.setTop (mkF m pc Ls (.int (XT.cmpL i j) :: st))) := by
  subst hp2
  by_cases q : ¬ j < i
  · exact go (fun t r => XS.ifYes K.at K.hx rfl rfl (hb K.hby hd) rfl (XT.ll_le_t q) ho hp r) (kT q)
  · exact go (fun t r => XS.ifNo K.at K.hx rfl (hb K.hby hd) rfl (XT.ll_le_f (Classical.not_not.mp q)) r) (kF (Classical.not_not.mp q))
theorem k_acmp_eq (K : Wk p l e R s m args below meth c Z a0 EL n0 y bytes maxL ret b T h locs cells slots) {u v : Value} (hu : u.isRef = true) (hv : v.isRef = true) {o : Int} {pc2 : Nat} (hd : decode bytes pc = .ok (.if_acmp .eq o, 3)) (ho : 0 ≤ (pc : Int) + o) (hp : ((pc : Int) + o).toNat = pc') (hp2 : pc + 3 = pc2) (kE : u = v → Goes p.tables e below P (T.setTop (mkF m pc' Ls st))) (kN : ¬ u = v → Goes p.tables e below P (T.setTop (mkF m pc2 Ls st))) : Goes p.tables e below P (T.setTop (mkF m pc Ls (v :: u :: st))) := by
  subst hp2 hp
  by_cases q : u = v
  · exact go (fun t r => Jvm.RoadKit.acmp (g := mkF m pc Ls (v :: u :: st)) K.X K.hx rfl hu hv (pc0 := pc) (same := true) rfl (hb K.hby hd) rfl (decide_eq_true q) ho rfl r) (kE q)
  · exact go (fun t r => Jvm.RoadKit.acmp (g := mkF m pc Ls (v :: u :: st)) K.X K.hx rfl hu hv (pc0 := pc) (same := false) rfl (hb K.hby hd) rfl (decide_eq_false q) ho rfl r) (kN q)
theorem k_acmp_ne (K : Wk p l e R s m args below meth c Z a0 EL n0 y bytes maxL ret b T h locs cells slots) {u v : Value} (hu : u.isRef = true) (hv : v.isRef = true) {o : Int} {pc2 : Nat} (hd : decode bytes pc = .ok (.if_acmp .ne o, 3)) (ho : 0 ≤ (pc : Int) + o) (hp : ((pc : Int) + o).toNat = pc') (hp2 : pc + 3 = pc2) (kE : u = v → Goes p.tables e below P (T.setTop (mkF m pc2 Ls st))) (kN : ¬ u = v → Goes p.tables e below P (T.setTop (mkF m pc' Ls st))) : Goes p.tables e below P (T.setTop (mkF m pc Ls (v :: u :: st))) := by
  subst hp2 hp
  by_cases q : u = v
  · exact go (fun t r => Jvm.RoadKit.acmp (g := mkF m pc Ls (v :: u :: st)) K.X K.hx rfl hu hv (pc0 := pc) (same := true) rfl (hb K.hby hd) rfl (decide_eq_true q) ho rfl r) (kE q)
  · exact go (fun t r => Jvm.RoadKit.acmp (g := mkF m pc Ls (v :: u :: st)) K.X K.hx rfl hu hv (pc0 := pc) (same := false) rfl (hb K.hby hd) rfl (decide_eq_false q) ho rfl r) (kN q)
theorem k_ifnull (K : Wk p l e R s m args below meth c Z a0 EL n0 y bytes maxL ret b T h locs cells slots) {v : Value} (hv : v.isRef = true) {o : Int} {pc2 : Nat} (hd : decode bytes pc = .ok (.ifnull o, 3)) (ho : 0 ≤ (pc : Int) + o) (hp : ((pc : Int) + o).toNat = pc') (hp2 : pc + 3 = pc2) (kT : v = .null → Goes p.tables e below P (T.setTop (mkF m pc' Ls st))) (kF : ¬ v = .null → Goes p.tables e below P (T.setTop (mkF m pc2 Ls st))) : Goes p.tables e below P (T.setTop (mkF m pc Ls (v :: st))) := by
  subst hp2
  by_cases qn : v = .null
  · exact go (fun t r => XT.nullYes K.at K.hx rfl rfl (hb K.hby hd) rfl qn ho hp r) (kT qn)
  · exact go (fun t r => XT.nullNo K.at K.hx rfl (hb K.hby hd) rfl hv qn r) (kF qn)
theorem k_ifnonnull (K : Wk p l e R s m args below meth c Z a0 EL n0 y bytes maxL ret b T h locs cells slots) {v : Value} (hv : v.isRef = true) {o : Int} {pc2 : Nat} (hd : decode bytes pc = .ok (.ifnonnull o, 3)) (ho : 0 ≤ (pc : Int) + o) (hp : ((pc : Int) + o).toNat = pc') (hp2 : pc + 3 = pc2) (kT : ¬ v = .null → Goes p.tables e below P (T.setTop (mkF m pc' Ls st))) (kF : v = .null → Goes p.tables e below P (T.setTop (mkF m pc2 Ls st))) : Goes p.tables e below P (T.setTop (mkF m pc Ls (v :: st))) := by
  subst hp2
  by_cases qn : v = .null
  · exact go (fun t r => XT.nonnullNo K.at K.hx rfl (hb K.hby hd) rfl qn r) (kF qn)
  · exact go (fun t r => XT.nonnullYes K.at K.hx rfl rfl (hb K.hby hd) rfl hv qn ho hp r) (kT qn)
theorem k_getF (K : Wk p l e R s m args below meth c Z a0 EL n0 y bytes maxL ret b T h locs cells slots) {R0 O n d : String} {i : Nat} {a : Addr} {v : Value} (wd : (Cond.fieldLink y.cls i R0 n d).before a0 Z = true) (via : Via Z R0 O n d) (F : Fld Z h a O n d v) (hd : decode bytes pc = .ok (.getfield i, 3)) (hp : pc + 3 = pc') (k : ∀ T', Wk p l e R s m args below meth c Z a0 EL n0 y bytes maxL ret b T' h locs cells slots → Goes p.tables e below P (T'.setTop (mkF m pc' Ls (v :: st)))) : Goes p.tables e below P (T.setTop (mkF m pc Ls (.ref a :: st))) := by
  subst hp
  obtain ⟨T', X', e', q⟩ := Jvm.RoadKit.getF K.X K.hx K.hZ (host := "") K.hown (Or.inl wd) via K.eT F (g := mkF m pc Ls (.ref a :: st)) rfl rfl (hb K.hby hd)
  exact go q (k T' (K.move X' e' K.fr K.old K.bs))
theorem k_getFN (K : Wk p l e R s m args below meth c Z a0 EL n0 y bytes maxL ret b T h locs cells slots) {R0 O n d host : String} {i : Nat} {a : Addr} {v : Value} (wd : (Cond.fieldLinkNest y.cls i R0 n d host).before a0 Z = true) (via : Via Z R0 O n d) (F : Fld Z h a O n d v) (hd : decode bytes pc = .ok (.getfield i, 3)) (hp : pc + 3 = pc') (k : ∀ T', Wk p l e R s m args below meth c Z a0 EL n0 y bytes maxL ret b T' h locs cells slots → Goes p.tables e below P (T'.setTop (mkF m pc' Ls (v :: st)))) : Goes p.tables e below P (T.setTop (mkF m pc Ls (.ref a :: st))) := by
  subst hp
  obtain ⟨T', X', e', q⟩ := Jvm.RoadKit.getF K.X K.hx K.hZ K.hown (Or.inr wd) via K.eT F (g := mkF m pc Ls (.ref a :: st)) rfl rfl (hb K.hby hd)
  exact go q (k T' (K.move X' e' K.fr K.old K.bs))
theorem k_getS (K : Wk p l e R s m args below meth c Z a0 EL n0 y bytes maxL ret b T h locs cells slots) {R0 O n d : String} {i : Nat} {v : Value} (wd : (Cond.fieldLink y.cls i R0 n d).before a0 Z = true) (via : Via Z R0 O n d) (F : Sta Z Z.heap O n d v) (hd : decode bytes pc = .ok (.getstatic i, 3)) (hp : pc + 3 = pc') (k : ∀ T', Wk p l e R s m args below meth c Z a0 EL n0 y bytes maxL ret b T' h locs cells slots → Goes p.tables e below P (T'.setTop (mkF m pc' Ls (v :: st)))) : Goes p.tables e below P (T.setTop (mkF m pc Ls st)) := by
  subst hp
  obtain ⟨T', X', e', q⟩ := getS2 K.X K.hx K.hZ K.hown (host := "") (Or.inl wd) via K.eT (F.ext K.old.2) (g := mkF m pc Ls st) rfl (hb K.hby hd)
  exact go q (k T' (K.move X' e' K.fr K.old K.bs))
theorem k_getSN (K : Wk p l e R s m args below meth c Z a0 EL n0 y bytes maxL ret b T h locs cells slots) {R0 O n d host : String} {i : Nat} {v : Value} (wd : (Cond.fieldLinkNest y.cls i R0 n d host).before a0 Z = true) (via : Via Z R0 O n d) (F : Sta Z Z.heap O n d v) (hd : decode bytes pc = .ok (.getstatic i, 3)) (hp : pc + 3 = pc') (k : ∀ T', Wk p l e R s m args below meth c Z a0 EL n0 y bytes maxL ret b T' h locs cells slots → Goes p.tables e below P (T'.setTop (mkF m pc' Ls (v :: st)))) : Goes p.tables e below P (T.setTop (mkF m pc Ls st)) := by
  subst hp
  obtain ⟨T', X', e', q⟩ := getS2 K.X K.hx K.hZ K.hown (Or.inr wd) via K.eT (F.ext K.old.2) (g := mkF m pc Ls st) rfl (hb K.hby hd)
  exact go q (k T' (K.move X' e' K.fr K.old K.bs))
theorem k_castY (K : Wk p l e R s m args below meth c Z a0 EL n0 y bytes maxL ret b T h locs cells slots) {C : String} {i : Nat} {a : Addr} (wd : (Cond.classLink y.cls i C).before a0 Z = true) (F : Ins Z h a C true) (hd : decode bytes pc = .ok (.checkcast i, 3)) (hp : pc + 3 = pc') (k : ∀ T', Wk p l e R s m args below meth c Z a0 EL n0 y bytes maxL ret b T' h locs cells slots → Goes p.tables e below P (T'.setTop (mkF m pc' Ls (.ref a :: st)))) : Goes p.tables e below P (T.setTop (mkF m pc Ls (.ref a :: st))) := by
  subst hp
  obtain ⟨T', X', e', q⟩ := castY K.X K.hx K.hZ K.hown wd K.eT F (g := mkF m pc Ls (.ref a :: st)) rfl rfl (hb K.hby hd)
  exact go q (k T' (K.move X' e' K.fr K.old K.bs))
theorem k_instY (K : Wk p l e R s m args below meth c Z a0 EL n0 y bytes maxL ret b T h locs cells slots) {C : String} {i : Nat} {a : Addr} (wd : (Cond.classLink y.cls i C).before a0 Z = true) (F : Ins Z h a C true) (hd : decode bytes pc = .ok (.instanceof i, 3)) (hp : pc + 3 = pc') (k : ∀ T', Wk p l e R s m args below meth c Z a0 EL n0 y bytes maxL ret b T' h locs cells slots → Goes p.tables e below P (T'.setTop (mkF m pc' Ls (.int 1 :: st)))) : Goes p.tables e below P (T.setTop (mkF m pc Ls (.ref a :: st))) := by
  subst hp
  obtain ⟨T', X', e', q⟩ := instY K.X K.hx K.hZ K.hown wd K.eT F (g := mkF m pc Ls (.ref a :: st)) rfl rfl (hb K.hby hd)
  exact go q (k T' (K.move X' e' K.fr K.old K.bs))
theorem instN_at (X : Stand p l e R s m args below meth c T locs cells slots) (hx : p.tables.exec = Jvm.exec) (hZ : Z.Warmed39 s.vm) {own C D : String} {index : Nat} (hown : s.vm.findClass own = some m.cls) (w : (Cond.classLink own index C).before a0 Z = true) (eT : T.heap = h) {a : Addr} (F : Ins Z h a C false) (E : Exa Z h a D)
    {g : JFrame} (hg : g.method = m) {rest : List Value} (hs : g.stack = .ref a :: rest) (hd : decode c.code g.pc = .ok (.instanceof index, 3)) : ∃ T', Stand p l e R s m args below meth c T' locs cells slots ∧ T'.heap = h ∧ ∀ target, Steps p.tables e below (T'.setTop { g with pc := g.pc + 3, stack := .int 0 :: rest }) target → Steps p.tables e below (T.setTop g) target := by
  obtain ⟨cell, cT, h1, h2, h3⟩ := F
  obtain ⟨cell', k, e1, -, e3, e4, -⟩ := E
  cases h1.symm.trans e1
  obtain ⟨k', q, -⟩ := hZ.alike.2.2 _ _ e3
  obtain ⟨vm', X', st⟩ := Jvm.Sym.instanceofNoAt X hx hown (mvT hZ w) (by rw [eT]; exact h1) e4 q (by rw [hZ.alike.findClass]; exact h2) (by rw [hZ.alike.assignable]; simpa [e4] using h3) hg hs hd
  exact ⟨_, X', eT, st⟩
theorem k_instN (K : Wk p l e R s m args below meth c Z a0 EL n0 y bytes maxL ret b T h locs cells slots) {C D : String} {i : Nat} {a : Addr} (wd : (Cond.classLink y.cls i C).before a0 Z = true) (F : Ins Z h a C false) (E : Exa Z h a D) (hd : decode bytes pc = .ok (.instanceof i, 3)) (hp : pc + 3 = pc') (k : ∀ T', Wk p l e R s m args below meth c Z a0 EL n0 y bytes maxL ret b T' h locs cells slots → Goes p.tables e below P (T'.setTop (mkF m pc' Ls (.int 0 :: st)))) : Goes p.tables e below P (T.setTop (mkF m pc Ls (.ref a :: st))) := by
  subst hp
  obtain ⟨T', X', e', q⟩ := instN_at K.X K.hx K.hZ K.hown wd K.eT F E (g := mkF m pc Ls (.ref a :: st)) rfl rfl (hb K.hby hd)
  exact go q (k T' (K.move X' e' K.fr K.old K.bs))
theorem k_instNull (K : Wk p l e R s m args below meth c Z a0 EL n0 y bytes maxL ret b T h locs cells slots) {i : Nat} (hd : decode bytes pc = .ok (.instanceof i, 3)) (hp : pc + 3 = pc') (k : Goes p.tables e below P (T.setTop (mkF m pc' Ls (.int 0 :: st)))) : Goes p.tables e below P (T.setTop (mkF m pc Ls (.null :: st))) := by
  subst hp
  exact go (fun t q => K.X.instanceofNull K.hx (g := mkF m pc Ls (.null :: st)) rfl rfl (hb K.hby hd) _ q) k
theorem k_castNull (K : Wk p l e R s m args below meth c Z a0 EL n0 y bytes maxL ret b T h locs cells slots) {i : Nat} (hd : decode bytes pc = .ok (.checkcast i, 3)) (hp : pc + 3 = pc') (k : Goes p.tables e below P (T.setTop (mkF m pc' Ls (.null :: st)))) : Goes p.tables e below P (T.setTop (mkF m pc Ls (.null :: st))) := by
  subst hp
  exact go (fun t q => K.X.checkcastNull K.hx (g := mkF m pc Ls (.null :: st)) rfl rfl (hb K.hby hd) _ q) k
theorem k_iaload (K : Wk p l e R s m args below meth c Z a0 EL n0 y bytes maxL ret b T h locs cells slots) {a : Addr} {kk : ClassId} {z j : Int32} {vs : List Value} {dv : Value} {v : Int32} (F : Arv Z h a kk .int z vs dv) (hj : ¬ j < 0 ∧ j < z) (hv : vs.getD j.toNatClampNeg dv = .int v) (hd : decode bytes pc = .ok (.iaload, 1)) (hp : pc + 1 = pc') (k : Goes p.tables e below P (T.setTop (mkF m pc' Ls (.int v :: st)))) : Goes p.tables e below P (T.setTop (mkF m pc Ls (.int j :: .ref a :: st))) := by
  subst hp
  obtain ⟨cl, Ar, -, S, -, H, -⟩ := F
  exact go (fun t q => K.X.iaload K.hx (j := j) (v := .int v) (by rw [K.eT]; exact Ar.1) (State.isArrayOf_alike K.hZ.alike Ar.2.1) Ar.2.2 (inb_of S hj) (H.at (inb_of S hj) hv) (g := mkF m pc Ls (.int j :: .ref a :: st)) rfl rfl (hb K.hby hd) _ q) k
theorem k_caload (K : Wk p l e R s m args below meth c Z a0 EL n0 y bytes maxL ret b T h locs cells slots) {a : Addr} {kk : ClassId} {z j : Int32} {vs : List Value} {dv : Value} {v : Int32} (F : Arv Z h a kk .char z vs dv) (hj : ¬ j < 0 ∧ j < z) (hv : vs.getD j.toNatClampNeg dv = .int v) (hd : decode bytes pc = .ok (.caload, 1)) (hp : pc + 1 = pc') (k : Goes p.tables e below P (T.setTop (mkF m pc' Ls (.int v :: st)))) : Goes p.tables e below P (T.setTop (mkF m pc Ls (.int j :: .ref a :: st))) := by
  subst hp
  obtain ⟨cl, Ar, -, S, -, H, -⟩ := F
  exact go (fun t q => K.X.caload K.hx (j := j) (v := .int v) (by rw [K.eT]; exact Ar.1) (State.isArrayOf_alike K.hZ.alike Ar.2.1) Ar.2.2 (inb_of S hj) (H.at (inb_of S hj) hv) (g := mkF m pc Ls (.int j :: .ref a :: st)) rfl rfl (hb K.hby hd) _ q) k
theorem k_baload (K : Wk p l e R s m args below meth c Z a0 EL n0 y bytes maxL ret b T h locs cells slots) {a : Addr} {kk : ClassId} {z j : Int32} {vs : List Value} {dv : Value} {v : Int32} (F : Arv Z h a kk .byte z vs dv) (hj : ¬ j < 0 ∧ j < z) (hv : vs.getD j.toNatClampNeg dv = .int v) (hd : decode bytes pc = .ok (.baload, 1)) (hp : pc + 1 = pc') (k : Goes p.tables e below P (T.setTop (mkF m pc' Ls (.int v :: st)))) : Goes p.tables e below P (T.setTop (mkF m pc Ls (.int j :: .ref a :: st))) := by
  subst hp
  obtain ⟨cl, Ar, -, S, -, H, -⟩ := F
  exact go (fun t q => K.X.baloadBytes K.hx (j := j) (v := .int v) (by rw [K.eT]; exact Ar.1) (State.isArrayOf_alike K.hZ.alike Ar.2.1) Ar.2.2 (inb_of S hj) (H.at (inb_of S hj) hv) (g := mkF m pc Ls (.int j :: .ref a :: st)) rfl rfl (hb K.hby hd) _ q) k
theorem k_laload (K : Wk p l e R s m args below meth c Z a0 EL n0 y bytes maxL ret b T h locs cells slots) {a : Addr} {kk : ClassId} {z j : Int32} {vs : List Value} {dv : Value} {v : Int64} (F : Arv Z h a kk .long z vs dv) (hj : ¬ j < 0 ∧ j < z) (hv : vs.getD j.toNatClampNeg dv = .long v) (hd : decode bytes pc = .ok (.laload, 1)) (hp : pc + 1 = pc') (k : Goes p.tables e below P (T.setTop (mkF m pc' Ls (.long v :: st)))) : Goes p.tables e below P (T.setTop (mkF m pc Ls (.int j :: .ref a :: st))) := by
  subst hp
  obtain ⟨cl, Ar, -, S, -, H, -⟩ := F
  exact go (fun t q => K.X.laload K.hx (j := j) (v := .long v) (by rw [K.eT]; exact Ar.1) (State.isArrayOf_alike K.hZ.alike Ar.2.1) Ar.2.2 (inb_of S hj) (H.at (inb_of S hj) hv) (g := mkF m pc Ls (.int j :: .ref a :: st)) rfl rfl (hb K.hby hd) _ q) k
theorem k_aaload (K : Wk p l e R s m args below meth c Z a0 EL n0 y bytes maxL ret b T h locs cells slots) {a : Addr} {kk : ClassId} {ty : FieldType} {z j : Int32} {vs : List Value} {dv v : Value} (F : Arv Z h a kk ty z vs dv) (hty : ty.isReference = true) (hj : ¬ j < 0 ∧ j < z) (hv : vs.getD j.toNatClampNeg dv = v) (hd : decode bytes pc = .ok (.aaload, 1)) (hp : pc + 1 = pc') (k : Goes p.tables e below P (T.setTop (mkF m pc' Ls (v :: st)))) : Goes p.tables e below P (T.setTop (mkF m pc Ls (.int j :: .ref a :: st))) := by
  subst hp
  obtain ⟨cl, Ar, -, S, -, H, -⟩ := F
  exact go (fun t q => K.X.aaload K.hx (j := j) (v := v) (by rw [K.eT]; exact Ar.1) (State.isArrayOf_alike K.hZ.alike Ar.2.1) hty Ar.2.2 (inb_of S hj) (H.at (inb_of S hj) hv) (g := mkF m pc Ls (.int j :: .ref a :: st)) rfl rfl (hb K.hby hd) _ q) k
theorem k_len (K : Wk p l e R s m args below meth c Z a0 EL n0 y bytes maxL ret b T h locs cells slots) {a : Addr} {kk : ClassId} {ty : FieldType} {z : Int32} {vs : List Value} {dv : Value} (F : Arv Z h a kk ty z vs dv) (hd : decode bytes pc = .ok (.arraylength, 1)) (hp : pc + 1 = pc') (k : Goes p.tables e below P (T.setTop (mkF m pc' Ls (.int z :: st)))) : Goes p.tables e below P (T.setTop (mkF m pc Ls (.ref a :: st))) := by
  subst hp
  obtain ⟨cl, Ar, -, S, N, -, -⟩ := F
  refine go (fun t q => K.X.arraylength K.hx (by rw [K.eT]; exact Ar.1) (State.isArrayOf_alike K.hZ.alike Ar.2.1) (g := mkF m pc Ls (.ref a :: st)) rfl rfl (hb K.hby hd) _ (by rw [len_of S N]; exact q)) k
theorem bs_ext (K : Wk p l e R s m args below meth c Z a0 EL n0 y bytes maxL ret b T h locs cells slots) {h' : Heap} (E : Ext h h') : Bs Z a0 EL s b h' := by
  obtain ⟨⟨vm0, k0, e1, e2, e3⟩, e4, e5⟩ := K.bs
  exact ⟨⟨vm0, k0, e1, e2, Nat.le_trans e3 E.1⟩, e4.trans (CHr.ext E e4.1), e5⟩
theorem bs_wr (K : Wk p l e R s m args below meth c Z a0 EL n0 y bytes maxL ret b T h locs cells slots) {h' : Heap} {a : Addr} {sl : Nat} {v : Value} (W : Wr h h' a sl v) (sf : Sfe Z EL b.vm h a) : Bs Z a0 EL s b h' := by
  obtain ⟨⟨vm0, k0, e1, e2, e3⟩, e4, e5⟩ := K.bs
  exact ⟨⟨vm0, k0, e1, e2, by rw [W.size]; exact e3⟩, e4.trans (CHr.wr W sf e4.1), e5⟩
theorem sfe_ext (K : Wk p l e R s m args below meth c Z a0 EL n0 y bytes maxL ret b T h locs cells slots) {h' : Heap} (E : Ext h h') (x : Addr) (_ : x < h.size) (q : Sfe Z EL b.vm h x) : Sfe Z EL b.vm h' x := Safe.ext E K.bs.2.1.1 q
theorem sfe_wr (K : Wk p l e R s m args below meth c Z a0 EL n0 y bytes maxL ret b T h locs cells slots) {h' : Heap} {a : Addr} {sl : Nat} {v : Value} (W : Wr h h' a sl v) (sf : Sfe Z EL b.vm h a) (x : Addr) (_ : x < h.size) (q : Sfe Z EL b.vm h x) : Sfe Z EL b.vm h' x := Safe.wr W sf K.bs.2.1.1 q
theorem sfe_ext_new (K : Wk p l e R s m args below meth c Z a0 EL n0 y bytes maxL ret b T h locs cells slots) {h' : Heap} (E : Ext h h') : Sfe Z EL b.vm h' h.size := fun B => sfe_new (Nat.le_refl _) ((CHv.step K.bs.2.1.1 fun _ _ _ q => E.2 _ _ q).2 _ B)
theorem k_new (K : Wk p l e R s m args below meth c Z a0 EL n0 y bytes maxL ret b T h locs cells slots) {C : String} {i n : Nat} (wl : (Cond.classLink y.cls i C).before a0 Z = true) (wi : (Cond.instantiable C n).before a0 Z = true) (wz : (Cond.initialized C).before a0 Z = true) (hd : decode bytes pc = .ok (.new i, 3)) (hp : pc + 3 = pc') (hce : cells + 1 ≤ R.cells) (hsl : slots + n ≤ R.slots) (k : ∀ T' h' a, a = h.size → Wk p l e R s m args below meth c Z a0 EL n0 y bytes maxL ret b T' h' locs (cells + 1) (slots + n) → Ext h h' → (∀ x, x < h.size → Sfe Z EL b.vm h x → Sfe Z EL b.vm h' x) → Sfe Z EL b.vm h' a → Exa Z h' a C → (∀ {O nm d : String} {ty : FieldType}, Laid Z a0 C O nm d → parseFieldDescriptor d = some ty → Fld Z h' a O nm d (defaultValue ty)) → Unt h' a → Goes p.tables e below P (T'.setTop (mkF m pc' Ls (.ref a :: st)))) : Goes p.tables e below P (T.setTop (mkF m pc Ls st)) := by
  subst hp
  obtain ⟨T', h', X', e', E', A', D', U', q⟩ := newO K.X K.hx K.hZ K.hown wl wi wz K.eT (g := mkF m pc Ls st) rfl (hb K.hby hd) hce hsl
  exact go q (k T' h' _ rfl (K.move X' e' K.fr (K.old.ext E') (bs_ext K E')) E' (sfe_ext K E') (sfe_ext_new K E') A' D' U')
theorem k_putF (K : Wk p l e R s m args below meth c Z a0 EL n0 y bytes maxL ret b T h locs cells slots) {R0 O n d C : String} {i kk : Nat} {ty : FieldType} {a : Addr} {v old : Value} (wd : (Cond.fieldLink y.cls i R0 n d).before a0 Z = true) (via : Via Z R0 O n d) (F : Fld Z h a O n d old) (E : Exa Z h a C) (L : (Cond.lays C O n d).before a0 Z = true ∨ ((Cond.laysFinal C O n d).before a0 Z = true ∧ y.cls = O ∧ y.name = "<init>")) (wi : (Cond.instantiable C kk).before a0 Z = true) (hty : parseFieldDescriptor d = some ty) (hn : narrow ty v = v) (hf : fits ty v = true) (ga : n0 ≤ a) (sf : Sfe Z EL b.vm h a) (hd : decode bytes pc = .ok (.putfield i, 3)) (hp : pc + 3 = pc') (k : ∀ T' h', Wk p l e R s m args below meth c Z a0 EL n0 y bytes maxL ret b T' h' (locs ++ [⟨a, Jvm.RoadKit.slotOf Z O n d⟩]) cells slots → Wr h h' a (Jvm.RoadKit.slotOf Z O n d) v → (∀ x, x < h.size → Sfe Z EL b.vm h x → Sfe Z EL b.vm h' x) → Goes p.tables e below P (T'.setTop (mkF m pc' Ls st))) : Goes p.tables e below P (T.setTop (mkF m pc Ls (v :: .ref a :: st))) := by
  subst hp
  obtain ⟨T', h', X', e', W', q⟩ := putF K.X K.hx K.hZ (host := "") K.hown (Or.inl wd) via K.eT F E (L.imp id fun ⟨q1, q2, q3⟩ => ⟨q1, q2, K.hnm.trans q3⟩) wi hty hn hf (g := mkF m pc Ls (v :: .ref a :: st)) rfl rfl (hb K.hby hd)
  exact go q (k T' h' (K.move X' e' (Fr.snoc X' K.fr ga) (K.old.wr W' ga) (bs_wr K W' sf)) W' (sfe_wr K W' sf))
theorem k_putFH (K : Wk p l e R s m args below meth c Z a0 EL n0 y bytes maxL ret b T h locs cells slots) {R0 O n d C host : String} {i kk : Nat} {ty : FieldType} {a : Addr} {v old : Value} (wd : (Cond.fieldLinkNest y.cls i R0 n d host).before a0 Z = true) (via : Via Z R0 O n d) (F : Fld Z h a O n d old) (E : Exa Z h a C) (L : (Cond.lays C O n d).before a0 Z = true ∨ ((Cond.laysFinal C O n d).before a0 Z = true ∧ y.cls = O ∧ y.name = "<init>")) (wi : (Cond.instantiable C kk).before a0 Z = true) (hty : parseFieldDescriptor d = some ty) (hn : narrow ty v = v) (hf : fits ty v = true) (ga : n0 ≤ a) (sf : Sfe Z EL b.vm h a) (hd : decode bytes pc = .ok (.putfield i, 3)) (hp : pc + 3 = pc') (k : ∀ T' h', Wk p l e R s m args below meth c Z a0 EL n0 y bytes maxL ret b T' h' (locs ++ [⟨a, Jvm.RoadKit.slotOf Z O n d⟩]) cells slots → Wr h h' a (Jvm.RoadKit.slotOf Z O n d) v → (∀ x, x < h.size → Sfe Z EL b.vm h x → Sfe Z EL b.vm h' x) → Goes p.tables e below P (T'.setTop (mkF m pc' Ls st))) : Goes p.tables e below P (T.setTop (mkF m pc Ls (v :: .ref a :: st))) := by
  subst hp
  obtain ⟨T', h', X', e', W', q⟩ := putF K.X K.hx K.hZ K.hown (Or.inr wd) via K.eT F E (L.imp id fun ⟨q1, q2, q3⟩ => ⟨q1, q2, K.hnm.trans q3⟩) wi hty hn hf (g := mkF m pc Ls (v :: .ref a :: st)) rfl rfl (hb K.hby hd)
  exact go q (k T' h' (K.move X' e' (Fr.snoc X' K.fr ga) (K.old.wr W' ga) (bs_wr K W' sf)) W' (sfe_wr K W' sf))
theorem k_putFN (K : Wk p l e R s m args below meth c Z a0 EL n0 y bytes maxL ret b T h locs cells slots) {R0 O n d C : String} {i kk : Nat} {ty : FieldType} {a : Addr} {v v' old : Value} (wd : (Cond.fieldLink y.cls i R0 n d).before a0 Z = true) (via : Via Z R0 O n d) (F : Fld Z h a O n d old) (E : Exa Z h a C) (L : (Cond.lays C O n d).before a0 Z = true ∨ ((Cond.laysFinal C O n d).before a0 Z = true ∧ y.cls = O ∧ y.name = "<init>")) (wi : (Cond.instantiable C kk).before a0 Z = true) (hty : parseFieldDescriptor d = some ty) (hn : narrow ty v = v') (hf : fits ty v' = true) (ga : n0 ≤ a) (sf : Sfe Z EL b.vm h a) (hd : decode bytes pc = .ok (.putfield i, 3)) (hp : pc + 3 = pc') (k : ∀ T' h', Wk p l e R s m args below meth c Z a0 EL n0 y bytes maxL ret b T' h' (locs ++ [⟨a, Jvm.RoadKit.slotOf Z O n d⟩]) cells slots → Wr h h' a (Jvm.RoadKit.slotOf Z O n d) v' → (∀ x, x < h.size → Sfe Z EL b.vm h x → Sfe Z EL b.vm h' x) → Goes p.tables e below P (T'.setTop (mkF m pc' Ls st))) : Goes p.tables e below P (T.setTop (mkF m pc Ls (v :: .ref a :: st))) := by
  subst hp
  obtain ⟨T', h', X', e', W', q⟩ := putFN K.X K.hx K.hZ K.hown wd via K.eT F E (L.imp id fun ⟨q1, q2, q3⟩ => ⟨q1, q2, K.hnm.trans q3⟩) wi hty hn hf (g := mkF m pc Ls (v :: .ref a :: st)) rfl rfl (hb K.hby hd)
  exact go q (k T' h' (K.move X' e' (Fr.snoc X' K.fr ga) (K.old.wr W' ga) (bs_wr K W' sf)) W' (sfe_wr K W' sf))
theorem k_newarray (K : Wk p l e R s m args below meth c Z a0 EL n0 y bytes maxL ret b T h locs cells slots) {aty : ArrayType} {z : Int32} (wa : (Cond.arrayClass (newarray.typeOf aty)).before a0 Z = true) (hz : ¬ z < 0) {cap : Nat} (hcap : z.toNatClampNeg ≤ cap) (hbig : cap * 8 ≤ 536870912) (hd : decode bytes pc = .ok (.newarray aty, 2)) (hp : pc + 2 = pc') (hce : cells + 1 ≤ R.cells) (hsl : slots + cap ≤ R.slots) (k : ∀ T' h' a kk, a = h.size → Wk p l e R s m args below meth c Z a0 EL n0 y bytes maxL ret b T' h' locs (cells + 1) (slots + cap) → Ext h h' → (∀ x, x < h.size → Sfe Z EL b.vm h x → Sfe Z EL b.vm h' x) → Sfe Z EL b.vm h' a → Arv Z h' a kk (newarray.typeOf aty) z [] (defaultValue (newarray.typeOf aty)) → Goes p.tables e below P (T'.setTop (mkF m pc' Ls (.ref a :: st)))) : Goes p.tables e below P (T.setTop (mkF m pc Ls (.int z :: st))) := by
  subst hp
  obtain ⟨T', h', kk, X', e', E', A', q⟩ := newP K.X K.hx K.hZ wa K.eT (g := mkF m pc Ls (.int z :: st)) rfl (hb K.hby hd) rfl hz hcap hbig hce hsl
  exact go q (k T' h' _ kk rfl (K.move X' e' K.fr (K.old.ext E') (bs_ext K E')) E' (sfe_ext K E') (sfe_ext_new K E') (Arv.new A' hz))
theorem k_anewarray (K : Wk p l e R s m args below meth c Z a0 EL n0 y bytes maxL ret b T h locs cells slots) {C : String} {i : Nat} {z : Int32} (wl : (Cond.classLink y.cls i C).before a0 Z = true) (wa : (Cond.arrayOver (.object C)).before a0 Z = true) (hz : ¬ z < 0) {cap : Nat} (hcap : z.toNatClampNeg ≤ cap) (hbig : cap * 8 ≤ 536870912) (hd : decode bytes pc = .ok (.anewarray i, 3)) (hp : pc + 3 = pc') (hce : cells + 1 ≤ R.cells) (hsl : slots + cap ≤ R.slots) (k : ∀ T' h' a kk, a = h.size → Wk p l e R s m args below meth c Z a0 EL n0 y bytes maxL ret b T' h' locs (cells + 1) (slots + cap) → Ext h h' → (∀ x, x < h.size → Sfe Z EL b.vm h x → Sfe Z EL b.vm h' x) → Sfe Z EL b.vm h' a → Arv Z h' a kk (.object C) z [] .null → Ovr Z kk C → Goes p.tables e below P (T'.setTop (mkF m pc' Ls (.ref a :: st)))) : Goes p.tables e below P (T.setTop (mkF m pc Ls (.int z :: st))) := by
  subst hp
  obtain ⟨T', h', kk, X', e', E', A', O', q⟩ := newR K.X K.hx K.hZ K.hown wl wa K.eT (g := mkF m pc Ls (.int z :: st)) rfl (hb K.hby hd) rfl hz hcap hbig hce hsl
  exact go q (k T' h' _ kk rfl (K.move X' e' K.fr (K.old.ext E') (bs_ext K E')) E' (sfe_ext K E') (sfe_ext_new K E') (Arv.new A' hz) O')
theorem k_iastore (K : Wk p l e R s m args below meth c Z a0 EL n0 y bytes maxL ret b T h locs cells slots) {a : Addr} {kk : ClassId} {z j : Int32} {vs : List Value} {dv : Value} {v : Int32} (F : Arv Z h a kk .int z vs dv) (hj : ¬ j < 0 ∧ j < z) (hlen : j.toNatClampNeg < vs.length) (ga : n0 ≤ a) (sf : Sfe Z EL b.vm h a) (hd : decode bytes pc = .ok (.iastore, 1)) (hp : pc + 1 = pc') (k : ∀ T' h', Wk p l e R s m args below meth c Z a0 EL n0 y bytes maxL ret b T' h' (locs ++ [⟨a, j.toNatClampNeg⟩]) cells slots → Wr h h' a j.toNatClampNeg (.int v) → (∀ x, x < h.size → Sfe Z EL b.vm h x → Sfe Z EL b.vm h' x) → Arv Z h' a kk .int z (vs.set j.toNatClampNeg (.int v)) dv → Goes p.tables e below P (T'.setTop (mkF m pc' Ls st))) : Goes p.tables e below P (T.setTop (mkF m pc Ls (.int v :: .int j :: .ref a :: st))) := by
  subst hp
  obtain ⟨cl, Ar, q1, S, N, H, G⟩ := F
  obtain ⟨T', h', X', e', W', q⟩ := stI K.X K.hx K.hZ K.eT Ar (j := j) (inb_of S hj) (g := mkF m pc Ls (.int v :: .int j :: .ref a :: st)) rfl rfl (hb K.hby hd)
  exact go q (k T' h' (K.move X' e' (Fr.snoc X' K.fr ga) (K.old.wr W' ga) (bs_wr K W' sf)) W' (sfe_wr K W' sf) (Arv.set Ar q1 S N H G rfl W' _ rfl hlen))
theorem k_castore (K : Wk p l e R s m args below meth c Z a0 EL n0 y bytes maxL ret b T h locs cells slots) {a : Addr} {kk : ClassId} {z j : Int32} {vs : List Value} {dv : Value} {v : Int32} (F : Arv Z h a kk .char z vs dv) (hj : ¬ j < 0 ∧ j < z) (hlen : j.toNatClampNeg < vs.length) (ga : n0 ≤ a) (sf : Sfe Z EL b.vm h a) (hd : decode bytes pc = .ok (.castore, 1)) (hp : pc + 1 = pc') (k : ∀ T' h', Wk p l e R s m args below meth c Z a0 EL n0 y bytes maxL ret b T' h' (locs ++ [⟨a, j.toNatClampNeg⟩]) cells slots → Wr h h' a j.toNatClampNeg (.int (nar .char v)) → (∀ x, x < h.size → Sfe Z EL b.vm h x → Sfe Z EL b.vm h' x) → Arv Z h' a kk .char z (vs.set j.toNatClampNeg (.int (nar .char v))) dv → Goes p.tables e below P (T'.setTop (mkF m pc' Ls st))) : Goes p.tables e below P (T.setTop (mkF m pc Ls (.int v :: .int j :: .ref a :: st))) := by
  subst hp
  obtain ⟨cl, Ar, q1, S, N, H, G⟩ := F
  obtain ⟨T', h', X', e', W', q⟩ := stC K.X K.hx K.hZ K.eT Ar (j := j) (inb_of S hj) (g := mkF m pc Ls (.int v :: .int j :: .ref a :: st)) rfl rfl (hb K.hby hd)
  exact go q (k T' h' (K.move X' e' (Fr.snoc X' K.fr ga) (K.old.wr W' ga) (bs_wr K W' sf)) W' (sfe_wr K W' sf) (Arv.set Ar q1 S N H G (fits_nar_char _) W' _ rfl hlen))
theorem k_bastore (K : Wk p l e R s m args below meth c Z a0 EL n0 y bytes maxL ret b T h locs cells slots) {a : Addr} {kk : ClassId} {z j : Int32} {vs : List Value} {dv : Value} {v : Int32} (F : Arv Z h a kk .byte z vs dv) (hj : ¬ j < 0 ∧ j < z) (hlen : j.toNatClampNeg < vs.length) (ga : n0 ≤ a) (sf : Sfe Z EL b.vm h a) (hd : decode bytes pc = .ok (.bastore, 1)) (hp : pc + 1 = pc') (k : ∀ T' h', Wk p l e R s m args below meth c Z a0 EL n0 y bytes maxL ret b T' h' (locs ++ [⟨a, j.toNatClampNeg⟩]) cells slots → Wr h h' a j.toNatClampNeg (.int (nar .byte v)) → (∀ x, x < h.size → Sfe Z EL b.vm h x → Sfe Z EL b.vm h' x) → Arv Z h' a kk .byte z (vs.set j.toNatClampNeg (.int (nar .byte v))) dv → Goes p.tables e below P (T'.setTop (mkF m pc' Ls st))) : Goes p.tables e below P (T.setTop (mkF m pc Ls (.int v :: .int j :: .ref a :: st))) := by
  subst hp
  obtain ⟨cl, Ar, q1, S, N, H, G⟩ := F
  obtain ⟨T', h', X', e', W', q⟩ := stB K.X K.hx K.hZ K.eT Ar (j := j) (inb_of S hj) (g := mkF m pc Ls (.int v :: .int j :: .ref a :: st)) rfl rfl (hb K.hby hd)
  exact go q (k T' h' (K.move X' e' (Fr.snoc X' K.fr ga) (K.old.wr W' ga) (bs_wr K W' sf)) W' (sfe_wr K W' sf) (Arv.set Ar q1 S N H G (fits_nar_byte _) W' _ rfl hlen))
theorem k_lastore (K : Wk p l e R s m args below meth c Z a0 EL n0 y bytes maxL ret b T h locs cells slots) {a : Addr} {kk : ClassId} {z j : Int32} {vs : List Value} {dv : Value} {v : Int64} (F : Arv Z h a kk .long z vs dv) (hj : ¬ j < 0 ∧ j < z) (hlen : j.toNatClampNeg < vs.length) (ga : n0 ≤ a) (sf : Sfe Z EL b.vm h a) (hd : decode bytes pc = .ok (.lastore, 1)) (hp : pc + 1 = pc') (k : ∀ T' h', Wk p l e R s m args below meth c Z a0 EL n0 y bytes maxL ret b T' h' (locs ++ [⟨a, j.toNatClampNeg⟩]) cells slots → Wr h h' a j.toNatClampNeg (.long v) → (∀ x, x < h.size → Sfe Z EL b.vm h x → Sfe Z EL b.vm h' x) → Arv Z h' a kk .long z (vs.set j.toNatClampNeg (.long v)) dv → Goes p.tables e below P (T'.setTop (mkF m pc' Ls st))) : Goes p.tables e below P (T.setTop (mkF m pc Ls (.long v :: .int j :: .ref a :: st))) := by
  subst hp
  obtain ⟨cl, Ar, q1, S, N, H, G⟩ := F
  obtain ⟨T', h', X', e', W', q⟩ := stJ K.X K.hx K.hZ K.eT Ar (j := j) (inb_of S hj) (g := mkF m pc Ls (.long v :: .int j :: .ref a :: st)) rfl rfl (hb K.hby hd)
  exact go q (k T' h' (K.move X' e' (Fr.snoc X' K.fr ga) (K.old.wr W' ga) (bs_wr K W' sf)) W' (sfe_wr K W' sf) (Arv.set Ar q1 S N H G rfl W' _ rfl hlen))
theorem k_aastore (K : Wk p l e R s m args below meth c Z a0 EL n0 y bytes maxL ret b T h locs cells slots) {a : Addr} {kk : ClassId} {ty : FieldType} {z j : Int32} {vs : List Value} {dv v : Value} (F : Arv Z h a kk ty z vs dv) (hty : ty.isReference = true) (hs : Sto Z h a v) (hfit : fits ty v = true) (hj : ¬ j < 0 ∧ j < z) (hlen : j.toNatClampNeg < vs.length) (ga : n0 ≤ a) (sf : Sfe Z EL b.vm h a) (hd : decode bytes pc = .ok (.aastore, 1)) (hp : pc + 1 = pc') (k : ∀ T' h', Wk p l e R s m args below meth c Z a0 EL n0 y bytes maxL ret b T' h' (locs ++ [⟨a, j.toNatClampNeg⟩]) cells slots → Wr h h' a j.toNatClampNeg v → (∀ x, x < h.size → Sfe Z EL b.vm h x → Sfe Z EL b.vm h' x) → Arv Z h' a kk ty z (vs.set j.toNatClampNeg v) dv → Goes p.tables e below P (T'.setTop (mkF m pc' Ls st))) : Goes p.tables e below P (T.setTop (mkF m pc Ls (v :: .int j :: .ref a :: st))) := by
  subst hp
  obtain ⟨cl, Ar, q1, S, N, H, G⟩ := F
  obtain ⟨T', h', X', e', W', q⟩ := stR K.X K.hx K.hZ K.eT Ar (j := j) (inb_of S hj) hty hs (g := mkF m pc Ls (v :: .int j :: .ref a :: st)) rfl rfl (hb K.hby hd)
  exact go q (k T' h' (K.move X' e' (Fr.snoc X' K.fr ga) (K.old.wr W' ga) (bs_wr K W' sf)) W' (sfe_wr K W' sf) (Arv.set Ar q1 S N H G hfit W' _ rfl hlen))
theorem k_clone (K : Wk p l e R s m args below meth c Z a0 EL n0 y bytes maxL ret b T h locs cells slots) {i : Nat} {ad : String} {a : Addr} {kk : ClassId} {ty : FieldType} {z : Int32} {vs : List Value} {dv : Value} (w1 : (Cond.methodLink y.cls i ⟨ad, "clone", "()Ljava/lang/Object;"⟩).before a0 Z = true) (w2 : (Cond.sameMethod ad "java/lang/Object" "clone" "()Ljava/lang/Object;").before a0 Z = true) (w3 : (Cond.native ⟨"java/lang/Object", "clone", "()Ljava/lang/Object;"⟩).before a0 Z = true) (w4 : (Cond.instanceMethod ⟨"java/lang/Object", "clone", "()Ljava/lang/Object;"⟩).before a0 Z = true) (w5 : (Cond.selects ad ⟨ad, "clone", "()Ljava/lang/Object;"⟩ ⟨"java/lang/Object", "clone", "()Ljava/lang/Object;"⟩).before a0 Z = true) (w6 : (Cond.castable ad "java/lang/Cloneable").before a0 Z = true) (F : Arv Z Z.heap a kk ty z vs dv) (E : Exa Z Z.heap a ad) (hfit : Fit Z) (hd : decode bytes pc = .ok (.invokevirtual i, 3)) (hp : pc + 3 = pc') (hsz : Ls.size = maxL) (hfr : 1 ≤ R.frames) (W : Nat) (hW : (st.map fun v => v.category).sum ≤ W) (hlo : W + 14 ≤ R.locals) {cap : Nat} (hcap : z.toNatClampNeg ≤ cap) (hce : cells + 1 ≤ R.cells) (hsl : slots + cap ≤ R.slots) (k : ∀ T' h' a', a' = h.size → Wk p l e R s m args below meth c Z a0 EL n0 y bytes maxL ret b T' h' locs (cells + 1) (slots + cap) → Ext h h' → (∀ x, x < h.size → Sfe Z EL b.vm h x → Sfe Z EL b.vm h' x) → Sfe Z EL b.vm h' a' → Arv Z h' a' kk ty z vs dv → Exa Z h' a' ad → Goes p.tables e below P (T'.setTop (mkF m pc' Ls (.ref a' :: st)))) : Goes p.tables e below P (T.setTop (mkF m pc Ls (.ref a :: st))) := by
  subst hp
  obtain ⟨cl, Ar, q1, S, N, H, G⟩ := F
  obtain ⟨T', h', X', e', E', A', D', q⟩ := cloneA K.X K.hx K.hZ K.hown w1 w2 w3 w4 w5 w6 K.eT (Ar.ext K.old.2) (E.ext K.old.2) (FitC.start hfit Ar) (g := mkF m pc Ls (.ref a :: st)) rfl (hsz.trans K.hml.symm) rfl (hb K.hby hd) hfr (W := W) (cap := cap) (by show 2 * 0 + _ ≤ _; rw [Nat.mul_zero, Nat.zero_add]; exact hW) hlo (by rw [S]; exact hcap) hce hsl
  exact go q (k T' h' _ rfl (K.move X' e' K.fr (K.old.ext E') (bs_ext K E')) E' (sfe_ext K E') (sfe_ext_new K E') ⟨_, A', q1, S, N, H, G⟩ D')
theorem bs_keep (K : Wk p l e R s m args below meth c Z a0 EL n0 y bytes maxL ret b T h locs cells slots) {h' : Heap} {da : Addr} (KQ : Keep h h' [da]) (sf : Sfe Z EL b.vm h da) : Bs Z a0 EL s b h' := by
  obtain ⟨⟨vm0, k0, e1, e2, e3⟩, e4, e5⟩ := K.bs
  exact ⟨⟨vm0, k0, e1, e2, Nat.le_trans e3 KQ.1⟩, e4.trans (CHr.keep KQ (allS sf all0) e4.1), e5⟩
theorem sfe_keep (K : Wk p l e R s m args below meth c Z a0 EL n0 y bytes maxL ret b T h locs cells slots) {h' : Heap} {da : Addr} (KQ : Keep h h' [da]) (sf : Sfe Z EL b.vm h da) (x : Addr) (_ : x < h.size) (q : Sfe Z EL b.vm h x) : Sfe Z EL b.vm h' x := Safe.keep KQ (allS sf all0) K.bs.2.1.1 q
theorem k_arraycopy (K : Wk p l e R s m args below meth c Z a0 EL n0 y bytes maxL ret b T h locs cells slots) {i : Nat} {sa da : Addr} {ks kd : ClassId} {ty : FieldType} {zs zd sp dp nn : Int32} {vs vd us : List Value} {dv dd : Value} (wl : (Cond.methodLink y.cls i Jvm.Stand.acN).before a0 Z = true) (wn : (Cond.native Jvm.Stand.acN).before a0 Z = true) (wt : (Cond.static Jvm.Stand.acN).before a0 Z = true) (wz : (Cond.initialized "java/lang/System").before a0 Z = true) (A : Arv Z h sa ks ty zs vs dv) (B : Arv Z h da kd ty zd vd dd) (hty : refKind ty = false) (h1 : ¬ sp < 0) (h2 : ¬ dp < 0) (h3 : ¬ nn < 0) (h4 : sp.toNatClampNeg + nn.toNatClampNeg ≤ zs.toNatClampNeg) (h5 : dp.toNatClampNeg + nn.toNatClampNeg ≤ zd.toNatClampNeg) (hus : us = (List.range nn.toNatClampNeg).map fun i => vs.getD (sp.toNatClampNeg + i) dv) (hl : dp.toNatClampNeg + nn.toNatClampNeg ≤ vd.length) (ga : n0 ≤ da) (sf : Sfe Z EL b.vm h da) (hd : decode bytes pc = .ok (.invokestatic i, 3)) (hp : pc + 3 = pc') (hsz : Ls.size = maxL) (hfr : 1 ≤ R.frames) (W : Nat) (hW : (st.map fun v => v.category).sum ≤ W) (hlo : W + 18 ≤ R.locals) (k : ∀ T' h' locs', Wk p l e R s m args below meth c Z a0 EL n0 y bytes maxL ret b T' h' locs' cells slots → Keep h h' [da] → (∀ x, x < h.size → Sfe Z EL b.vm h x → Sfe Z EL b.vm h' x) → Arv Z h' da kd ty zd (vd.take dp.toNatClampNeg ++ us ++ vd.drop (dp.toNatClampNeg + nn.toNatClampNeg)) dd → Goes p.tables e below P (T'.setTop (mkF m pc' Ls st))) : Goes p.tables e below P (T.setTop (mkF m pc Ls (.int nn :: .int dp :: .ref da :: .int sp :: .ref sa :: st))) := by
  subst hp
  obtain ⟨T', h', L', X', e', N', KQ, V', q⟩ := cpA K.X K.hx K.hZ K.hown wl wn wt wz K.eT A B (Or.inl ⟨rfl, hty⟩) h1 h2 h3 h4 h5 hus hl K.fr ga (g := mkF m pc Ls (.int nn :: .int dp :: .ref da :: .int sp :: .ref sa :: st)) rfl (hsz.trans K.hml.symm) rfl (hb K.hby hd) hfr (W := W) (by show 2 * 0 + _ ≤ _; rw [Nat.mul_zero, Nat.zero_add]; exact hW) hlo
  exact go q (k T' h' L' (K.move X' e' N' (K.old.keep KQ (allS ga all0)) (bs_keep K KQ sf)) KQ (sfe_keep K KQ sf) V')
theorem own_nf {args : Array Value} {C0 : String} {y' yy : MethodName} (hc : y'.cls = yy.cls) (ws : (Cond.selects C0 y' y').before args b = true) : NotFace b yy := fun r0 h0 => by
  obtain ⟨c2, r2, m2, q1, q2, q3, q4, kP, hkP, hkPi⟩ := Cond.selects_spec ws
  have e1 := findClass_of_methodNamed h0
  have e2 := findClass_of_methodNamed q3
  rw [hc] at e2
  have e3 := Option.some.inj (e1.symm.trans e2)
  exact ⟨kP, by rw [e3]; exact hkP, hkPi⟩
theorem own_same {args : Array Value} {C0 : String} {y' yy : MethodName} (hc : y'.cls = yy.cls) (ws : (Cond.selects C0 y' y').before args b = true) (wi : (Cond.instanceMethod yy).before args b = true) (hy : yy.cls ≠ "java/lang/invoke/MethodHandle" ∧ yy.cls ≠ "java/lang/invoke/VarHandle") : (Cond.sameMethod yy.cls yy.cls yy.name yy.desc).before args b = true := by
  obtain ⟨mk, methM, hnamed, hmethM, -, -⟩ := Cond.instanceMethod_spec wi
  obtain ⟨kP, hk, hki⟩ := own_nf hc ws mk hnamed
  have hfound := State.methodFound?_of_named hnamed hy
  have hcl := findClass_of_methodNamed hnamed
  have hn2 : b.methodNamed? ⟨yy.cls, yy.name, yy.desc⟩ = some mk := hnamed
  simp only [Cond.before, Cond.holds, Cond.value, hcl, hfound, hn2, hk]
  simp [hki]
theorem own_priv2 (K : Wk p l e R s m args below meth c Z a0 EL n0 y bytes maxL ret b T h locs cells slots) {C0 : String} {yy : MethodName} (ws : (Cond.selects C0 yy yy).before a0 Z = true) (wim : (Cond.instanceMethod yy).before a0 Z = true) (wpr : (Cond.privateMethod yy).before a0 Z = true) (hy : yy.cls ≠ "java/lang/invoke/MethodHandle" ∧ yy.cls ≠ "java/lang/invoke/VarHandle") : (Cond.selects yy.cls yy yy).before a0 b = true := by
  have wi : (Cond.instanceMethod yy).before a0 b = true := mvT K.hZ wim
  obtain ⟨mk, methM, hnamed, hmethM, -, -⟩ := Cond.instanceMethod_spec wi
  obtain ⟨kP, hk, hki⟩ := own_nf (args := a0) rfl (mvT K.hZ ws) mk hnamed
  exact selects_self_of_private (findClass_of_methodNamed hnamed) hk hki (Cond.privateMethod_at (mvP K.hZ wpr (args := #[]))) wi hy
def FinW (Z : State) (EL : List (String × Nat)) (U : State) (n0 : Nat) (rm : Room) (Q : Option Value → Heap → (Addr → Prop) → Prop) (o : Outcome) (U' : State) : Prop := ∃ v L, o = .returned v ∧ (Fr n0 L ∧ Old Z n0 U'.heap ∧ Q v U'.heap (Sfe Z EL U'.vm U'.heap)) ∧ CHr Z EL U.vm U.heap U'.vm U'.heap ∧ ReturnedEndW U o U' L rm.cells rm.slots
def Ct (l : Launch) (Z : State) (EL : List (String × Nat)) (n0 : Nat) (y : MethodName) (bytes : ByteArray) (maxL : Nat) (ret : Option FieldType) (rm : Room) (as : Array Value) (h : Heap) (SP : List Addr) (Q : Option Value → Heap → (Addr → Prop) → Prop) : Prop := ∀ ws, MetFree l y (head1 (Cond.code y bytes maxL ret :: ws) rm) (fun a U => a = as ∧ Z.Warmed39 U.vm ∧ U.heap = h ∧ (∀ x ∈ SP, Sfe Z EL U.vm h x) ∧ CHv Z EL U.vm h) (fun _ _ _ _ _ => True) (fun _ U o U' => ∃ v L, o = .returned v ∧ (Fr n0 L ∧ Old Z n0 U'.heap ∧ Q v U'.heap (Sfe Z EL U'.vm U'.heap)) ∧ CHr Z EL U.vm U.heap U'.vm U'.heap ∧ ReturnedEndW U o U' L rm.cells rm.slots)
theorem Ct.of {as : Array Value} {rm : Room} {SP : List Addr} {Q : Option Value → Heap → (Addr → Prop) → Prop} (LE : Array Slot) (hEW : EW Z a0 EL) (hO : Old Z n0 h) (hpl : plainFor y = true) (hef : ∀ m, entryFrame m as maxL = mkF m 0 LE []) (body : ∀ {p : Program} {e : Env} {s : State} {m : MethodId} {below : List Frame} {meth : Method} {c : Code} {b T : State}, Wk p l e rm s m as below meth c Z a0 EL n0 y bytes maxL ret b T h [] 0 0 → (∀ x ∈ SP, Sfe Z EL b.vm h x) → Goes p.tables e below (FinW Z EL s n0 rm Q) (T.setTop (mkF m 0 LE []))) : Ct l Z EL n0 y bytes maxL ret rm as h SP Q := by
  intro ws
  refine MetFree.of_bodySF hpl hisR ?_
  intro p e s m args below meth c s₁ Bd hml0 hP hK
  obtain ⟨ha, hZ, hh, hSP, hC⟩ := hP
  subst ha
  have K : Wk p l e rm s m args below meth c Z a0 EL n0 y bytes maxL ret s s₁ h [] 0 0 := ⟨Stand.of_body Bd, by rw [← hh, Bd.state]; rfl, Fr.nil n0, Bd.exec, hZ, findClass_of_methodNamed Bd.named, Bd.bytes, hml0, Bd.returns, Bd.notSynchronized, (name_of_methodNamed Bd.named Bd.method).1, hO, ⟨⟨s.vm, 0, rfl, State.WarmedH.since (State.WarmedH.refl s) 0, Nat.zero_le _⟩, by rw [hh]; exact CHr.refl hC, hEW⟩⟩
  obtain ⟨t, o, h1, h2, h3, h4⟩ := body K hSP
  exact ⟨t, o, castTop (hef m) h1, h2, h3, h4⟩
theorem k_return (K : Wk p l e R s m args below meth c Z a0 EL n0 y bytes maxL ret b T h locs cells slots) {Q : Option Value → Heap → (Addr → Prop) → Prop} (hd : decode bytes pc = .ok (.return_, 1)) (hr : ret = none) (hq : ∀ sf : Addr → Prop, (∀ x, x < h.size → Sfe Z EL b.vm h x → sf x) → Q none h sf) (hc : cells ≤ R.cells) (hs : slots ≤ R.slots) : Goes p.tables e below (FinW Z EL s n0 R Q) (T.setTop (mkF m pc Ls [])) := by
  have hbs := K.bs
  obtain ⟨⟨vm0, k0, eb, hS, hk⟩, hCH, hEW⟩ := hbs
  subst eb
  have A := CHv.at K.X K.hZ hEW hCH.1
  obtain ⟨fs, hr', hrun, hended, hend⟩ := K.X.leaveW hS (by rw [K.eT]; exact hk) (v := none) (fun _ => rfl) K.hlk
  refine ⟨_, _, ?_, hrun, hended, _, _, rfl, ⟨K.fr, ?_, ?_⟩, ?_, ⟨hend.1, hend.2.1, hend.2.2.1, hend.2.2.2.mono hc hs⟩⟩
  · exact K.X.returnOut K.hx (K.hret.trans hr) (hb K.hby hd) hr'
  · show Old Z n0 T.heap
    rw [K.eT]; exact K.old
  · show Q _ T.heap (Sfe Z EL T.vm T.heap)
    rw [K.eT]; exact hq _ fun x hx q => CHr.safe A hx q
  · show CHr Z EL s.vm s.heap T.vm T.heap
    rw [K.eT]; exact hCH.trans A
theorem k_ret (K : Wk p l e R s m args below meth c Z a0 EL n0 y bytes maxL ret b T h locs cells slots) {Q : Option Value → Heap → (Addr → Prop) → Prop} {t : FieldType} {v : Value} {i : Instr} (hd : decode bytes pc = .ok (i, 1)) (hr : ret = some t) (hn : narrow t v = v) (hi : (i = .ireturn ∧ (t = .int ∨ t = .boolean ∨ t = .byte ∨ t = .char ∨ t = .short) ∧ ∃ z, v = .int z) ∨ (i = .lreturn ∧ t = .long ∧ ∃ z, v = .long z) ∨ (i = .dreturn ∧ t = .double ∧ ∃ z, v = .double z) ∨ (i = .freturn ∧ t = .float ∧ ∃ z, v = .float z) ∨ (i = .areturn ∧ t.isReference = true ∧ v.isRef = true)) (hq : ∀ sf : Addr → Prop, (∀ x, x < h.size → Sfe Z EL b.vm h x → sf x) → Q (some v) h sf) (hc : cells ≤ R.cells) (hs : slots ≤ R.slots) : Goes p.tables e below (FinW Z EL s n0 R Q) (T.setTop (mkF m pc Ls (v :: st))) := by
  have hbs := K.bs
  obtain ⟨⟨vm0, k0, eb, hS, hk⟩, hCH, hEW⟩ := hbs
  subst eb
  have A := CHv.at K.X K.hZ hEW hCH.1
  obtain ⟨fs, hr', hrun, hended, hend⟩ := K.X.leaveW hS (by rw [K.eT]; exact hk) (v := some v) (fun h => by rw [K.hret, hr] at h; cases h) K.hlk
  refine ⟨_, _, ?_, hrun, hended, _, _, rfl, ⟨K.fr, ?_, ?_⟩, ?_, ⟨hend.1, hend.2.1, hend.2.2.1, hend.2.2.2.mono hc hs⟩⟩
  · exact retOut K.X K.hx (K.hret.trans hr) hn hi (hb K.hby hd) hr'
  · show Old Z n0 T.heap
    rw [K.eT]; exact K.old
  · show Q _ T.heap (Sfe Z EL T.vm T.heap)
    rw [K.eT]; exact hq _ fun x hx q => CHr.safe A hx q
  · show CHr Z EL s.vm s.heap T.vm T.heap
    rw [K.eT]; exact hCH.trans A
theorem k_iret (K : Wk p l e R s m args below meth c Z a0 EL n0 y bytes maxL ret b T h locs cells slots) {Q : Option Value → Heap → (Addr → Prop) → Prop} {i : Int32} (hd : decode bytes pc = .ok (.ireturn, 1)) (hr : ret = some .int) (hq : ∀ sf : Addr → Prop, (∀ x, x < h.size → Sfe Z EL b.vm h x → sf x) → Q (some (.int i)) h sf) (hc : cells ≤ R.cells) (hs : slots ≤ R.slots) : Goes p.tables e below (FinW Z EL s n0 R Q) (T.setTop (mkF m pc Ls (.int i :: st))) := k_ret K hd hr rfl (Or.inl ⟨rfl, Or.inl rfl, i, rfl⟩) hq hc hs
theorem k_lret (K : Wk p l e R s m args below meth c Z a0 EL n0 y bytes maxL ret b T h locs cells slots) {Q : Option Value → Heap → (Addr → Prop) → Prop} {i : Int64} (hd : decode bytes pc = .ok (.lreturn, 1)) (hr : ret = some .long) (hq : ∀ sf : Addr → Prop, (∀ x, x < h.size → Sfe Z EL b.vm h x → sf x) → Q (some (.long i)) h sf) (hc : cells ≤ R.cells) (hs : slots ≤ R.slots) : Goes p.tables e below (FinW Z EL s n0 R Q) (T.setTop (mkF m pc Ls (.long i :: st))) := k_ret K hd hr rfl (Or.inr (Or.inl ⟨rfl, rfl, i, rfl⟩)) hq hc hs
theorem k_aret (K : Wk p l e R s m args below meth c Z a0 EL n0 y bytes maxL ret b T h locs cells slots) {Q : Option Value → Heap → (Addr → Prop) → Prop} {v : Value} {t : FieldType} (hd : decode bytes pc = .ok (.areturn, 1)) (hr : ret = some t) (ht : t.isReference = true) (hv : v.isRef = true) (hq : ∀ sf : Addr → Prop, (∀ x, x < h.size → Sfe Z EL b.vm h x → sf x) → Q (some v) h sf) (hc : cells ≤ R.cells) (hs : slots ≤ R.slots) : Goes p.tables e below (FinW Z EL s n0 R Q) (T.setTop (mkF m pc Ls (v :: st))) := k_ret K hd hr (by cases t <;> first | rfl | cases ht) (Or.inr (Or.inr (Or.inr (Or.inr ⟨rfl, ht, hv⟩)))) hq hc hs
theorem k_nret (K : Wk p l e R s m args below meth c Z a0 EL n0 y bytes maxL ret b T h locs cells slots) {Q : Option Value → Heap → (Addr → Prop) → Prop} {i : Int32} {t : FieldType} (hd : decode bytes pc = .ok (.ireturn, 1)) (hr : ret = some t) (ht : t = .boolean ∨ t = .byte ∨ t = .char ∨ t = .short) (hn : narrow t (.int i) = .int i) (hq : ∀ sf : Addr → Prop, (∀ x, x < h.size → Sfe Z EL b.vm h x → sf x) → Q (some (.int i)) h sf) (hc : cells ≤ R.cells) (hs : slots ≤ R.slots) : Goes p.tables e below (FinW Z EL s n0 R Q) (T.setTop (mkF m pc Ls (.int i :: st))) := k_ret K hd hr hn (Or.inl ⟨rfl, Or.inr ht, i, rfl⟩) hq hc hs
def Pu (w : Option Value) (h : Heap) (v : Option Value) (h' : Heap) (_ : Addr → Prop) : Prop := v = w ∧ h' = h
theorem own_back {yy : MethodName} {yb : ByteArray} {yml : Nat} {yret : Option FieldType} {rm : Room} {len W : Nat} {as' : Array Value} {SP : List Addr} {Q : Option Value → Heap → (Addr → Prop) → Prop} {vm0 : Vm} (hM : Ct l Z EL n0 yy yb yml yret rm as' h SP Q) (hZ : Z.Warmed39 vm0) (wc : (Cond.code yy yb yml yret).before a0 Z = true) (wz : (Cond.initialized yy.cls).before a0 Z = true) (hf : rm.frames + 1 ≤ R.frames) (hl : W + (yml + 11) + rm.locals ≤ R.locals) (hEL : EW Z a0 EL) (H : CHv Z EL vm0 h) (hSP : ∀ x ∈ SP, x < h.size ∧ Sfe Z EL vm0 h x) :
    BackS l R p e below (s.setVm vm0) args yy len W (fun A a => a = as' ∧ A.U.heap = h ∧ A.cells + rm.cells ≤ R.cells ∧ A.slots + rm.slots ≤ R.slots)
      (fun A _ v B => ∃ L, (Fr n0 L ∧ Old Z n0 B.U.heap ∧ Q v B.U.heap (Sfe Z EL B.U.vm B.U.heap)) ∧ B.locs = A.locs ++ L ∧ B.cells = A.cells + rm.cells ∧ B.slots = A.slots + rm.slots ∧ CHr Z EL vm0 h B.U.vm B.U.heap) :=
  BackS.of_freeW (bytes := yb) (maxL := yml) (ret := yret) (E := fun _ first o t L k n => k = rm.cells ∧ n = rm.slots ∧ (∃ v, o = .returned v ∧ (Fr n0 L ∧ Old Z n0 t.heap ∧ Q v t.heap (Sfe Z EL t.vm t.heap))) ∧ CHr Z EL first.vm first.heap t.vm t.heap) (hM []) hf hl
    (fun m meth c A a Y hp => have hU : Z.Warmed39 A.U.vm := wtrans (s := s.setVm vm0) hZ Y.warmed
      ⟨by show (Cond.and _ .tt).before a A.U = true; rw [Cond.before_and, mvT hU wc]; rfl, mvT hU wc, mvT hU wz, hp.2.2.1, hp.2.2.2⟩)
    (fun m meth c A a g mk Y hp => have q := CHv.at Y hZ hEL H
      ⟨hp.1, wtrans (s := s.setVm vm0) hZ Y.warmed, hp.2.1, fun x hx => CHr.safe q (hSP x hx).1 (hSP x hx).2, q.1⟩) (fun _ _ _ _ _ _ _ _ _ => trivial)
    (fun _ _ _ _ ⟨v, L, h1, h2, h3, h4⟩ => ⟨L, _, _, h4, rfl, rfl, ⟨v, h1, h2⟩, h3⟩)
    (fun m meth c A a g mk v t L k n Y hp _ _ ⟨e1, e2, ⟨v', e3, e4⟩, e5⟩ => by
      cases e3; subst e1 e2
      refine ⟨L, e4, rfl, rfl, rfl, (CHv.at Y hZ hEL H).trans ?_⟩
      rw [← hp.2.1]; exact e5)
theorem callSS (X : Stand p l e R s m args below meth c T locs cells slots) (hexec : p.tables.exec = Jvm.exec) {own : String} {index : Nat} {yy : MethodName} {yb : ByteArray} {yml : Nat} {yret : Option FieldType}
    (hown : s.vm.findClass own = some m.cls) (hlink : (Cond.methodLink own index yy).before args s = true) (hstat : (Cond.static yy).before args s = true) (hinit : (Cond.initialized yy.cls).before args s = true)
    (hcode : (Cond.code yy yb yml yret).before args s = true) (hy : yy.cls ≠ "java/lang/invoke/MethodHandle" ∧ yy.cls ≠ "java/lang/invoke/VarHandle")
    {W : Nat} {Pre : Pt → Array Value → Prop} {Post : Pt → Array Value → Option Value → Pt → Prop} (hK : BackS l R p e below s args yy 3 W Pre Post)
    {g : JFrame} (hg : g.method = m) (hsize : g.locals.size = c.maxLocals) {argsL rest : List Value} (hlen : ∀ sig, parseMethodDescriptor yy.desc = some sig → argsL.length = sig.parameters.length)
    (hstack : g.stack = argsL.reverse ++ rest) (hW : 2 * g.monitorRoom + (rest.map fun v => v.category).sum ≤ W) (hdg : decode c.code g.pc = .ok (.invokestatic index, 3))
    (hpre : ∀ vm₁, s.WarmedH vm₁ → Pre ⟨T.setVm vm₁, locs, cells, slots⟩ argsL.toArray) :
    ∃ (v : Option Value) (vm₁ : Vm) (B : Pt), s.WarmedH vm₁ ∧ Stand p l e R (s.setVm B.U.vm) m args below meth c B.U B.locs B.cells B.slots ∧ s.Since B.U.vm B.U.heap.size ∧ T.heap.size ≤ B.U.heap.size ∧ Post ⟨T.setVm vm₁, locs, cells, slots⟩ argsL.toArray v B ∧
      Steps p.tables e below (T.setTop g) (B.U.setTop { g with pc := g.pc + 3, stack := v.toList ++ rest }) := by
  obtain ⟨mk, hnamed⟩ := Cond.code_named hcode
  obtain ⟨methM, cM, hmethM, -, -, -, -, -, -, hsigM⟩ := Cond.code_spec hnamed hcode
  exact X.staticBackS hexec hown hlink hstat hinit hnamed hmethM hsigM hy hK hg hsize (Steps.refl _) hlen hstack hW hdg hpre
theorem wk_called (K : Wk p l e R s m args below meth c Z a0 EL n0 y bytes maxL ret b T h locs cells slots) {b0 T' : State} {Lc : List Loc} {c' n' : Nat} (eb : b = s.setVm b0.vm) (X' : Stand p l e R (b.setVm T'.vm) m args below meth c T' (locs ++ Lc) c' n') (hS : b.Since T'.vm T'.heap.size) (hsz : T.heap.size ≤ T'.heap.size) (hCH : CHr Z EL b.vm h T'.vm T'.heap) (hF : Fr n0 Lc) (hO : Old Z n0 T'.heap) : Wk p l e R s m args below meth c Z a0 EL n0 y bytes maxL ret (b.setVm T'.vm) T' T'.heap (locs ++ Lc) c' n' := by
  obtain ⟨⟨vm0, k0, eb', g1, g2⟩, g3, g4⟩ := K.bs
  subst eb'
  have hW : Z.Warmed39 T'.vm := State.Warmed39.trans (t := s.setVm vm0) K.hZ hS.1
  have hf : T'.vm.findClass y.cls = some m.cls := by rw [hS.1.alike.findClass]; exact K.hown
  exact ⟨X', rfl, K.fr.app hF, K.hx, hW, hf, K.hby, K.hml, K.hret, K.hlk, K.hnm, hO, ⟨⟨T'.vm, T'.heap.size, rfl, g1.trans hS (by rw [K.eT] at hsz; exact Nat.le_trans g2 hsz), Nat.le_refl _⟩, g3.trans hCH, g4⟩⟩
theorem k_static (K : Wk p l e R s m args below meth c Z a0 EL n0 y bytes maxL ret b T h locs cells slots) {i : Nat} {yy : MethodName} {yb : ByteArray} {yml : Nat} {yret : Option FieldType} {rm : Room} {SP : List Addr} {Q : Option Value → Heap → (Addr → Prop) → Prop} {ps : List FieldType} {r : Option FieldType} (argsL rest : List Value) (W : Nat) (wl : (Cond.methodLink y.cls i yy).before a0 Z = true) (ws : (Cond.static yy).before a0 Z = true) (wz : (Cond.initialized yy.cls).before a0 Z = true) (wc : (Cond.code yy yb yml yret).before a0 Z = true) (hy : yy.cls ≠ "java/lang/invoke/MethodHandle" ∧ yy.cls ≠ "java/lang/invoke/VarHandle") (hpd : parseMethodDescriptor yy.desc = some ⟨ps, r⟩) (C : Ct l Z EL n0 yy yb yml yret rm argsL.toArray h SP Q) (hd : decode bytes pc = .ok (.invokestatic i, 3)) (hSP : ∀ x ∈ SP, x < h.size ∧ Sfe Z EL b.vm h x) (hp : pc + 3 = pc') (hsz : Ls.size = maxL) (hlen : argsL.length = ps.length) (hst : st = argsL.reverse ++ rest) (hW : (rest.map fun v => v.category).sum ≤ W) (hfr : rm.frames + 1 ≤ R.frames) (hlo : W + (yml + 11) + rm.locals ≤ R.locals) (hce : cells + rm.cells ≤ R.cells) (hsl : slots + rm.slots ≤ R.slots) (k : ∀ b' T' h' locs' v, Wk p l e R s m args below meth c Z a0 EL n0 y bytes maxL ret b' T' h' locs' (cells + rm.cells) (slots + rm.slots) → (∀ x, x < h.size → Sfe Z EL b.vm h x → Sfe Z EL b'.vm h' x) → Q v h' (Sfe Z EL b'.vm h') → Goes p.tables e below P (T'.setTop (mkF m pc' Ls (v.toList ++ rest)))) : Goes p.tables e below P (T.setTop (mkF m pc Ls st)) := by
  subst hp
  obtain ⟨⟨vm0, k0, eb, g1, g2⟩, g3, g4⟩ := K.bs
  subst eb
  obtain ⟨v, vm1, ⟨T', L', c', n'⟩, -, X', hS', hsz', ⟨Lc, ⟨hF, hO', hQ⟩, l', y', z', hCH⟩, q⟩ := callSS K.X K.hx (yy := yy) K.hown (mvT K.hZ wl) (mvT K.hZ ws) (mvT K.hZ wz) (mvT K.hZ wc) hy (own_back (s := s) (vm0 := vm0) (W := W) C K.hZ wc wz hfr hlo g4 g3.1 hSP) (g := mkF m pc Ls st) rfl (hsz.trans K.hml.symm) (argsL := argsL) (rest := rest) (lenOf hpd hlen) hst (by show 2 * 0 + _ ≤ _; rw [Nat.mul_zero, Nat.zero_add]; exact hW) (hb K.hby hd) (fun _ _ => ⟨rfl, K.eT, hce, hsl⟩)
  dsimp only [Pt.U, Pt.locs, Pt.cells, Pt.slots] at X' l' y' z' q hQ hCH hS' hsz' hO'
  subst l' y' z'
  exact go (fun _ z => q.trans z) (k _ _ _ _ _ (wk_called K (b0 := (s.setVm vm0)) rfl X' hS' hsz' hCH hF hO') (fun x hx z => CHr.safe hCH hx z) hQ)
theorem k_staticP (K : Wk p l e R s m args below meth c Z a0 EL n0 y bytes maxL ret b T h locs cells slots) {i : Nat} {yy : MethodName} {yb : ByteArray} {yml : Nat} {yret : Option FieldType} {rm : Room} {SP : List Addr} {ps : List FieldType} {r : Option FieldType} (argsL rest : List Value) (W : Nat) (wl : (Cond.methodLink y.cls i yy).before a0 Z = true) (ws : (Cond.static yy).before a0 Z = true) (wz : (Cond.initialized yy.cls).before a0 Z = true) (wc : (Cond.code yy yb yml yret).before a0 Z = true) (hy : yy.cls ≠ "java/lang/invoke/MethodHandle" ∧ yy.cls ≠ "java/lang/invoke/VarHandle") (hpd : parseMethodDescriptor yy.desc = some ⟨ps, r⟩) {vv : Option Value} (C : Ct l Z EL n0 yy yb yml yret rm argsL.toArray h SP (Pu vv h)) (hd : decode bytes pc = .ok (.invokestatic i, 3)) (hSP : ∀ x ∈ SP, x < h.size ∧ Sfe Z EL b.vm h x) (hp : pc + 3 = pc') (hsz : Ls.size = maxL) (hlen : argsL.length = ps.length) (hst : st = argsL.reverse ++ rest) (hW : (rest.map fun v => v.category).sum ≤ W) (hfr : rm.frames + 1 ≤ R.frames) (hlo : W + (yml + 11) + rm.locals ≤ R.locals) (hce : cells + rm.cells ≤ R.cells) (hsl : slots + rm.slots ≤ R.slots) (k : ∀ b' T' locs', Wk p l e R s m args below meth c Z a0 EL n0 y bytes maxL ret b' T' h locs' (cells + rm.cells) (slots + rm.slots) → (∀ x, x < h.size → Sfe Z EL b.vm h x → Sfe Z EL b'.vm h x) → Goes p.tables e below P (T'.setTop (mkF m pc' Ls (vv.toList ++ rest)))) : Goes p.tables e below P (T.setTop (mkF m pc Ls st)) := k_static K argsL rest W wl ws wz wc hy hpd C hd hSP hp hsz hlen hst hW hfr hlo hce hsl (fun b' T' h' locs' v K' tr q => by obtain ⟨rfl, rfl⟩ := q; exact k _ _ _ K' tr)
theorem k_special (K : Wk p l e R s m args below meth c Z a0 EL n0 y bytes maxL ret b T h locs cells slots) {i : Nat} {yy : MethodName} {yb : ByteArray} {yml : Nat} {yret : Option FieldType} {rm : Room} {SP : List Addr} {Q : Option Value → Heap → (Addr → Prop) → Prop} {ps : List FieldType} {r : Option FieldType} (argsL rest : List Value) (W : Nat) {a : Addr} (wl : (Cond.methodLink y.cls i yy).before a0 Z = true) (wi : (Cond.instanceMethod yy).before a0 Z = true) (wz : (Cond.initialized yy.cls).before a0 Z = true) (wc : (Cond.code yy yb yml yret).before a0 Z = true) (hin : yy.name = "<init>") (hnr : yret = none) (hy : yy.cls ≠ "java/lang/invoke/MethodHandle" ∧ yy.cls ≠ "java/lang/invoke/VarHandle") (hpd : parseMethodDescriptor yy.desc = some ⟨ps, r⟩) (C : Ct l Z EL n0 yy yb yml yret rm (.ref a :: argsL).toArray h SP Q) (hd : decode bytes pc = .ok (.invokespecial i, 3)) (hSP : ∀ x ∈ SP, x < h.size ∧ Sfe Z EL b.vm h x) (hp : pc + 3 = pc') (hsz : Ls.size = maxL) (hlen : argsL.length = ps.length) (hst : st = argsL.reverse ++ .ref a :: rest) (hW : (rest.map fun v => v.category).sum ≤ W) (hfr : rm.frames + 1 ≤ R.frames) (hlo : W + (yml + 11) + rm.locals ≤ R.locals) (hce : cells + rm.cells ≤ R.cells) (hsl : slots + rm.slots ≤ R.slots) (k : ∀ b' T' h' locs' v, Wk p l e R s m args below meth c Z a0 EL n0 y bytes maxL ret b' T' h' locs' (cells + rm.cells) (slots + rm.slots) → (∀ x, x < h.size → Sfe Z EL b.vm h x → Sfe Z EL b'.vm h' x) → Q v h' (Sfe Z EL b'.vm h') → Goes p.tables e below P (T'.setTop (mkF m pc' Ls (v.toList ++ rest)))) : Goes p.tables e below P (T.setTop (mkF m pc Ls st)) := by
  subst hp
  subst hnr
  obtain ⟨⟨vm0, k0, eb, g1, g2⟩, g3, g4⟩ := K.bs
  subst eb
  obtain ⟨v, vm1, ⟨T', L', c', n'⟩, -, X', hS', hsz', ⟨Lc, ⟨hF, hO', hQ⟩, l', y', z', hCH⟩, q⟩ := K.X.specialBackS K.hx (y := yy) hin K.hown (mvT K.hZ wl) (mvT K.hZ wi) (mvT K.hZ wc) hy (own_back (s := s) (vm0 := vm0) (W := W) C K.hZ wc wz hfr hlo g4 g3.1 hSP) (g := mkF m pc Ls st) rfl (hsz.trans K.hml.symm) (Steps.refl _) (a := a) (argsL := argsL) (rest := rest) (lenOf hpd hlen) hst (by show 2 * 0 + _ ≤ _; rw [Nat.mul_zero, Nat.zero_add]; exact hW) (hb K.hby hd) (fun _ _ => ⟨rfl, K.eT, hce, hsl⟩)
  dsimp only [Pt.U, Pt.locs, Pt.cells, Pt.slots] at X' l' y' z' q hQ hCH hS' hsz' hO'
  subst l' y' z'
  exact go (fun _ z => q.trans z) (k _ _ _ _ _ (wk_called K (b0 := (s.setVm vm0)) rfl X' hS' hsz' hCH hF hO') (fun x hx z => CHr.safe hCH hx z) hQ)
theorem k_specialP (K : Wk p l e R s m args below meth c Z a0 EL n0 y bytes maxL ret b T h locs cells slots) {i : Nat} {yy : MethodName} {yb : ByteArray} {yml : Nat} {yret : Option FieldType} {rm : Room} {SP : List Addr} {ps : List FieldType} {r : Option FieldType} (argsL rest : List Value) (W : Nat) {a : Addr} (wl : (Cond.methodLink y.cls i yy).before a0 Z = true) (wi : (Cond.instanceMethod yy).before a0 Z = true) (wz : (Cond.initialized yy.cls).before a0 Z = true) (wc : (Cond.code yy yb yml yret).before a0 Z = true) (hin : yy.name = "<init>") (hnr : yret = none) (hy : yy.cls ≠ "java/lang/invoke/MethodHandle" ∧ yy.cls ≠ "java/lang/invoke/VarHandle") (hpd : parseMethodDescriptor yy.desc = some ⟨ps, r⟩) {vv : Option Value} (C : Ct l Z EL n0 yy yb yml yret rm (.ref a :: argsL).toArray h SP (Pu vv h)) (hd : decode bytes pc = .ok (.invokespecial i, 3)) (hSP : ∀ x ∈ SP, x < h.size ∧ Sfe Z EL b.vm h x) (hp : pc + 3 = pc') (hsz : Ls.size = maxL) (hlen : argsL.length = ps.length) (hst : st = argsL.reverse ++ .ref a :: rest) (hW : (rest.map fun v => v.category).sum ≤ W) (hfr : rm.frames + 1 ≤ R.frames) (hlo : W + (yml + 11) + rm.locals ≤ R.locals) (hce : cells + rm.cells ≤ R.cells) (hsl : slots + rm.slots ≤ R.slots) (k : ∀ b' T' locs', Wk p l e R s m args below meth c Z a0 EL n0 y bytes maxL ret b' T' h locs' (cells + rm.cells) (slots + rm.slots) → (∀ x, x < h.size → Sfe Z EL b.vm h x → Sfe Z EL b'.vm h x) → Goes p.tables e below P (T'.setTop (mkF m pc' Ls (vv.toList ++ rest)))) : Goes p.tables e below P (T.setTop (mkF m pc Ls st)) := k_special K argsL rest W wl wi wz wc hin hnr hy hpd C hd hSP hp hsz hlen hst hW hfr hlo hce hsl (fun b' T' h' locs' v K' tr q => by obtain ⟨rfl, rfl⟩ := q; exact k _ _ _ K' tr)
theorem k_virtual (K : Wk p l e R s m args below meth c Z a0 EL n0 y bytes maxL ret b T h locs cells slots) {i : Nat} {yy : MethodName} {yb : ByteArray} {yml : Nat} {yret : Option FieldType} {rm : Room} {SP : List Addr} {Q : Option Value → Heap → (Addr → Prop) → Prop} {ps : List FieldType} {r : Option FieldType} (argsL rest : List Value) (W : Nat) {a : Addr} {C0 : String} {yv : MethodName} (wl : (Cond.methodLink y.cls i yv).before a0 Z = true) (wd : (Cond.declares yv).before a0 Z = true) (wi : (Cond.instanceMethod yy).before a0 Z = true) (wse : (Cond.selects C0 yv yy).before a0 Z = true) (wz : (Cond.initialized yy.cls).before a0 Z = true) (wc : (Cond.code yy yb yml yret).before a0 Z = true) (hnf : NotFace b yv) (hvd : yv.desc = yy.desc) (hyv : yv.cls ≠ "java/lang/invoke/MethodHandle" ∧ yv.cls ≠ "java/lang/invoke/VarHandle") (E : Exa Z h a C0) (hy : yy.cls ≠ "java/lang/invoke/MethodHandle" ∧ yy.cls ≠ "java/lang/invoke/VarHandle") (hpd : parseMethodDescriptor yy.desc = some ⟨ps, r⟩) (C : Ct l Z EL n0 yy yb yml yret rm (.ref a :: argsL).toArray h SP Q) (hd : decode bytes pc = .ok (.invokevirtual i, 3)) (hSP : ∀ x ∈ SP, x < h.size ∧ Sfe Z EL b.vm h x) (hp : pc + 3 = pc') (hsz : Ls.size = maxL) (hlen : argsL.length = ps.length) (hst : st = argsL.reverse ++ .ref a :: rest) (hW : (rest.map fun v => v.category).sum ≤ W) (hfr : rm.frames + 1 ≤ R.frames) (hlo : W + (yml + 11) + rm.locals ≤ R.locals) (hce : cells + rm.cells ≤ R.cells) (hsl : slots + rm.slots ≤ R.slots) (k : ∀ b' T' h' locs' v, Wk p l e R s m args below meth c Z a0 EL n0 y bytes maxL ret b' T' h' locs' (cells + rm.cells) (slots + rm.slots) → (∀ x, x < h.size → Sfe Z EL b.vm h x → Sfe Z EL b'.vm h' x) → Q v h' (Sfe Z EL b'.vm h') → Goes p.tables e below P (T'.setTop (mkF m pc' Ls (v.toList ++ rest)))) : Goes p.tables e below P (T.setTop (mkF m pc Ls st)) := by
  subst hp
  obtain ⟨cq, kq, qa, qb, qc⟩ := isOf K.hZ K.eT E
  obtain ⟨⟨vm0, k0, eb, g1, g2⟩, g3, g4⟩ := K.bs
  subst eb
  obtain ⟨v, vm1, ⟨T', L', c', n'⟩, -, X', hS', hsz', ⟨Lc, ⟨hF, hO', hQ⟩, l', y', z', hCH⟩, q⟩ := K.X.virtualBackS K.hx (y := yv) (z := yy) K.hown (mvT K.hZ wl) (mvT K.hZ wd) hnf (mvT K.hZ wse) (mvT K.hZ wi) hyv (own_back (s := s) (vm0 := vm0) (W := W) C K.hZ wc wz hfr hlo g4 g3.1 hSP) qa qc (g := mkF m pc Ls st) rfl (hsz.trans K.hml.symm) (Steps.refl _) (argsL := argsL) (rest := rest) (lenOf (hvd ▸ hpd) hlen) hst (by show 2 * 0 + _ ≤ _; rw [Nat.mul_zero, Nat.zero_add]; exact hW) (hb K.hby hd) (fun _ _ => ⟨rfl, K.eT, hce, hsl⟩)
  dsimp only [Pt.U, Pt.locs, Pt.cells, Pt.slots] at X' l' y' z' q hQ hCH hS' hsz' hO'
  subst l' y' z'
  exact go (fun _ z => q.trans z) (k _ _ _ _ _ (wk_called K (b0 := (s.setVm vm0)) rfl X' hS' hsz' hCH hF hO') (fun x hx z => CHr.safe hCH hx z) hQ)
theorem k_virtualP (K : Wk p l e R s m args below meth c Z a0 EL n0 y bytes maxL ret b T h locs cells slots) {i : Nat} {yy : MethodName} {yb : ByteArray} {yml : Nat} {yret : Option FieldType} {rm : Room} {SP : List Addr} {ps : List FieldType} {r : Option FieldType} (argsL rest : List Value) (W : Nat) {a : Addr} {C0 : String} {yv : MethodName} (wl : (Cond.methodLink y.cls i yv).before a0 Z = true) (wd : (Cond.declares yv).before a0 Z = true) (wi : (Cond.instanceMethod yy).before a0 Z = true) (wse : (Cond.selects C0 yv yy).before a0 Z = true) (wz : (Cond.initialized yy.cls).before a0 Z = true) (wc : (Cond.code yy yb yml yret).before a0 Z = true) (hnf : NotFace b yv) (hvd : yv.desc = yy.desc) (hyv : yv.cls ≠ "java/lang/invoke/MethodHandle" ∧ yv.cls ≠ "java/lang/invoke/VarHandle") (E : Exa Z h a C0) (hy : yy.cls ≠ "java/lang/invoke/MethodHandle" ∧ yy.cls ≠ "java/lang/invoke/VarHandle") (hpd : parseMethodDescriptor yy.desc = some ⟨ps, r⟩) {vv : Option Value} (C : Ct l Z EL n0 yy yb yml yret rm (.ref a :: argsL).toArray h SP (Pu vv h)) (hd : decode bytes pc = .ok (.invokevirtual i, 3)) (hSP : ∀ x ∈ SP, x < h.size ∧ Sfe Z EL b.vm h x) (hp : pc + 3 = pc') (hsz : Ls.size = maxL) (hlen : argsL.length = ps.length) (hst : st = argsL.reverse ++ .ref a :: rest) (hW : (rest.map fun v => v.category).sum ≤ W) (hfr : rm.frames + 1 ≤ R.frames) (hlo : W + (yml + 11) + rm.locals ≤ R.locals) (hce : cells + rm.cells ≤ R.cells) (hsl : slots + rm.slots ≤ R.slots) (k : ∀ b' T' locs', Wk p l e R s m args below meth c Z a0 EL n0 y bytes maxL ret b' T' h locs' (cells + rm.cells) (slots + rm.slots) → (∀ x, x < h.size → Sfe Z EL b.vm h x → Sfe Z EL b'.vm h x) → Goes p.tables e below P (T'.setTop (mkF m pc' Ls (vv.toList ++ rest)))) : Goes p.tables e below P (T.setTop (mkF m pc Ls st)) := k_virtual K argsL rest W wl wd wi wse wz wc hnf hvd hyv E hy hpd C hd hSP hp hsz hlen hst hW hfr hlo hce hsl (fun b' T' h' locs' v K' tr q => by obtain ⟨rfl, rfl⟩ := q; exact k _ _ _ K' tr)
theorem own_sel {args args' : Array Value} {C0 : String} {yv yy : MethodName} (w : (Cond.selects C0 yv yy).before args b = true) : (Cond.selects C0 yv yy).before args' b = true := mvT (State.Warmed39.refl b) w
theorem own_priv (K : Wk p l e R s m args below meth c Z a0 EL n0 y bytes maxL ret b T h locs cells slots) {C0 : String} {n : Nat} {yy : MethodName} (hc0 : C0 = yy.cls) (wi : (Cond.instantiable C0 n).before a0 Z = true) (wim : (Cond.instanceMethod yy).before a0 Z = true) (wpr : (Cond.privateMethod yy).before a0 Z = true) (hy : yy.cls ≠ "java/lang/invoke/MethodHandle" ∧ yy.cls ≠ "java/lang/invoke/VarHandle") : (Cond.selects yy.cls yy yy).before a0 b = true := by
  subst hc0
  have q : (Cond.instantiable yy.cls n).before a0 b = true := mvT K.hZ wi
  obtain ⟨c, k, h1, h2, h3, h4, -⟩ := Cond.instantiable_spec q
  simp only [Bool.or_eq_false_iff] at h4
  exact selects_self_of_private h1 h2 h4.1 (Cond.privateMethod_at (mvP K.hZ wpr (args := #[]))) (mvT K.hZ wim) hy
theorem k_private (K : Wk p l e R s m args below meth c Z a0 EL n0 y bytes maxL ret b T h locs cells slots) {i : Nat} {yy : MethodName} {yb : ByteArray} {yml : Nat} {yret : Option FieldType} {rm : Room} {SP : List Addr} {Q : Option Value → Heap → (Addr → Prop) → Prop} {ps : List FieldType} {r : Option FieldType} (argsL rest : List Value) (W : Nat) {a : Addr} {C0 : String} (wl : (Cond.methodLink y.cls i yy).before a0 Z = true) (wi : (Cond.instanceMethod yy).before a0 Z = true) (wse : (Cond.selects yy.cls yy yy).before a0 b = true) (wpr : (Cond.privateMethod yy).before a0 Z = true) (wz : (Cond.initialized yy.cls).before a0 Z = true) (wc : (Cond.code yy yb yml yret).before a0 Z = true) (E : Exa Z h a C0) (hy : yy.cls ≠ "java/lang/invoke/MethodHandle" ∧ yy.cls ≠ "java/lang/invoke/VarHandle") (hpd : parseMethodDescriptor yy.desc = some ⟨ps, r⟩) (C : Ct l Z EL n0 yy yb yml yret rm (.ref a :: argsL).toArray h SP Q) (hd : decode bytes pc = .ok (.invokevirtual i, 3)) (hSP : ∀ x ∈ SP, x < h.size ∧ Sfe Z EL b.vm h x) (hp : pc + 3 = pc') (hsz : Ls.size = maxL) (hlen : argsL.length = ps.length) (hst : st = argsL.reverse ++ .ref a :: rest) (hW : (rest.map fun v => v.category).sum ≤ W) (hfr : rm.frames + 1 ≤ R.frames) (hlo : W + (yml + 11) + rm.locals ≤ R.locals) (hce : cells + rm.cells ≤ R.cells) (hsl : slots + rm.slots ≤ R.slots) (k : ∀ b' T' h' locs' v, Wk p l e R s m args below meth c Z a0 EL n0 y bytes maxL ret b' T' h' locs' (cells + rm.cells) (slots + rm.slots) → (∀ x, x < h.size → Sfe Z EL b.vm h x → Sfe Z EL b'.vm h' x) → Q v h' (Sfe Z EL b'.vm h') → Goes p.tables e below P (T'.setTop (mkF m pc' Ls (v.toList ++ rest)))) : Goes p.tables e below P (T.setTop (mkF m pc Ls st)) := by
  subst hp
  obtain ⟨cq, qa, qb⟩ := E.cell
  obtain ⟨⟨vm0, k0, eb, g1, g2⟩, g3, g4⟩ := K.bs
  subst eb
  obtain ⟨v, vm1, ⟨T', L', c', n'⟩, -, X', hS', hsz', ⟨Lc, ⟨hF, hO', hQ⟩, l', y', z', hCH⟩, q⟩ := K.X.privateBackS K.hx (y := yy) K.hown (mvT K.hZ wl) (mvT K.hZ wi) (own_sel wse) (Cond.privateMethod_at (mvP K.hZ wpr (args := #[]))) (mvT K.hZ wc) hy (own_back (s := s) (vm0 := vm0) (W := W) C K.hZ wc wz hfr hlo g4 g3.1 hSP) (g := mkF m pc Ls st) rfl (hsz.trans K.hml.symm) (Steps.refl _) (a := a) (by rw [K.eT]; exact qa) qb (argsL := argsL) (rest := rest) (lenOf hpd hlen) hst (by show 2 * 0 + _ ≤ _; rw [Nat.mul_zero, Nat.zero_add]; exact hW) (hb K.hby hd) (fun _ _ => ⟨rfl, K.eT, hce, hsl⟩)
  dsimp only [Pt.U, Pt.locs, Pt.cells, Pt.slots] at X' l' y' z' q hQ hCH hS' hsz' hO'
  subst l' y' z'
  exact go (fun _ z => q.trans z) (k _ _ _ _ _ (wk_called K (b0 := (s.setVm vm0)) rfl X' hS' hsz' hCH hF hO') (fun x hx z => CHr.safe hCH hx z) hQ)
theorem k_privateP (K : Wk p l e R s m args below meth c Z a0 EL n0 y bytes maxL ret b T h locs cells slots) {i : Nat} {yy : MethodName} {yb : ByteArray} {yml : Nat} {yret : Option FieldType} {rm : Room} {SP : List Addr} {ps : List FieldType} {r : Option FieldType} (argsL rest : List Value) (W : Nat) {a : Addr} {C0 : String} (wl : (Cond.methodLink y.cls i yy).before a0 Z = true) (wi : (Cond.instanceMethod yy).before a0 Z = true) (wse : (Cond.selects yy.cls yy yy).before a0 b = true) (wpr : (Cond.privateMethod yy).before a0 Z = true) (wz : (Cond.initialized yy.cls).before a0 Z = true) (wc : (Cond.code yy yb yml yret).before a0 Z = true) (E : Exa Z h a C0) (hy : yy.cls ≠ "java/lang/invoke/MethodHandle" ∧ yy.cls ≠ "java/lang/invoke/VarHandle") (hpd : parseMethodDescriptor yy.desc = some ⟨ps, r⟩) {vv : Option Value} (C : Ct l Z EL n0 yy yb yml yret rm (.ref a :: argsL).toArray h SP (Pu vv h)) (hd : decode bytes pc = .ok (.invokevirtual i, 3)) (hSP : ∀ x ∈ SP, x < h.size ∧ Sfe Z EL b.vm h x) (hp : pc + 3 = pc') (hsz : Ls.size = maxL) (hlen : argsL.length = ps.length) (hst : st = argsL.reverse ++ .ref a :: rest) (hW : (rest.map fun v => v.category).sum ≤ W) (hfr : rm.frames + 1 ≤ R.frames) (hlo : W + (yml + 11) + rm.locals ≤ R.locals) (hce : cells + rm.cells ≤ R.cells) (hsl : slots + rm.slots ≤ R.slots) (k : ∀ b' T' locs', Wk p l e R s m args below meth c Z a0 EL n0 y bytes maxL ret b' T' h locs' (cells + rm.cells) (slots + rm.slots) → (∀ x, x < h.size → Sfe Z EL b.vm h x → Sfe Z EL b'.vm h x) → Goes p.tables e below P (T'.setTop (mkF m pc' Ls (vv.toList ++ rest)))) : Goes p.tables e below P (T.setTop (mkF m pc Ls st)) := k_private K argsL rest W wl wi wse wpr wz wc E hy hpd C hd hSP hp hsz hlen hst hW hfr hlo hce hsl (fun b' T' h' locs' v K' tr q => by obtain ⟨rfl, rfl⟩ := q; exact k _ _ _ K' tr)
theorem k_interface (K : Wk p l e R s m args below meth c Z a0 EL n0 y bytes maxL ret b T h locs cells slots) {i : Nat} {yy : MethodName} {yb : ByteArray} {yml : Nat} {yret : Option FieldType} {rm : Room} {SP : List Addr} {Q : Option Value → Heap → (Addr → Prop) → Prop} {ps : List FieldType} {r : Option FieldType} (argsL rest : List Value) (W : Nat) {a : Addr} {C0 : String} {yv : MethodName} {cnt : Nat} (wl : (Cond.methodLink y.cls i yv).before a0 Z = true) (wd : (Cond.declares yv).before a0 Z = true) (wf : (Cond.interfaceMethod yv.cls yv.cls yv.name yv.desc).before args b = true) (wse : (Cond.selects C0 yv yy).before a0 Z = true) (wi : (Cond.instanceMethod yy).before a0 Z = true) (wpu : (Cond.publicMethod yy).before a0 Z = true) (wun : (Cond.unhidden C0 yv.name yv.desc).before a0 Z = true) (wca : (Cond.castable C0 yv.cls).before a0 Z = true) (wz : (Cond.initialized yy.cls).before a0 Z = true) (wc : (Cond.code yy yb yml yret).before a0 Z = true) (hvd : yv.desc = yy.desc) (hyv : yv.cls ≠ "java/lang/invoke/MethodHandle" ∧ yv.cls ≠ "java/lang/invoke/VarHandle") (E : Exa Z h a C0) (hy : yy.cls ≠ "java/lang/invoke/MethodHandle" ∧ yy.cls ≠ "java/lang/invoke/VarHandle") (hpd : parseMethodDescriptor yy.desc = some ⟨ps, r⟩) (C : Ct l Z EL n0 yy yb yml yret rm (.ref a :: argsL).toArray h SP Q) (hd : decode bytes pc = .ok (.invokeinterface i cnt, 5)) (hSP : ∀ x ∈ SP, x < h.size ∧ Sfe Z EL b.vm h x) (hp : pc + 5 = pc') (hsz : Ls.size = maxL) (hlen : argsL.length = ps.length) (hst : st = argsL.reverse ++ .ref a :: rest) (hW : (rest.map fun v => v.category).sum ≤ W) (hfr : rm.frames + 1 ≤ R.frames) (hlo : W + (yml + 11) + rm.locals ≤ R.locals) (hce : cells + rm.cells ≤ R.cells) (hsl : slots + rm.slots ≤ R.slots) (k : ∀ b' T' h' locs' v, Wk p l e R s m args below meth c Z a0 EL n0 y bytes maxL ret b' T' h' locs' (cells + rm.cells) (slots + rm.slots) → (∀ x, x < h.size → Sfe Z EL b.vm h x → Sfe Z EL b'.vm h' x) → Q v h' (Sfe Z EL b'.vm h') → Goes p.tables e below P (T'.setTop (mkF m pc' Ls (v.toList ++ rest)))) : Goes p.tables e below P (T.setTop (mkF m pc Ls st)) := by
  subst hp
  obtain ⟨cq, kq, qa, qb, qc⟩ := isOf K.hZ K.eT E
  obtain ⟨⟨vm0, k0, eb, g1, g2⟩, g3, g4⟩ := K.bs
  subst eb
  obtain ⟨v, vm1, ⟨T', L', c', n'⟩, -, X', hS', hsz', ⟨Lc, ⟨hF, hO', hQ⟩, l', y', z', hCH⟩, q⟩ := K.X.interfaceBackS K.hx (xi := yv) (y := yy) K.hown (mvT K.hZ wl) (mvT K.hZ wd) wf (mvT K.hZ wse) (mvT K.hZ wi) (mvT K.hZ wpu) (mvT K.hZ wun) (mvT K.hZ wca) hyv (own_back (s := s) (vm0 := vm0) (W := W) C K.hZ wc wz hfr hlo g4 g3.1 hSP) qa qb qc (g := mkF m pc Ls st) rfl (hsz.trans K.hml.symm) (Steps.refl _) (argsL := argsL) (rest := rest) (lenOf (hvd ▸ hpd) hlen) hst (by show 2 * 0 + _ ≤ _; rw [Nat.mul_zero, Nat.zero_add]; exact hW) (hb K.hby hd) (fun _ _ => ⟨rfl, K.eT, hce, hsl⟩)
  dsimp only [Pt.U, Pt.locs, Pt.cells, Pt.slots] at X' l' y' z' q hQ hCH hS' hsz' hO'
  subst l' y' z'
  exact go (fun _ z => q.trans z) (k _ _ _ _ _ (wk_called K (b0 := (s.setVm vm0)) rfl X' hS' hsz' hCH hF hO') (fun x hx z => CHr.safe hCH hx z) hQ)
theorem k_interfaceP (K : Wk p l e R s m args below meth c Z a0 EL n0 y bytes maxL ret b T h locs cells slots) {i : Nat} {yy : MethodName} {yb : ByteArray} {yml : Nat} {yret : Option FieldType} {rm : Room} {SP : List Addr} {ps : List FieldType} {r : Option FieldType} (argsL rest : List Value) (W : Nat) {a : Addr} {C0 : String} {yv : MethodName} {cnt : Nat} (wl : (Cond.methodLink y.cls i yv).before a0 Z = true) (wd : (Cond.declares yv).before a0 Z = true) (wf : (Cond.interfaceMethod yv.cls yv.cls yv.name yv.desc).before args b = true) (wse : (Cond.selects C0 yv yy).before a0 Z = true) (wi : (Cond.instanceMethod yy).before a0 Z = true) (wpu : (Cond.publicMethod yy).before a0 Z = true) (wun : (Cond.unhidden C0 yv.name yv.desc).before a0 Z = true) (wca : (Cond.castable C0 yv.cls).before a0 Z = true) (wz : (Cond.initialized yy.cls).before a0 Z = true) (wc : (Cond.code yy yb yml yret).before a0 Z = true) (hvd : yv.desc = yy.desc) (hyv : yv.cls ≠ "java/lang/invoke/MethodHandle" ∧ yv.cls ≠ "java/lang/invoke/VarHandle") (E : Exa Z h a C0) (hy : yy.cls ≠ "java/lang/invoke/MethodHandle" ∧ yy.cls ≠ "java/lang/invoke/VarHandle") (hpd : parseMethodDescriptor yy.desc = some ⟨ps, r⟩) {vv : Option Value} (C : Ct l Z EL n0 yy yb yml yret rm (.ref a :: argsL).toArray h SP (Pu vv h)) (hd : decode bytes pc = .ok (.invokeinterface i cnt, 5)) (hSP : ∀ x ∈ SP, x < h.size ∧ Sfe Z EL b.vm h x) (hp : pc + 5 = pc') (hsz : Ls.size = maxL) (hlen : argsL.length = ps.length) (hst : st = argsL.reverse ++ .ref a :: rest) (hW : (rest.map fun v => v.category).sum ≤ W) (hfr : rm.frames + 1 ≤ R.frames) (hlo : W + (yml + 11) + rm.locals ≤ R.locals) (hce : cells + rm.cells ≤ R.cells) (hsl : slots + rm.slots ≤ R.slots) (k : ∀ b' T' locs', Wk p l e R s m args below meth c Z a0 EL n0 y bytes maxL ret b' T' h locs' (cells + rm.cells) (slots + rm.slots) → (∀ x, x < h.size → Sfe Z EL b.vm h x → Sfe Z EL b'.vm h x) → Goes p.tables e below P (T'.setTop (mkF m pc' Ls (vv.toList ++ rest)))) : Goes p.tables e below P (T.setTop (mkF m pc Ls st)) := k_interface K argsL rest W wl wd wf wse wi wpu wun wca wz wc hvd hyv E hy hpd C hd hSP hp hsz hlen hst hW hfr hlo hce hsl (fun b' T' h' locs' v K' tr q => by obtain ⟨rfl, rfl⟩ := q; exact k _ _ _ K' tr)
theorem k_super (K : Wk p l e R s m args below meth c Z a0 EL n0 y bytes maxL ret b T h locs cells slots) {i : Nat} {yy : MethodName} {yb : ByteArray} {yml : Nat} {yret : Option FieldType} {rm : Room} {SP : List Addr} {Q : Option Value → Heap → (Addr → Prop) → Prop} {ps : List FieldType} {r : Option FieldType} (argsL rest : List Value) (W : Nat) {a : Addr} {C0 : String} (wl : (Cond.methodLink y.cls i yy).before a0 Z = true) (wsm : (Cond.sameMethod yy.cls yy.cls yy.name yy.desc).before a0 Z = true) (wi : (Cond.instanceMethod yy).before a0 Z = true) (wsu : (Cond.superclass y.cls yy.cls).before a0 Z = true) (hni : yy.name ≠ "<init>") (wz : (Cond.initialized yy.cls).before a0 Z = true) (wc : (Cond.code yy yb yml yret).before a0 Z = true) (E : Ins Z h a C0 true) (hy : yy.cls ≠ "java/lang/invoke/MethodHandle" ∧ yy.cls ≠ "java/lang/invoke/VarHandle") (hpd : parseMethodDescriptor yy.desc = some ⟨ps, r⟩) (C : Ct l Z EL n0 yy yb yml yret rm (.ref a :: argsL).toArray h SP Q) (hd : decode bytes pc = .ok (.invokespecial i, 3)) (hSP : ∀ x ∈ SP, x < h.size ∧ Sfe Z EL b.vm h x) (hp : pc + 3 = pc') (hsz : Ls.size = maxL) (hlen : argsL.length = ps.length) (hst : st = argsL.reverse ++ .ref a :: rest) (hW : (rest.map fun v => v.category).sum ≤ W) (hfr : rm.frames + 1 ≤ R.frames) (hlo : W + (yml + 11) + rm.locals ≤ R.locals) (hce : cells + rm.cells ≤ R.cells) (hsl : slots + rm.slots ≤ R.slots) (k : ∀ b' T' h' locs' v, Wk p l e R s m args below meth c Z a0 EL n0 y bytes maxL ret b' T' h' locs' (cells + rm.cells) (slots + rm.slots) → (∀ x, x < h.size → Sfe Z EL b.vm h x → Sfe Z EL b'.vm h' x) → Q v h' (Sfe Z EL b'.vm h') → Goes p.tables e below P (T'.setTop (mkF m pc' Ls (v.toList ++ rest)))) : Goes p.tables e below P (T.setTop (mkF m pc Ls st)) := by
  subst hp
  obtain ⟨⟨vm0, k0, eb, g1, g2⟩, g3, g4⟩ := K.bs
  subst eb
  obtain ⟨v, vm1, ⟨T', L', c', n'⟩, -, X', hS', hsz', ⟨Lc, ⟨hF, hO', hQ⟩, l', y', z', hCH⟩, q⟩ := superBackS K.X K.hx K.hZ (y := yy) K.hown wl wsm wi wsu hni (own_back (s := s) (vm0 := vm0) (W := W) C K.hZ wc wz hfr hlo g4 g3.1 hSP) K.eT E (g := mkF m pc Ls st) rfl (hsz.trans K.hml.symm) wc (argsL := argsL) (rest := rest) (lenOf hpd hlen) hst (by show 2 * 0 + _ ≤ _; rw [Nat.mul_zero, Nat.zero_add]; exact hW) (hb K.hby hd) (fun _ _ => ⟨rfl, K.eT, hce, hsl⟩)
  dsimp only [Pt.U, Pt.locs, Pt.cells, Pt.slots] at X' l' y' z' q hQ hCH hS' hsz' hO'
  subst l' y' z'
  exact go (fun _ z => q.trans z) (k _ _ _ _ _ (wk_called K (b0 := (s.setVm vm0)) rfl X' hS' hsz' hCH hF hO') (fun x hx z => CHr.safe hCH hx z) hQ)
theorem k_superP (K : Wk p l e R s m args below meth c Z a0 EL n0 y bytes maxL ret b T h locs cells slots) {i : Nat} {yy : MethodName} {yb : ByteArray} {yml : Nat} {yret : Option FieldType} {rm : Room} {SP : List Addr} {ps : List FieldType} {r : Option FieldType} (argsL rest : List Value) (W : Nat) {a : Addr} {C0 : String} (wl : (Cond.methodLink y.cls i yy).before a0 Z = true) (wsm : (Cond.sameMethod yy.cls yy.cls yy.name yy.desc).before a0 Z = true) (wi : (Cond.instanceMethod yy).before a0 Z = true) (wsu : (Cond.superclass y.cls yy.cls).before a0 Z = true) (hni : yy.name ≠ "<init>") (wz : (Cond.initialized yy.cls).before a0 Z = true) (wc : (Cond.code yy yb yml yret).before a0 Z = true) (E : Ins Z h a C0 true) (hy : yy.cls ≠ "java/lang/invoke/MethodHandle" ∧ yy.cls ≠ "java/lang/invoke/VarHandle") (hpd : parseMethodDescriptor yy.desc = some ⟨ps, r⟩) {vv : Option Value} (C : Ct l Z EL n0 yy yb yml yret rm (.ref a :: argsL).toArray h SP (Pu vv h)) (hd : decode bytes pc = .ok (.invokespecial i, 3)) (hSP : ∀ x ∈ SP, x < h.size ∧ Sfe Z EL b.vm h x) (hp : pc + 3 = pc') (hsz : Ls.size = maxL) (hlen : argsL.length = ps.length) (hst : st = argsL.reverse ++ .ref a :: rest) (hW : (rest.map fun v => v.category).sum ≤ W) (hfr : rm.frames + 1 ≤ R.frames) (hlo : W + (yml + 11) + rm.locals ≤ R.locals) (hce : cells + rm.cells ≤ R.cells) (hsl : slots + rm.slots ≤ R.slots) (k : ∀ b' T' locs', Wk p l e R s m args below meth c Z a0 EL n0 y bytes maxL ret b' T' h locs' (cells + rm.cells) (slots + rm.slots) → (∀ x, x < h.size → Sfe Z EL b.vm h x → Sfe Z EL b'.vm h x) → Goes p.tables e below P (T'.setTop (mkF m pc' Ls (vv.toList ++ rest)))) : Goes p.tables e below P (T.setTop (mkF m pc Ls st)) := k_super K argsL rest W wl wsm wi wsu hni wz wc E hy hpd C hd hSP hp hsz hlen hst hW hfr hlo hce hsl (fun b' T' h' locs' v K' tr q => by obtain ⟨rfl, rfl⟩ := q; exact k _ _ _ K' tr)
theorem k_initO (K : Wk p l e R s m args below meth c Z a0 EL n0 y bytes maxL ret b T h locs cells slots) {i : Nat} {a : Addr} (wl : (Cond.methodLink y.cls i Lib.objectInit).before a0 Z = true) (wi : (Cond.instanceMethod Lib.objectInit).before a0 Z = true) (wc : (Cond.code Lib.objectInit ⟨#[0xb1]⟩ 1 none).before a0 Z = true) (hd : decode bytes pc = .ok (.invokespecial i, 3)) (hp : pc + 3 = pc') (hsz : Ls.size = maxL) (hfr : 1 ≤ R.frames) (W : Nat) (hW : (st.map fun v => v.category).sum ≤ W) (hlo : W + 12 ≤ R.locals) (k : ∀ T', Wk p l e R s m args below meth c Z a0 EL n0 y bytes maxL ret b T' h locs cells slots → Goes p.tables e below P (T'.setTop (mkF m pc' Ls st))) : Goes p.tables e below P (T.setTop (mkF m pc Ls (.ref a :: st))) := by
  subst hp
  obtain ⟨T', X', e', q⟩ := initO K.X K.hx K.hZ K.hown wl wi wc K.eT (g := mkF m pc Ls (.ref a :: st)) rfl (hsz.trans K.hml.symm) rfl (hb K.hby hd) hfr (W := W) (by show 2 * 0 + _ ≤ _; rw [Nat.mul_zero, Nat.zero_add]; exact hW) hlo
  exact go q (k T' (K.move X' e' K.fr K.old K.bs))
theorem k_ldcS (K : Wk p l e R s m args below meth c Z a0 EL n0 y bytes maxL ret b T h locs cells slots) {i : Nat} {text : String} {vs : List Value} {z : Int32} (wd : (Cond.stringLink y.cls i text).before a0 Z = true) (wS : ∀ a ∈ Bundle.stringAtoms, a.before a0 Z = true) (hmem : (y.cls, i) ∈ EL) (ht : (∀ c ∈ text.toList, c.toNat < 256) ∧ text.toList.map (fun c => Value.int (Jvm.Lit.byteI c.toNat.toUInt16)) = vs) (hz : ¬ z < 0) (hl : z.toNatClampNeg = vs.length) (n : Nat) (hn : 4 * text.toList.length ≤ n) (hbig : n ≤ 536870912) (hd : decode bytes pc = .ok (.ldc i, 2)) (hp : pc + 2 = pc') (hce : cells + 2 ≤ R.cells) (hsl : slots + (n + 4) ≤ R.slots) (k : ∀ b' T' h' a d kd, Wk p l e R s m args below meth c Z a0 EL n0 y bytes maxL ret b' T' h' locs (cells + 2) (slots + (n + 4)) → Ext h h' → (∀ x, x < h.size → Sfe Z EL b.vm h x → Sfe Z EL b'.vm h' x) → Exa Z h' a "java/lang/String" → Fld Z h' a "java/lang/String" "coder" "B" (.int 0) → Fld Z h' a "java/lang/String" "value" "[B" (.ref d) → Arv Z h' d kd .byte z vs (.int 0) → (∀ x, Sfe Z EL b'.vm h' x → x ≠ a ∧ x ≠ d) → Goes p.tables e below P (T'.setTop (mkF m pc' Ls (.ref a :: st)))) : Goes p.tables e below P (T.setTop (mkF m pc Ls st)) := by
  subst hp
  obtain ⟨⟨vm0, k0, eb, g1, g2⟩, g3, g4⟩ := K.bs
  subst eb
  obtain ⟨a, T', h', k1, d, kd, X', e', E', hS', hk1, hW, hf, A1, A2, A3, A4, -, -, hCr, -, hne, q⟩ := ldcCH K.X K.hx K.hZ K.hown wd wS K.eT g1 g2 g4 hmem g3.1 ht hz hl (g := mkF m pc Ls st) rfl (hb K.hby hd) hn hbig hce hsl
  exact go q (k (s.setVm T'.vm) T' h' a d kd ⟨X', e', K.fr, K.hx, hW, hf, K.hby, K.hml, K.hret, K.hlk, K.hnm, K.old.ext E', ⟨⟨T'.vm, k1, rfl, hS', hk1⟩, g3.trans hCr, g4⟩⟩ E' (fun x hx z => CHr.safe hCr hx z) A1 A2 A3 A4 hne)
theorem k_ldcO (K : Wk p l e R s m args below meth c Z a0 EL n0 y bytes maxL ret b T h locs cells slots) {i : Nat} {text : String} (wd : (Cond.stringLink y.cls i text).before a0 Z = true) (wS : ∀ a ∈ Bundle.stringAtoms, a.before a0 Z = true) (n : Nat) (hn : 4 * text.toList.length ≤ n) (hbig : n ≤ 536870912) (hd : decode bytes pc = .ok (.ldc i, 2)) (hp : pc + 2 = pc') (hce : cells + 2 ≤ R.cells) (hsl : slots + (n + 4) ≤ R.slots) (k : ∀ b' T' h' a, Wk p l e R s m args below meth c Z a0 EL n0 y bytes maxL ret b' T' h' locs (cells + 2) (slots + (n + 4)) → Ext h h' → (∀ x, x < h.size → Sfe Z EL b.vm h x → Sfe Z EL b'.vm h' x) → Goes p.tables e below P (T'.setTop (mkF m pc' Ls (.ref a :: st)))) : Goes p.tables e below P (T.setTop (mkF m pc Ls st)) := by
  subst hp
  obtain ⟨⟨vm0, k0, eb, g1, g2⟩, g3, g4⟩ := K.bs
  subst eb
  obtain ⟨a, T', h', k1, X', e', E', hS', hk1, hW, hf, hCr, -, q⟩ := ldcOH K.X K.hx K.hZ K.hown wd wS K.eT g1 g2 g4 g3.1 (g := mkF m pc Ls st) rfl (hb K.hby hd) hn hbig hce hsl
  exact go q (k (s.setVm T'.vm) T' h' a ⟨X', e', K.fr, K.hx, hW, hf, K.hby, K.hml, K.hret, K.hlk, K.hnm, K.old.ext E', ⟨⟨T'.vm, k1, rfl, hS', hk1⟩, g3.trans hCr, g4⟩⟩ E' (fun x hx z => CHr.safe hCr hx z))
end Own
abbrev Tb (a0 : Array Value) (Z : State) : Prop := ∀ d ∈ tables_1, d.before a0 Z = true
def EL0 : List (String × Nat) := consts_1
theorem own_refc {v : Value} (h : v.isRef = true) : v = .null ∨ ∃ r, v = .ref r := by cases v <;> simp_all [Value.isRef]
theorem own_n0 {Z : State} {n0 : Nat} {h : Heap} (O : Old Z n0 h) : n0 ≤ h.size := O.1 ▸ O.2.1
theorem own_ne {x a : Addr} {h : Heap} (q : x < h.size) (g : a = h.size) : x ≠ a := fun e => by rw [e, g] at q; exact Nat.lt_irrefl _ q
theorem own_ne2 {x a : Addr} {h : Heap} (q : x < h.size) (g : h.size ≤ a) : x ≠ a := Nat.ne_of_lt (Nat.lt_of_lt_of_le q g)
theorem own_old {Z : State} {n0 : Nat} {h : Heap} {a : Addr} (O : Old Z n0 h) (g : a = h.size) : n0 ≤ a := g ▸ own_n0 O
def Str (Z : State) (h : Heap) (a b : Addr) (k : ClassId) (cd z : Int32) (vs : List Value) : Prop := Exa Z h a "java/lang/String" ∧ Fld Z h a "java/lang/String" "coder" "B" (.int cd) ∧ Fld Z h a "java/lang/String" "value" "[B" (.ref b) ∧ Arv Z h b k .byte z vs (.int 0)
section StrFacts
variable {Z : State} {h h' : Heap} {a b x : Addr} {k : ClassId} {cd z : Int32} {vs : List Value} {sl : Nat} {v : Value} {ws : List Addr}
theorem Str.ext (S : Str Z h a b k cd z vs) (E : Ext h h') : Str Z h' a b k cd z vs := ⟨S.1.ext E, S.2.1.ext E, S.2.2.1.ext E, S.2.2.2.ext E⟩
theorem Str.keep (S : Str Z h a b k cd z vs) (K : Keep h h' ws) (q1 : a ∉ ws) (q2 : b ∉ ws) : Str Z h' a b k cd z vs := ⟨S.1.keep K, S.2.1.keep K q1, S.2.2.1.keep K q1, S.2.2.2.keep K q2⟩
theorem Str.other (S : Str Z h a b k cd z vs) (W : Wr h h' x sl v) (q1 : a ≠ x) (q2 : b ≠ x) : Str Z h' a b k cd z vs := ⟨S.1.wr W, S.2.1.other W (Or.inl q1), S.2.2.1.other W (Or.inl q1), S.2.2.2.other W q2⟩
theorem Str.lt (S : Str Z h a b k cd z vs) : a < h.size := S.1.lt
theorem Str.blt (S : Str Z h a b k cd z vs) : b < h.size := S.2.2.2.lt
end StrFacts
theorem own_i32 {a b : Int32} : a < b ↔ a.toInt < b.toInt := Int32.lt_iff_toInt_lt
theorem own_i32e {a b : Int32} (h : a.toInt = b.toInt) : a = b := Int32.toInt_inj.mp h
theorem own_0 : (0 : Int32).toInt = 0 := by decide
theorem own_1 : (1 : Int32).toInt = 1 := by decide
theorem own_255 : (255 : Int32).toInt = 255 := by decide
theorem own_add1 {i : Int32} {n : Nat} (h : i.toInt = n) (hn : n < 2147483647) : (i + 1).toInt = (n + 1 : Nat) := by
  rw [XT.add32 (by rw [h, own_1]; constructor <;> omega), h, own_1]; omega
theorem own_clamp {i : Int32} {n : Nat} (h : i.toInt = n) : i.toNatClampNeg = n := by rw [Int32.toNatClampNeg, h]; rfl
theorem own_in {i z : Int32} {n m : Nat} (h : i.toInt = n) (hz : z.toInt = m) (q : n < m) : ¬ i < 0 ∧ i < z := by
  rw [own_i32, own_i32, h, hz, own_0]; omega
def byteV (c : Int32) : Value := .int c.toInt8.toInt32
def preN : List Int32 → Nat
  | [] => 0
  | c :: t => if (255 : Int32) < c then 0 else preN t + 1
def fillL (cs : List Int32) (i : Nat) : List Value := (cs.take i).map byteV ++ List.replicate (cs.length - i) (.int 0)
theorem fillL_len (cs : List Int32) (i : Nat) (h : i ≤ cs.length) : (fillL cs i).length = cs.length := by simp [fillL]; omega
theorem fillL_zero (cs : List Int32) : fillL cs 0 = List.replicate cs.length (.int 0) := by simp [fillL]
theorem fillL_set (cs : List Int32) (i : Nat) (h : i < cs.length) : (fillL cs i).set i (byteV cs[i]) = fillL cs (i + 1) := by
  apply List.ext_getElem?
  intro j
  have e1 : (List.take i (List.map byteV cs)).length = i := by simp; omega
  simp only [fillL, List.getElem?_set, List.map_take, List.getElem?_append, List.length_take, List.length_map, List.getElem?_take, List.getElem?_map, List.getElem?_replicate, List.length_append, List.length_replicate]
  rcases Nat.lt_trichotomy j i with q | q | q
  · simp [show ¬ i = j by omega, show j < i by omega, show j < i + 1 by omega, show j < cs.length by omega, show i < cs.length by omega, Nat.min_eq_left (show i ≤ cs.length by omega), Nat.min_eq_left (show i + 1 ≤ cs.length by omega)]
  · subst q; simp [h, Nat.min_eq_left (show j ≤ cs.length by omega), Nat.min_eq_left (show j + 1 ≤ cs.length by omega)]; omega
  · simp [show ¬ i = j by omega, show ¬ j < i by omega, show ¬ j < i + 1 by omega, Nat.min_eq_left (show i ≤ cs.length by omega), Nat.min_eq_left (show i + 1 ≤ cs.length by omega), show ¬ j < i from by omega]
    congr 1
    apply propext; omega
theorem preN_le : ∀ cs : List Int32, preN cs ≤ cs.length
  | [] => Nat.le_refl _
  | c :: t => by unfold preN; split <;> simp; exact preN_le t
theorem preN_at : ∀ (cs : List Int32) (i : Nat) (h : i < cs.length), (∀ j (hj : j < i), ¬ (255 : Int32) < cs[j]) → (255 : Int32) < cs[i] → preN cs = i
  | c :: t, 0, h, _, q => by unfold preN; exact if_pos q
  | c :: t, i + 1, h, hl, q => by
    unfold preN
    have h0 : ¬ (255 : Int32) < c := hl 0 (by omega)
    rw [if_neg h0, preN_at t i (by simpa using h) (fun j hj => hl (j + 1) (by omega)) q]
theorem preN_all : ∀ (cs : List Int32), (∀ j (hj : j < cs.length), ¬ (255 : Int32) < cs[j]) → preN cs = cs.length
  | [], _ => rfl
  | c :: t, h => by
    have h0 : ¬ (255 : Int32) < c := h 0 (by simp)
    unfold preN; rw [if_neg h0, preN_all t fun j hj => h (j + 1) (by simpa using hj)]; rfl
theorem own_byte (c : Int32) : nar .byte c.toInt8.toInt32 = c.toInt8.toInt32 := by simp [nar]
theorem own_getD (cs : List Int32) (i : Nat) (h : i < cs.length) : (cs.map Value.int).getD i (.int 0) = .int cs[i] := by simp [List.getD_eq_getElem?_getD, h]
theorem d_jdk_52_method_21_code_0 : decode jdk_52_method_21_code 0 = .ok (.iconst 0, 1) := by decide +kernel
theorem d_jdk_52_method_21_code_1 : decode jdk_52_method_21_code 1 = .ok (.istore 5, 2) := by decide +kernel
theorem d_jdk_52_method_21_code_3 : decode jdk_52_method_21_code 3 = .ok (.iload 5, 2) := by decide +kernel
theorem d_jdk_52_method_21_code_5 : decode jdk_52_method_21_code 5 = .ok (.iload 4, 2) := by decide +kernel
theorem d_jdk_52_method_21_code_7 : decode jdk_52_method_21_code 7 = .ok (.if_icmp .ge 37, 3) := by decide +kernel
theorem d_jdk_52_method_21_code_44 : decode jdk_52_method_21_code 44 = .ok (.iload 4, 2) := by decide +kernel
theorem d_jdk_52_method_21_code_46 : decode jdk_52_method_21_code 46 = .ok (.ireturn, 1) := by decide +kernel
theorem d_jdk_52_method_21_code_10 : decode jdk_52_method_21_code 10 = .ok (.aload_n 0, 1) := by decide +kernel
theorem d_jdk_52_method_21_code_11 : decode jdk_52_method_21_code 11 = .ok (.iload_n 1, 1) := by decide +kernel
theorem d_jdk_52_method_21_code_12 : decode jdk_52_method_21_code 12 = .ok (.caload, 1) := by decide +kernel
theorem d_jdk_52_method_21_code_13 : decode jdk_52_method_21_code 13 = .ok (.istore 6, 2) := by decide +kernel
theorem d_jdk_52_method_21_code_15 : decode jdk_52_method_21_code 15 = .ok (.iload 6, 2) := by decide +kernel
theorem d_jdk_52_method_21_code_17 : decode jdk_52_method_21_code 17 = .ok (.sipush 255, 3) := by decide +kernel
theorem d_jdk_52_method_21_code_20 : decode jdk_52_method_21_code 20 = .ok (.if_icmp .le 6, 3) := by decide +kernel
theorem d_jdk_52_method_21_code_26 : decode jdk_52_method_21_code 26 = .ok (.aload_n 2, 1) := by decide +kernel
theorem d_jdk_52_method_21_code_27 : decode jdk_52_method_21_code 27 = .ok (.iload_n 3, 1) := by decide +kernel
theorem d_jdk_52_method_21_code_28 : decode jdk_52_method_21_code 28 = .ok (.iload 6, 2) := by decide +kernel
theorem d_jdk_52_method_21_code_30 : decode jdk_52_method_21_code 30 = .ok (.i2b, 1) := by decide +kernel
theorem d_jdk_52_method_21_code_31 : decode jdk_52_method_21_code 31 = .ok (.bastore, 1) := by decide +kernel
theorem d_jdk_52_method_21_code_32 : decode jdk_52_method_21_code 32 = .ok (.iinc 1 1, 3) := by decide +kernel
theorem d_jdk_52_method_21_code_35 : decode jdk_52_method_21_code 35 = .ok (.iinc 3 1, 3) := by decide +kernel
theorem d_jdk_52_method_21_code_38 : decode jdk_52_method_21_code 38 = .ok (.iinc 5 1, 3) := by decide +kernel
theorem d_jdk_52_method_21_code_41 : decode jdk_52_method_21_code 41 = .ok (.goto (-38), 3) := by decide +kernel
theorem d_jdk_52_method_21_code_23 : decode jdk_52_method_21_code 23 = .ok (.iload 5, 2) := by decide +kernel
theorem d_jdk_52_method_21_code_25 : decode jdk_52_method_21_code 25 = .ok (.ireturn, 1) := by decide +kernel
theorem pl_java_lang_StringUTF16 : plainName "java/lang/StringUTF16" = true := by first | (simp [plainName, overriddenIn]; done) | decide +kernel
set_option maxRecDepth 65536 in
set_option maxHeartbeats 40000000 in
theorem c_compress5 (l : Launch) (Z : State) (a0 : Array Value) (hw : Tb a0 Z) (hEW : EW Z a0 EL0) (n0 : Nat) (va d : Addr) (kv kd : ClassId) (n : Int32) (cs : List Int32) (h0 : Heap) (O : Old Z n0 h0) (hn : n.toInt = cs.length) (hb : cs.length ≤ 4000) (V1 : Arv Z h0 va kv .char n (cs.map Value.int) (.int 0)) (V2 : Arv Z h0 d kd .byte n (List.replicate cs.length (.int 0)) (.int 0)) (ne_va_d : va ≠ d) (ga_d : n0 ≤ d) :
    Ct l Z EL0 n0 (⟨"java/lang/StringUTF16", "compress", "([CI[BII)I"⟩ : MethodName) jdk_52_method_21_code 7 (some .int) ({ frames := 0, cells := 0, slots := 0, locals := 0 } : Room) #[(.ref va), (.int (0 : Int32)), (.ref d), (.int (0 : Int32)), (.int n)] h0 [d] (fun v h _ => v = some (.int (Int32.ofNat (preN cs))) ∧ Keep h0 h [d] ∧ Arv Z h d kd .byte n (fillL cs (preN cs)) (.int 0)) := by
  refine Ct.of (a0 := a0) #[.val (.ref va), .val (.int (0 : Int32)), .val (.ref d), .val (.int (0 : Int32)), .val (.int n), .unset, .unset] hEW O (plainFor_of_name pl_java_lang_StringUTF16) (fun m => by first | (simp [entryFrame, mkF, argsToLocals, Value.category]; done) | rfl) ?_
  intro p_ e_ s_ m_ below_ meth_ c_ b_ T_ K hSP
  refine k_iconst K (0 : Int32) d_jdk_52_method_21_code_0 (pc' := 1) rfl rfl ?_
  refine k_istore K d_jdk_52_method_21_code_1 (pc' := 3) (L' := #[.val (.ref va), .val (.int (0 : Int32)), .val (.ref d), .val (.int (0 : Int32)), .val (.int n), .val (.int (0 : Int32)), .unset]) rfl rfl ?_
  have LOOP : ∀ (k : Nat) (i : Int32) (j : Nat) (hj : i.toInt = j) (hk : j + k = cs.length) (hlow : ∀ x (hx : x < j), ¬ (255 : Int32) < cs[x]) (s6 : Slot) (hs6 : s6 = .unset ∨ ∃ w, s6 = .val (.int w)) (bl Tl : State) (hl : Heap) (Ll : List Loc), Wk p_ l e_ ({ frames := 0, cells := 0, slots := 0, locals := 0 } : Room) s_ m_ #[(.ref va), (.int (0 : Int32)), (.ref d), (.int (0 : Int32)), (.int n)] below_ meth_ c_ Z a0 EL0 n0 (⟨"java/lang/StringUTF16", "compress", "([CI[BII)I"⟩ : MethodName) jdk_52_method_21_code 7 (some .int) bl Tl hl Ll 0 0 → (Keep h0 hl [d]) → (Arv Z hl va kv .char n (cs.map Value.int) (.int 0)) → (Arv Z hl d kd .byte n (fillL cs j) (.int 0)) → (Sfe Z EL0 bl.vm hl d) → Goes p_.tables e_ below_ (FinW Z EL0 s_ n0 ({ frames := 0, cells := 0, slots := 0, locals := 0 } : Room) (fun v h _ => v = some (.int (Int32.ofNat (preN cs))) ∧ Keep h0 h [d] ∧ Arv Z h d kd .byte n (fillL cs (preN cs)) (.int 0))) (Tl.setTop (mkF m_ 3 #[.val (.ref va), .val (.int i), .val (.ref d), .val (.int i), .val (.int n), .val (.int i), s6] [])) := by
    intro k
    induction k with
    | zero =>
      intro i j hj hk hlow s6 hs6 bl Tl hl Ll Kl KP V_va V_d sf_d
      refine k_iload Kl d_jdk_52_method_21_code_3 (pc' := 5) rfl rfl ?_
      refine k_iload Kl d_jdk_52_method_21_code_5 (pc' := 7) rfl rfl ?_
      refine k_icmp_ge Kl d_jdk_52_method_21_code_7 (by decide) (pc' := 44) (pc2 := 10) (by decide) rfl (fun hc7 => ?_) (fun q => absurd q (by rw [own_i32, hj, hn]; omega))
      refine k_iload Kl d_jdk_52_method_21_code_44 (pc' := 46) rfl rfl ?_
      have ej : j = cs.length := by omega
      subst ej
      have ep := preN_all cs hlow
      have en : n = Int32.ofNat (preN cs) := own_i32e (by rw [hn, ep, Int32.toInt_ofNat_of_lt (by omega)])
      exact k_iret Kl d_jdk_52_method_21_code_46 rfl (fun sf ht => ⟨by rw [en], KP, by rw [ep]; exact V_d⟩) (by decide) (by decide)
    | succ k ih =>
      intro i j hj hk hlow s6 hs6 bl Tl hl Ll Kl KP V_va V_d sf_d
      have hjl : j < cs.length := by omega
      refine k_iload Kl d_jdk_52_method_21_code_3 (pc' := 5) rfl rfl ?_
      refine k_iload Kl d_jdk_52_method_21_code_5 (pc' := 7) rfl rfl ?_
      refine k_icmp_ge Kl d_jdk_52_method_21_code_7 (by decide) (pc' := 44) (pc2 := 10) (by decide) rfl (fun q => absurd (by rw [own_i32, hj, hn]; omega) q) (fun hc7 => ?_)
      refine k_aloadN Kl d_jdk_52_method_21_code_10 (pc' := 11) rfl rfl rfl ?_
      refine k_iloadN Kl d_jdk_52_method_21_code_11 (pc' := 12) rfl rfl ?_
      refine k_caload Kl (j := i) V_va (own_in hj hn hjl) (by rw [own_clamp hj]; exact own_getD cs j hjl) d_jdk_52_method_21_code_12 (pc' := 13) rfl ?_
      refine k_istore Kl d_jdk_52_method_21_code_13 (pc' := 15) (L' := #[.val (.ref va), .val (.int i), .val (.ref d), .val (.int i), .val (.int n), .val (.int i), .val (.int cs[j])]) rfl (by rcases hs6 with rfl | ⟨w, rfl⟩ <;> rfl) ?_
      refine k_iload Kl d_jdk_52_method_21_code_15 (pc' := 17) rfl rfl ?_
      refine k_sipush Kl (255 : Int32) d_jdk_52_method_21_code_17 (pc' := 20) rfl rfl ?_
      refine k_icmp_le Kl d_jdk_52_method_21_code_20 (by decide) (pc' := 26) (pc2 := 23) (by decide) rfl (fun hc20 => ?_) (fun hc20 => ?_)
      · refine k_aloadN Kl d_jdk_52_method_21_code_26 (pc' := 27) rfl rfl rfl ?_
        refine k_iloadN Kl d_jdk_52_method_21_code_27 (pc' := 28) rfl rfl ?_
        refine k_iload Kl d_jdk_52_method_21_code_28 (pc' := 30) rfl rfl ?_
        refine k_i2b Kl d_jdk_52_method_21_code_30 (pc' := 31) rfl ?_
        refine k_bastore Kl (j := i) V_d (own_in hj hn hjl) (by rw [own_clamp hj, fillL_len cs j (by omega)]; exact hjl) ga_d sf_d d_jdk_52_method_21_code_31 (pc' := 32) rfl ?_
        intro T2 h2 K2 W2 tr2 V2
        replace sf_d := tr2 d V_d.lt sf_d
        replace V_va := V_va.other W2 ne_va_d
        replace KP := KP.wr W2 (Or.inl (by simp))
        replace V_d := V2
        rw [own_clamp hj, own_byte] at V_d
        replace V_d := (fillL_set cs j hjl) ▸ V_d
        refine k_iinc K2 (1 : Int32) d_jdk_52_method_21_code_32 (pc' := 35) (L' := #[.val (.ref va), .val (.int (i + (1 : Int32))), .val (.ref d), .val (.int i), .val (.int n), .val (.int i), .val (.int cs[j])]) rfl rfl rfl rfl ?_
        refine k_iinc K2 (1 : Int32) d_jdk_52_method_21_code_35 (pc' := 38) (L' := #[.val (.ref va), .val (.int (i + (1 : Int32))), .val (.ref d), .val (.int (i + (1 : Int32))), .val (.int n), .val (.int i), .val (.int cs[j])]) rfl rfl rfl rfl ?_
        refine k_iinc K2 (1 : Int32) d_jdk_52_method_21_code_38 (pc' := 41) (L' := #[.val (.ref va), .val (.int (i + (1 : Int32))), .val (.ref d), .val (.int (i + (1 : Int32))), .val (.int n), .val (.int (i + (1 : Int32))), .val (.int cs[j])]) rfl rfl rfl rfl ?_
        refine k_goto K2 d_jdk_52_method_21_code_41 (by decide) (pc' := 3) (by decide) ?_
        exact ih (i + 1) (j + 1) (own_add1 hj (by omega)) (by omega) (fun x hx => by
          rcases Nat.lt_or_ge x j with q | q
          · exact hlow x q
          · have e1 : x = j := by omega
            subst e1; exact hc20) _ (Or.inr ⟨_, rfl⟩) _ _ _ _ K2 KP V_va V_d sf_d
      · refine k_iload Kl d_jdk_52_method_21_code_23 (pc' := 25) rfl rfl ?_
        have hhi : (255 : Int32) < cs[j] := hc20
        have ep := preN_at cs j hjl hlow hhi
        have en : i = Int32.ofNat (preN cs) := own_i32e (by rw [hj, ep, Int32.toInt_ofNat_of_lt (by omega)])
        exact k_iret Kl d_jdk_52_method_21_code_25 rfl (fun sf ht => ⟨by rw [en], KP, by rw [ep]; exact V_d⟩) (by decide) (by decide)
  exact LOOP cs.length (0 : Int32) 0 rfl (by omega) (fun x hx => absurd hx (Nat.not_lt_zero _)) _ (Or.inl rfl) _ _ _ _ K (Keep.refl _ _) V1 (by rw [fillL_zero]; exact V2) (hSP d (by simp))
def loB (c : Int32) : Value := .int ((c >>> ((0 : Int32) &&& 31)).toInt8.toInt32)
def hiB (c : Int32) : Value := .int ((c >>> ((8 : Int32) &&& 31)).toInt8.toInt32)
def fill2 (cs : List Int32) (i : Nat) : List Value := (cs.take i).flatMap (fun c => [loB c, hiB c]) ++ List.replicate (2 * (cs.length - i)) (.int 0)
theorem flat_len (cs : List Int32) : (cs.flatMap (fun c => [loB c, hiB c])).length = 2 * cs.length := by
  induction cs with
  | nil => rfl
  | cons c t ih => simp only [List.flatMap_cons, List.length_append, ih, List.length_cons, List.length_nil]; omega
theorem fill2_len (cs : List Int32) (i : Nat) (h : i ≤ cs.length) : (fill2 cs i).length = 2 * cs.length := by
  simp only [fill2, List.length_append, flat_len, List.length_take, List.length_replicate]; omega
theorem fill2_zero (cs : List Int32) : fill2 cs 0 = List.replicate (2 * cs.length) (.int 0) := by simp [fill2]
theorem fill2_set (cs : List Int32) (i : Nat) (h : i < cs.length) : ((fill2 cs i).set (2 * i) (loB cs[i])).set (2 * i + 1) (hiB cs[i]) = fill2 cs (i + 1) := by
  have e0 : (cs.take i).length = i := by simp; omega
  have e1 : ((cs.take i).flatMap (fun c => [loB c, hiB c])).length = 2 * i := by rw [flat_len, e0]
  have e2 : 2 * (cs.length - i) = (2 * (cs.length - (i + 1)) + 1) + 1 := by omega
  have e3 : cs.take (i + 1) = cs.take i ++ [cs[i]] := by rw [List.take_succ_eq_append_getElem h]
  unfold fill2
  rw [e3, e2, List.replicate_succ, List.replicate_succ, List.flatMap_append]
  rw [List.set_append_right _ _ (by rw [e1]; exact Nat.le_refl _), e1, Nat.sub_self]
  rw [List.set_append_right _ _ (by rw [e1]; omega), e1, show 2 * i + 1 - 2 * i = 1 by omega]
  simp
theorem fill2_lo (cs : List Int32) (j : Nat) (h : j < cs.length) : (fill2 cs cs.length).getD (2 * j) (.int 0) = loB cs[j] := by
  unfold fill2
  rw [List.take_length, Nat.sub_self, Nat.mul_zero, List.replicate_zero, List.append_nil]
  induction cs generalizing j with
  | nil => exact absurd h (Nat.not_lt_zero _)
  | cons c t ih =>
    cases j with
    | zero => rfl
    | succ j => rw [List.flatMap_cons, show 2 * (j + 1) = 2 * j + 1 + 1 by omega]; exact ih j (by simpa using h)
theorem fill2_hi (cs : List Int32) (j : Nat) (h : j < cs.length) : (fill2 cs cs.length).getD (2 * j + 1) (.int 0) = hiB cs[j] := by
  unfold fill2
  rw [List.take_length, Nat.sub_self, Nat.mul_zero, List.replicate_zero, List.append_nil]
  induction cs generalizing j with
  | nil => exact absurd h (Nat.not_lt_zero _)
  | cons c t ih =>
    cases j with
    | zero => rfl
    | succ j => rw [List.flatMap_cons, show 2 * (j + 1) + 1 = 2 * j + 1 + 1 + 1 by omega]; exact ih j (by simpa using h)
theorem own_dbl {i : Int32} {n : Nat} (h : i.toInt = n) (hn : n < 1000000000) : (i <<< ((1 : Int32) &&& 31)).toInt = (2 * n : Nat) := by
  have hb : i.toBitVec.toNat = n := by
    have q : i.toBitVec.toInt = n := h
    rw [BitVec.toInt_eq_toNat_cond] at q
    have := i.toBitVec.isLt
    split at q <;> omega
  have e1 : (i <<< ((1 : Int32) &&& 31)).toBitVec = i.toBitVec <<< 1 := rfl
  have e2 : (i.toBitVec <<< 1).toNat = 2 * n := by rw [BitVec.toNat_shiftLeft, hb, Nat.shiftLeft_eq]; omega
  show (i <<< ((1 : Int32) &&& 31)).toBitVec.toInt = _
  rw [e1, BitVec.toInt_eq_toNat_cond, e2]; split <;> omega
theorem own_nat {c : Int32} {n : Nat} (h : c.toInt = n) : c.toBitVec.toNat = n := by
  have q : c.toBitVec.toInt = n := h
  have hn : c.toInt < 2 ^ 31 := Int32.toInt_lt c
  rw [BitVec.toInt_eq_toNat_cond] at q
  have := c.toBitVec.isLt
  split at q <;> omega
theorem own_toInt {c : Int32} (h : c.toBitVec.toNat < 2147483648) : c.toInt = c.toBitVec.toNat := by
  show c.toBitVec.toInt = _
  rw [BitVec.toInt_eq_toNat_cond]; split <;> omega
theorem own_i2cN (x : Int32) : (x.toUInt32.toUInt16.toUInt32.toInt32).toBitVec.toNat = x.toBitVec.toNat % 65536 := by
  have e : (x.toUInt32.toUInt16.toUInt32.toInt32).toBitVec = (x.toBitVec.setWidth 16).setWidth 32 := rfl
  rw [e, BitVec.toNat_setWidth, BitVec.toNat_setWidth]; omega
theorem own_i2c (x : Int32) : 0 ≤ (x.toUInt32.toUInt16.toUInt32.toInt32).toInt ∧ (x.toUInt32.toUInt16.toUInt32.toInt32).toInt < 65536 := by
  have h := own_i2cN x
  rw [own_toInt (by rw [h]; omega), h]; omega
theorem own_i2cI {c : Int32} (h1 : 0 ≤ c.toInt) (h2 : c.toInt < 65536) : c.toUInt32.toUInt16.toUInt32.toInt32 = c := by
  obtain ⟨n, hn⟩ := Int.eq_ofNat_of_zero_le h1
  have e := own_nat hn
  apply Int32.toBitVec_inj.mp
  apply BitVec.eq_of_toNat_eq
  rw [own_i2cN, e]; omega
theorem own_narrowc {c : Int32} (h1 : 0 ≤ c.toInt) (h2 : c.toInt < 65536) : narrow .char (.int c) = .int c := by
  show Value.int c.toUInt32.toUInt16.toUInt32.toInt32 = _
  rw [own_i2cI h1 h2]
theorem own_shr0 (n : Int32) : n >>> ((0 : Int32) &&& 31) = n := by
  apply Int32.toBitVec_inj.mp
  show n.toBitVec.sshiftRight 0 = n.toBitVec
  simp
theorem own_low (x : Int32) : (x.toInt8.toInt32 &&& 255).toBitVec.toNat = x.toBitVec.toNat % 256 := by
  have e : (x.toInt8.toInt32 &&& 255).toBitVec = ((x.toBitVec.signExtend 8).signExtend 32) &&& 255#32 := rfl
  have e8 : x.toBitVec.signExtend 8 = x.toBitVec.setWidth 8 := BitVec.signExtend_eq_setWidth_of_le _ (by decide)
  have e2 : ((x.toBitVec.setWidth 8).signExtend 32) &&& 255#32 = (x.toBitVec.setWidth 8).setWidth 32 := by
    apply BitVec.eq_of_getLsbD_eq
    intro i hi
    have h255 : (255#32).getLsbD i = decide (i < 8) := by
      have := (by decide : ∀ i : Fin 32, (255#32).getLsbD i.val = decide (i.val < 8)) ⟨i, hi⟩
      exact this
    rw [BitVec.getLsbD_and, h255, BitVec.getLsbD_signExtend, BitVec.getLsbD_setWidth]
    by_cases q : i < 8
    · simp [hi, q]
    · simp [q]
  rw [e, e8, e2, BitVec.toNat_setWidth, BitVec.toNat_setWidth]; omega
theorem own_dblN {i : Int32} {n : Nat} (h : i.toInt = n) (hn : n < 1000000000) : (i <<< ((1 : Int32) &&& 31)).toBitVec.toNat = 2 * n := by
  show (i.toBitVec <<< 1).toNat = _
  rw [BitVec.toNat_shiftLeft, own_nat h, Nat.shiftLeft_eq]; omega
theorem own_half {n : Int32} {m : Nat} (hn : n.toInt = m) (hm : m ≤ 4000) : (n <<< ((1 : Int32) &&& 31)) >>> ((1 : Int32) &&& 31) = n := by
  have e := own_dblN hn (by omega)
  generalize n <<< ((1 : Int32) &&& 31) = z at e
  apply Int32.toBitVec_inj.mp
  apply BitVec.eq_of_toNat_eq
  show (z.toBitVec.sshiftRight 1).toNat = _
  rw [BitVec.sshiftRight_eq_of_msb_false (by rw [BitVec.msb_eq_decide, e]; simp; omega), BitVec.toNat_ushiftRight, e, Nat.shiftRight_eq_div_pow, own_nat hn]; omega
theorem own_ush0 (n : Int32) : (Jvm.Free.XT.ushr (n - n) (31 : Int32)).toInt8.toInt32 = 0 := by
  have e : n - n = 0 := by simp
  rw [e]; decide
theorem own_ush1 {n : Int32} {m : Nat} (hn : n.toInt = m) (h1 : 1 ≤ m) (hm : m ≤ 4000) : (Jvm.Free.XT.ushr (n - n <<< ((1 : Int32) &&& 31)) (31 : Int32)).toInt8.toInt32 = 1 := by
  have e := own_dblN hn (by omega)
  have e1 : Jvm.Free.XT.ushr (n - n <<< ((1 : Int32) &&& 31)) (31 : Int32) = 1 := by
    generalize n <<< ((1 : Int32) &&& 31) = z at e
    apply Int32.toBitVec_inj.mp
    apply BitVec.eq_of_toNat_eq
    show ((n.toBitVec - z.toBitVec) >>> 31).toNat = 1
    rw [BitVec.toNat_ushiftRight, BitVec.toNat_sub, own_nat hn, e, Nat.shiftRight_eq_div_pow]; omega
  rw [e1]; decide
theorem own_join (c : Int32) (h1 : 0 ≤ c.toInt) (h2 : c.toInt < 65536) : ((((c >>> ((0 : Int32) &&& 31)).toInt8.toInt32 &&& 255) <<< ((0 : Int32) &&& 31)) ||| (((c >>> ((8 : Int32) &&& 31)).toInt8.toInt32 &&& 255) <<< ((8 : Int32) &&& 31))).toUInt32.toUInt16.toUInt32.toInt32 = c := by
  obtain ⟨n, hn⟩ := Int.eq_ofNat_of_zero_le h1
  have e := own_nat hn
  have hN : n < 65536 := by omega
  rw [own_shr0]
  have a1 := own_low c
  have a2 := own_low (c >>> ((8 : Int32) &&& 31))
  have s8 : (c >>> ((8 : Int32) &&& 31)).toBitVec.toNat = n / 256 := by
    show (c.toBitVec.sshiftRight 8).toNat = _
    rw [BitVec.sshiftRight_eq_of_msb_false (by rw [BitVec.msb_eq_decide, e]; simp; omega), BitVec.toNat_ushiftRight, e, Nat.shiftRight_eq_div_pow]
  rw [s8] at a2
  rw [e] at a1
  generalize (c.toInt8.toInt32 &&& 255) = p at a1
  generalize ((c >>> ((8 : Int32) &&& 31)).toInt8.toInt32 &&& 255) = q at a2
  apply Int32.toBitVec_inj.mp
  apply BitVec.eq_of_toNat_eq
  rw [own_i2cN, e]
  have b1 : (p <<< ((0 : Int32) &&& 31)).toBitVec = p.toBitVec := by
    show p.toBitVec <<< 0 = _
    simp
  have b2 : (q <<< ((8 : Int32) &&& 31)).toBitVec.toNat = (n / 256 % 256) * 256 := by
    show (q.toBitVec <<< 8).toNat = _
    rw [BitVec.toNat_shiftLeft, a2, Nat.shiftLeft_eq]; omega
  have b3 : (p <<< ((0 : Int32) &&& 31) ||| q <<< ((8 : Int32) &&& 31)).toBitVec.toNat = n % 256 ||| (n / 256 % 256) * 256 := by
    show ((p <<< ((0 : Int32) &&& 31)).toBitVec ||| (q <<< ((8 : Int32) &&& 31)).toBitVec).toNat = _
    rw [BitVec.toNat_or, b1, b2, a1]
  rw [b3]
  have b4 : n % 256 ||| (n / 256 % 256) * 256 = n := by
    rw [Nat.or_comm, Nat.mul_comm, show (256 : Nat) = 2 ^ 8 by decide, ← Nat.two_pow_add_eq_or_of_lt (Nat.mod_lt _ (by decide))]; omega
  rw [b4]; omega
theorem preN_gt : ∀ (cs : List Int32) (h : preN cs < cs.length), (255 : Int32) < cs[preN cs]
  | [], h => absurd h (Nat.not_lt_zero _)
  | c :: t, h => by
    by_cases q : (255 : Int32) < c
    · have e : preN (c :: t) = 0 := if_pos q
      simpa [e] using q
    · have e : preN (c :: t) = preN t + 1 := if_neg q
      have h2 : preN t < t.length := by rw [e] at h; simpa using h
      simpa [e] using preN_gt t h2
def strCd (cs : List Int32) : Int32 := if preN cs = cs.length then 0 else 1
def strVs (cs : List Int32) : List Value := if preN cs = cs.length then fillL cs cs.length else fill2 cs cs.length
def strZ (n : Int32) (cs : List Int32) : Int32 := if preN cs = cs.length then n else n <<< ((1 : Int32) &&& 31)
theorem strCd_01 (cs : List Int32) : strCd cs = 0 ∨ strCd cs = 1 := by unfold strCd; split <;> simp
theorem strCd_n (cs : List Int32) : narrow .byte (.int (strCd cs)) = .int (strCd cs) := by rcases strCd_01 cs with q | q <;> rw [q] <;> rfl
theorem strCd_f (cs : List Int32) : fits .byte (.int (strCd cs)) = true := by rcases strCd_01 cs with q | q <;> rw [q] <;> rfl
theorem own_ofN {n : Nat} (h : n ≤ 4000) : (Int32.ofNat n).toInt = n := Int32.toInt_ofNat_of_lt (by omega)
theorem own_cfal {n : Int32} {cs : List Int32} (hn : n.toInt = cs.length) (h1 : 1 ≤ cs.length) (hb : cs.length ≤ 4000) : ((XT.ushr (n - strZ n cs) (31 : Int32)).toInt8.toInt32) = strCd cs := by
  unfold strZ strCd
  split
  · exact own_ush0 n
  · exact own_ush1 hn h1 hb
theorem own_len {n : Int32} {cs : List Int32} (hn : n.toInt = cs.length) (hb : cs.length ≤ 4000) : strZ n cs >>> (strCd cs &&& 31) = n := by
  unfold strZ strCd
  split
  · exact own_shr0 n
  · exact own_half hn hb
theorem preN_lat {cs : List Int32} (h : ∀ c ∈ cs, 0 ≤ c.toInt ∧ c.toInt < 256) : preN cs = cs.length := preN_all cs fun j hj => by
  rw [own_i32, own_255]; have := (h cs[j] (List.getElem_mem hj)).2; omega
theorem own_strCd {cs : List Int32} (h : ∀ c ∈ cs, 0 ≤ c.toInt ∧ c.toInt < 256) : strCd cs = 0 := if_pos (preN_lat h)
theorem own_strZ {n : Int32} {cs : List Int32} (h : ∀ c ∈ cs, 0 ≤ c.toInt ∧ c.toInt < 256) : strZ n cs = n := if_pos (preN_lat h)
theorem own_strVs {cs : List Int32} (h : ∀ c ∈ cs, 0 ≤ c.toInt ∧ c.toInt < 256) : strVs cs = (cs.map fun c => c.toInt8.toInt32).map Value.int := by
  rw [strVs, if_pos (preN_lat h), fillL, List.take_length, Nat.sub_self, List.replicate_zero, List.append_nil, List.map_map]; rfl
theorem d_jdk_52_method_16_code_0 : decode jdk_52_method_16_code 0 = .ok (.iload_n 2, 1) := by decide +kernel
theorem d_jdk_52_method_16_code_1 : decode jdk_52_method_16_code 1 = .ok (.newarray .byte, 2) := by decide +kernel
theorem w26 {Z : State} {a0 : Array Value} (hw : Tb a0 Z) : (Jvm.Cond.arrayClass Jvm.ClassFile.FieldType.byte).before a0 Z = true := hw _ (List.mem_of_getElem? (i := 26) rfl)
theorem d_jdk_52_method_16_code_3 : decode jdk_52_method_16_code 3 = .ok (.astore_n 3, 1) := by decide +kernel
theorem d_jdk_52_method_16_code_4 : decode jdk_52_method_16_code 4 = .ok (.aload_n 0, 1) := by decide +kernel
theorem d_jdk_52_method_16_code_5 : decode jdk_52_method_16_code 5 = .ok (.iload_n 1, 1) := by decide +kernel
theorem d_jdk_52_method_16_code_6 : decode jdk_52_method_16_code 6 = .ok (.aload_n 3, 1) := by decide +kernel
theorem d_jdk_52_method_16_code_7 : decode jdk_52_method_16_code 7 = .ok (.iconst 0, 1) := by decide +kernel
theorem d_jdk_52_method_16_code_8 : decode jdk_52_method_16_code 8 = .ok (.iload_n 2, 1) := by decide +kernel
theorem d_jdk_52_method_16_code_9 : decode jdk_52_method_16_code 9 = .ok (.invokestatic 115, 3) := by decide +kernel
theorem w27 {Z : State} {a0 : Array Value} (hw : Tb a0 Z) : (Jvm.Cond.methodLink "java/lang/StringUTF16" (115 : Nat) ({ cls := "java/lang/StringUTF16", name := "compress", desc := "([CI[BII)I" } : Jvm.MethodName)).before a0 Z = true := hw _ (List.mem_of_getElem? (i := 27) rfl)
theorem w24 {Z : State} {a0 : Array Value} (hw : Tb a0 Z) : (Jvm.Cond.initialized "java/lang/StringUTF16").before a0 Z = true := hw _ (List.mem_of_getElem? (i := 24) rfl)
theorem w29 {Z : State} {a0 : Array Value} (hw : Tb a0 Z) : (Jvm.Cond.code ({ cls := "java/lang/StringUTF16", name := "compress", desc := "([CI[BII)I" } : Jvm.MethodName) jdk_52_method_21_code (7 : Nat) (Option.some Jvm.ClassFile.FieldType.int)).before a0 Z = true := hw _ (List.mem_of_getElem? (i := 29) rfl)
theorem w28 {Z : State} {a0 : Array Value} (hw : Tb a0 Z) : (Jvm.Cond.static ({ cls := "java/lang/StringUTF16", name := "compress", desc := "([CI[BII)I" } : Jvm.MethodName)).before a0 Z = true := hw _ (List.mem_of_getElem? (i := 28) rfl)
theorem pd___CI_BII_I_3760 : parseMethodDescriptor "([CI[BII)I" = some ⟨[(.array .char), .int, (.array .byte), .int, .int], some .int⟩ := by decide +kernel
theorem d_jdk_52_method_16_code_12 : decode jdk_52_method_16_code 12 = .ok (.istore 4, 2) := by decide +kernel
theorem d_jdk_52_method_16_code_14 : decode jdk_52_method_16_code 14 = .ok (.iload 4, 2) := by decide +kernel
theorem d_jdk_52_method_16_code_16 : decode jdk_52_method_16_code 16 = .ok (.iload_n 2, 1) := by decide +kernel
theorem d_jdk_52_method_16_code_17 : decode jdk_52_method_16_code 17 = .ok (.if_icmp .eq 40, 3) := by decide +kernel
theorem d_jdk_52_method_16_code_57 : decode jdk_52_method_16_code 57 = .ok (.aload_n 3, 1) := by decide +kernel
theorem d_jdk_52_method_16_code_58 : decode jdk_52_method_16_code 58 = .ok (.areturn, 1) := by decide +kernel
set_option maxRecDepth 65536 in
set_option maxHeartbeats 40000000 in
theorem c_compress3 (l : Launch) (Z : State) (a0 : Array Value) (hw : Tb a0 Z) (hEW : EW Z a0 EL0) (n0 : Nat) (va : Addr) (kv : ClassId) (n : Int32) (cs : List Int32) (h0 : Heap) (O : Old Z n0 h0) (hn : n.toInt = cs.length) (hb : cs.length ≤ 3) (hc : ∀ c ∈ cs, 0 ≤ c.toInt ∧ c.toInt < 256) (V_va : Arv Z h0 va kv .char n (cs.map Value.int) (.int 0))  :
    Ct l Z EL0 n0 (⟨"java/lang/StringUTF16", "compress", "([CII)[B"⟩ : MethodName) jdk_52_method_16_code 6 (some (.array .byte)) ({ frames := 1, cells := 1, slots := 3, locals := 18 } : Room) #[(.ref va), (.int (0 : Int32)), (.int n)] h0 [] (fun v h sf => ∃ d kd, v = some (.ref d) ∧ h0.size ≤ d ∧ Keep h0 h [] ∧ Arv Z h d kd .byte (strZ n cs) (strVs cs) (.int 0) ∧ sf d) := by
  refine Ct.of (a0 := a0) #[.val (.ref va), .val (.int (0 : Int32)), .val (.int n), .unset, .unset, .unset] hEW O (plainFor_of_name pl_java_lang_StringUTF16) (fun m => by first | (simp [entryFrame, mkF, argsToLocals, Value.category]; done) | rfl) ?_
  intro p_ e_ s_ m_ below_ meth_ c_ b_ T_ K hSP
  have KP := Keep.refl h0 []
  refine k_iloadN K d_jdk_52_method_16_code_0 (pc' := 1) rfl rfl ?_
  refine k_newarray K (aty := .byte) (z := n) (w26 hw) (by rw [own_i32, own_0, hn]; omega) (cap := 3) (by rw [own_clamp hn]; omega) (by decide) d_jdk_52_method_16_code_1 (pc' := 3) rfl (by decide) (by decide) ?_
  intro T3 h3 a3 ka3 g3 K3 E3 tr3 sf_a3 V_a3
  have ga_a3 : n0 ≤ a3 := own_old K.old g3
  have sz_a3 : h0.size ≤ a3 := g3 ▸ KP.1
  have ne_va_a3 : va ≠ a3 := own_ne V_va.lt g3
  replace V_va := V_va.ext E3
  replace KP := KP.ext E3
  replace V_a3 : Arv Z h3 a3 ka3 .byte n (List.replicate cs.length (.int (0 : Int32))) (.int (0 : Int32)) := V_a3.pad (pad_rep [] (.int (0 : Int32)) cs.length)
  refine k_astoreN K3 d_jdk_52_method_16_code_3 (pc' := 4) (L' := #[.val (.ref va), .val (.int (0 : Int32)), .val (.int n), .val (.ref a3), .unset, .unset]) rfl rfl rfl ?_
  refine k_aloadN K3 d_jdk_52_method_16_code_4 (pc' := 5) rfl rfl rfl ?_
  refine k_iloadN K3 d_jdk_52_method_16_code_5 (pc' := 6) rfl rfl ?_
  refine k_aloadN K3 d_jdk_52_method_16_code_6 (pc' := 7) rfl rfl rfl ?_
  refine k_iconst K3 (0 : Int32) d_jdk_52_method_16_code_7 (pc' := 8) rfl rfl ?_
  refine k_iloadN K3 d_jdk_52_method_16_code_8 (pc' := 9) rfl rfl ?_
  refine k_static K3 [(.ref va), (.int (0 : Int32)), (.ref a3), (.int (0 : Int32)), (.int n)] [] 0 (w27 hw) (w28 hw) (w24 hw) (w29 hw) (by decide) pd___CI_BII_I_3760 (c_compress5 l Z a0 hw hEW n0 va a3 kv ka3 n cs h3 K3.old hn (by omega) V_va V_a3 ne_va_a3 ga_a3) d_jdk_52_method_16_code_9 (fun x hx => by cases List.mem_singleton.mp hx; exact ⟨V_a3.lt, sf_a3⟩) (pc' := 12) rfl rfl rfl rfl (Nat.le_of_eq rfl) (by decide) (by decide) (by decide) (by decide) ?_
  intro b4 T4 h4 L4 v4 K4 tr4 q4
  obtain ⟨rfl, KQ, V2⟩ := q4
  replace sf_a3 := tr4 a3 V_a3.lt sf_a3
  replace V_va := V_va.keep KQ (ninS ne_va_a3 nin0)
  replace KP := KP.trans KQ (allS (Or.inr sz_a3) all0)
  have V_a3 := V2
  have hp := own_ofN (Nat.le_trans (preN_le cs) (show cs.length ≤ 4000 by omega))
  generalize hpp : Int32.ofNat (preN cs) = p1 at hp ⊢
  show Goes p_.tables e_ below_ _ (T4.setTop (mkF m_ 12 #[.val (.ref va), .val (.int (0 : Int32)), .val (.int n), .val (.ref a3), .unset, .unset] [(.int p1)]))
  refine k_istore K4 d_jdk_52_method_16_code_12 (pc' := 14) (L' := #[.val (.ref va), .val (.int (0 : Int32)), .val (.int n), .val (.ref a3), .val (.int p1), .unset]) rfl rfl ?_
  refine k_iload K4 d_jdk_52_method_16_code_14 (pc' := 16) rfl rfl ?_
  refine k_iloadN K4 d_jdk_52_method_16_code_16 (pc' := 17) rfl rfl ?_
  have ep : preN cs = cs.length := preN_all cs fun j hj => by rw [own_i32, own_255]; have := (hc cs[j] (List.getElem_mem hj)).2; omega
  refine k_icmp_eq K4 d_jdk_52_method_16_code_17 (by decide) (pc' := 57) (pc2 := 20) (by decide) rfl (fun hc17 => ?_) (fun q => absurd (own_i32e (by rw [hp, hn, ep])) q)
  refine k_aloadN K4 d_jdk_52_method_16_code_57 (pc' := 58) rfl rfl rfl ?_
  exact k_aret K4 d_jdk_52_method_16_code_58 rfl rfl rfl (fun sf ht => ⟨a3, ka3, rfl, sz_a3, KP, by rw [strZ, strVs, if_pos ep, if_pos ep, ← ep]; exact V_a3, ht _ V_a3.lt sf_a3⟩) (by decide) (by decide)
theorem d_jdk_52_method_15_code_0 : decode jdk_52_method_15_code 0 = .ok (.iload_n 1, 1) := by decide +kernel
theorem d_jdk_52_method_15_code_1 : decode jdk_52_method_15_code 1 = .ok (.aload_n 0, 1) := by decide +kernel
theorem d_jdk_52_method_15_code_2 : decode jdk_52_method_15_code 2 = .ok (.arraylength, 1) := by decide +kernel
theorem d_jdk_52_method_15_code_3 : decode jdk_52_method_15_code 3 = .ok (.isub, 1) := by decide +kernel
theorem d_jdk_52_method_15_code_4 : decode jdk_52_method_15_code 4 = .ok (.bipush 31, 2) := by decide +kernel
theorem d_jdk_52_method_15_code_6 : decode jdk_52_method_15_code 6 = .ok (.iushr, 1) := by decide +kernel
theorem d_jdk_52_method_15_code_7 : decode jdk_52_method_15_code 7 = .ok (.i2b, 1) := by decide +kernel
theorem d_jdk_52_method_15_code_8 : decode jdk_52_method_15_code 8 = .ok (.ireturn, 1) := by decide +kernel
set_option maxRecDepth 65536 in
set_option maxHeartbeats 40000000 in
theorem c_cfal (l : Launch) (Z : State) (a0 : Array Value) (hw : Tb a0 Z) (hEW : EW Z a0 EL0) (n0 : Nat) (d : Addr) (kd : ClassId) (n z cd : Int32) (vs : List Value) (h0 : Heap) (O : Old Z n0 h0) (V_d : Arv Z h0 d kd .byte z vs (.int 0)) (hcd : cd = 0 ∨ cd = 1) (he : ((XT.ushr (n - z) (31 : Int32)).toInt8.toInt32) = cd) :
    Ct l Z EL0 n0 (⟨"java/lang/StringUTF16", "coderFromArrayLen", "([BI)B"⟩ : MethodName) jdk_52_method_15_code 2 (some .byte) ({ frames := 0, cells := 0, slots := 0, locals := 0 } : Room) #[(.ref d), (.int n)] h0 [] (Pu (some (.int cd)) h0) := by
  refine Ct.of (a0 := a0) #[.val (.ref d), .val (.int n)] hEW O (plainFor_of_name pl_java_lang_StringUTF16) (fun m => by first | (simp [entryFrame, mkF, argsToLocals, Value.category]; done) | rfl) ?_
  intro p_ e_ s_ m_ below_ meth_ c_ b_ T_ K hSP
  refine k_iloadN K d_jdk_52_method_15_code_0 (pc' := 1) rfl rfl ?_
  refine k_aloadN K d_jdk_52_method_15_code_1 (pc' := 2) rfl rfl rfl ?_
  refine k_len K V_d d_jdk_52_method_15_code_2 (pc' := 3) rfl ?_
  refine k_isub K d_jdk_52_method_15_code_3 (pc' := 4) rfl ?_
  refine k_bipush K (31 : Int32) d_jdk_52_method_15_code_4 (pc' := 6) rfl rfl ?_
  refine k_iushr K d_jdk_52_method_15_code_6 (pc' := 7) rfl ?_
  refine k_i2b K d_jdk_52_method_15_code_7 (pc' := 8) rfl ?_
  rw [he]
  exact k_nret K d_jdk_52_method_15_code_8 rfl (by simp) (by rcases hcd with rfl | rfl <;> rfl) (fun sf ht => ⟨rfl, rfl⟩) (by decide) (by decide)
theorem d_jdk_42_method_149_code_0 : decode jdk_42_method_149_code 0 = .ok (.aload_n 0, 1) := by decide +kernel
theorem d_jdk_42_method_149_code_1 : decode jdk_42_method_149_code 1 = .ok (.invokespecial 1, 3) := by decide +kernel
theorem w18 {Z : State} {a0 : Array Value} (hw : Tb a0 Z) : (Jvm.Cond.methodLink "java/lang/String" (1 : Nat) ({ cls := "java/lang/Object", name := "<init>", desc := "()V" } : Jvm.MethodName)).before a0 Z = true := hw _ (List.mem_of_getElem? (i := 18) rfl)
theorem w19 {Z : State} {a0 : Array Value} (hw : Tb a0 Z) : (Jvm.Cond.instanceMethod ({ cls := "java/lang/Object", name := "<init>", desc := "()V" } : Jvm.MethodName)).before a0 Z = true := hw _ (List.mem_of_getElem? (i := 19) rfl)
theorem w20 {Z : State} {a0 : Array Value} (hw : Tb a0 Z) : (Jvm.Cond.code ({ cls := "java/lang/Object", name := "<init>", desc := "()V" } : Jvm.MethodName) object_method_1_code (1 : Nat) (Option.none : Option Jvm.ClassFile.FieldType)).before a0 Z = true := hw _ (List.mem_of_getElem? (i := 20) rfl)
theorem d_jdk_42_method_149_code_4 : decode jdk_42_method_149_code 4 = .ok (.iload_n 3, 1) := by decide +kernel
theorem d_jdk_42_method_149_code_5 : decode jdk_42_method_149_code 5 = .ok (.ifCond .ne 22, 3) := by decide +kernel
theorem d_jdk_42_method_149_code_27 : decode jdk_42_method_149_code 27 = .ok (.getstatic 38, 3) := by decide +kernel
theorem w21 {Z : State} {a0 : Array Value} (hw : Tb a0 Z) : (Jvm.Cond.fieldLink "java/lang/String" (38 : Nat) "java/lang/String" "COMPACT_STRINGS" "Z").before a0 Z = true := hw _ (List.mem_of_getElem? (i := 21) rfl)
theorem d_jdk_42_method_149_code_30 : decode jdk_42_method_149_code 30 = .ok (.ifCond .eq 28, 3) := by decide +kernel
theorem d_jdk_42_method_149_code_33 : decode jdk_42_method_149_code 33 = .ok (.aload_n 1, 1) := by decide +kernel
theorem d_jdk_42_method_149_code_34 : decode jdk_42_method_149_code 34 = .ok (.iload_n 2, 1) := by decide +kernel
theorem d_jdk_42_method_149_code_35 : decode jdk_42_method_149_code 35 = .ok (.iload_n 3, 1) := by decide +kernel
theorem d_jdk_42_method_149_code_36 : decode jdk_42_method_149_code 36 = .ok (.invokestatic 177, 3) := by decide +kernel
theorem w22 {Z : State} {a0 : Array Value} (hw : Tb a0 Z) : (Jvm.Cond.methodLink "java/lang/String" (177 : Nat) ({ cls := "java/lang/StringUTF16", name := "compress", desc := "([CII)[B" } : Jvm.MethodName)).before a0 Z = true := hw _ (List.mem_of_getElem? (i := 22) rfl)
theorem w25 {Z : State} {a0 : Array Value} (hw : Tb a0 Z) : (Jvm.Cond.code ({ cls := "java/lang/StringUTF16", name := "compress", desc := "([CII)[B" } : Jvm.MethodName) jdk_52_method_16_code (6 : Nat) (Option.some (Jvm.ClassFile.FieldType.array Jvm.ClassFile.FieldType.byte))).before a0 Z = true := hw _ (List.mem_of_getElem? (i := 25) rfl)
theorem w23 {Z : State} {a0 : Array Value} (hw : Tb a0 Z) : (Jvm.Cond.static ({ cls := "java/lang/StringUTF16", name := "compress", desc := "([CII)[B" } : Jvm.MethodName)).before a0 Z = true := hw _ (List.mem_of_getElem? (i := 23) rfl)
theorem pd___CII__B_2491 : parseMethodDescriptor "([CII)[B" = some ⟨[(.array .char), .int, .int], some (.array .byte)⟩ := by decide +kernel
theorem d_jdk_42_method_149_code_39 : decode jdk_42_method_149_code 39 = .ok (.astore 5, 2) := by decide +kernel
theorem d_jdk_42_method_149_code_41 : decode jdk_42_method_149_code 41 = .ok (.aload_n 0, 1) := by decide +kernel
theorem d_jdk_42_method_149_code_42 : decode jdk_42_method_149_code 42 = .ok (.aload 5, 2) := by decide +kernel
theorem d_jdk_42_method_149_code_44 : decode jdk_42_method_149_code 44 = .ok (.iload_n 3, 1) := by decide +kernel
theorem d_jdk_42_method_149_code_45 : decode jdk_42_method_149_code 45 = .ok (.invokestatic 47, 3) := by decide +kernel
theorem w30 {Z : State} {a0 : Array Value} (hw : Tb a0 Z) : (Jvm.Cond.methodLink "java/lang/String" (47 : Nat) ({ cls := "java/lang/StringUTF16", name := "coderFromArrayLen", desc := "([BI)B" } : Jvm.MethodName)).before a0 Z = true := hw _ (List.mem_of_getElem? (i := 30) rfl)
theorem w32 {Z : State} {a0 : Array Value} (hw : Tb a0 Z) : (Jvm.Cond.code ({ cls := "java/lang/StringUTF16", name := "coderFromArrayLen", desc := "([BI)B" } : Jvm.MethodName) jdk_52_method_15_code (2 : Nat) (Option.some Jvm.ClassFile.FieldType.byte)).before a0 Z = true := hw _ (List.mem_of_getElem? (i := 32) rfl)
theorem w31 {Z : State} {a0 : Array Value} (hw : Tb a0 Z) : (Jvm.Cond.static ({ cls := "java/lang/StringUTF16", name := "coderFromArrayLen", desc := "([BI)B" } : Jvm.MethodName)).before a0 Z = true := hw _ (List.mem_of_getElem? (i := 31) rfl)
theorem pd___BI_B_1313 : parseMethodDescriptor "([BI)B" = some ⟨[(.array .byte), .int], some .byte⟩ := by decide +kernel
theorem d_jdk_42_method_149_code_48 : decode jdk_42_method_149_code 48 = .ok (.putfield 15, 3) := by decide +kernel
theorem w33 {Z : State} {a0 : Array Value} (hw : Tb a0 Z) : (Jvm.Cond.fieldLink "java/lang/String" (15 : Nat) "java/lang/String" "coder" "B").before a0 Z = true := hw _ (List.mem_of_getElem? (i := 33) rfl)
theorem w34 {Z : State} {a0 : Array Value} (hw : Tb a0 Z) : (Jvm.Cond.laysFinal "java/lang/String" "java/lang/String" "coder" "B").before a0 Z = true := hw _ (List.mem_of_getElem? (i := 34) rfl)
theorem w9 {Z : State} {a0 : Array Value} (hw : Tb a0 Z) : (Jvm.Cond.instantiable "java/lang/String" (4 : Nat)).before a0 Z = true := hw _ (List.mem_of_getElem? (i := 9) rfl)
theorem w36 {Z : State} {a0 : Array Value} (hw : Tb a0 Z) : (Jvm.Cond.laysFinal "java/lang/String" "java/lang/String" "value" "[B").before a0 Z = true := hw _ (List.mem_of_getElem? (i := 36) rfl)
theorem d_jdk_42_method_149_code_51 : decode jdk_42_method_149_code 51 = .ok (.aload_n 0, 1) := by decide +kernel
theorem d_jdk_42_method_149_code_52 : decode jdk_42_method_149_code 52 = .ok (.aload 5, 2) := by decide +kernel
theorem d_jdk_42_method_149_code_54 : decode jdk_42_method_149_code 54 = .ok (.putfield 9, 3) := by decide +kernel
theorem w35 {Z : State} {a0 : Array Value} (hw : Tb a0 Z) : (Jvm.Cond.fieldLink "java/lang/String" (9 : Nat) "java/lang/String" "value" "[B").before a0 Z = true := hw _ (List.mem_of_getElem? (i := 35) rfl)
theorem d_jdk_42_method_149_code_57 : decode jdk_42_method_149_code 57 = .ok (.return_, 1) := by decide +kernel
theorem pl_java_lang_String : plainName "java/lang/String" = true := by first | (simp [plainName, overriddenIn]; done) | decide +kernel
set_option maxRecDepth 65536 in
set_option maxHeartbeats 40000000 in
theorem c_init149 (l : Launch) (Z : State) (a0 : Array Value) (hw : Tb a0 Z) (hEW : EW Z a0 EL0) (n0 : Nat) (a va : Addr) (kv : ClassId) (n : Int32) (cs : List Int32) (u1 u2 : Value) (cs0 : Int32) (h0 : Heap) (O : Old Z n0 h0) (hn : n.toInt = cs.length) (h1 : 1 ≤ cs.length) (hb : cs.length ≤ 3) (hc : ∀ c ∈ cs, 0 ≤ c.toInt ∧ c.toInt < 256) (V_va : Arv Z h0 va kv .char n (cs.map Value.int) (.int 0)) (X_a : Exa Z h0 a "java/lang/String") (F_a_value : Fld Z h0 a "java/lang/String" "value" "[B" u1) (F_a_coder : Fld Z h0 a "java/lang/String" "coder" "B" u2) (ga_a : n0 ≤ a) (ne_a_va : a ≠ va) (SC : Sta Z Z.heap "java/lang/String" "COMPACT_STRINGS" "Z" (.int cs0)) (hcs : ¬ cs0 = 0) :
    Ct l Z EL0 n0 (⟨"java/lang/String", "<init>", "([CIILjava/lang/Void;)V"⟩ : MethodName) jdk_42_method_149_code 6 none ({ frames := 2, cells := 1, slots := 3, locals := 35 } : Room) #[(.ref a), (.ref va), (.int (0 : Int32)), (.int n), .null] h0 [a] (fun v h sf => v = none ∧ Keep h0 h [a] ∧ ∃ d kd, h0.size ≤ d ∧ Str Z h a d kd (strCd cs) (strZ n cs) (strVs cs)) := by
  refine Ct.of (a0 := a0) #[.val (.ref a), .val (.ref va), .val (.int (0 : Int32)), .val (.int n), .val .null, .unset] hEW O (plainFor_of_name pl_java_lang_String) (fun m => by first | (simp [entryFrame, mkF, argsToLocals, Value.category]; done) | rfl) ?_
  intro p_ e_ s_ m_ below_ meth_ c_ b_ T_ K hSP
  have KP := Keep.refl h0 [a]
  have sf_a := hSP a (by simp)
  refine k_aloadN K d_jdk_42_method_149_code_0 (pc' := 1) rfl rfl rfl ?_
  refine k_initO K (w18 hw) (w19 hw) (w20 hw) d_jdk_42_method_149_code_1 (pc' := 4) rfl rfl (by decide) 0 (Nat.le_of_eq rfl) (by decide) ?_
  intro T5 K5
  refine k_iloadN K5 d_jdk_42_method_149_code_4 (pc' := 5) rfl rfl ?_
  refine k_if_ne K5 d_jdk_42_method_149_code_5 (by decide) (pc' := 27) (pc2 := 8) (by decide) rfl (fun hc5 => ?_) (fun q => absurd q (fun q => by rw [q, own_0] at hn; omega))
  refine k_getS K5 (w21 hw) Via.refl SC d_jdk_42_method_149_code_27 (pc' := 30) rfl ?_
  intro T6 K6
  refine k_if_eq K6 d_jdk_42_method_149_code_30 (by decide) (pc' := 58) (pc2 := 33) (by decide) rfl (fun q => absurd q hcs) (fun hc30 => ?_)
  refine k_aloadN K6 d_jdk_42_method_149_code_33 (pc' := 34) rfl rfl rfl ?_
  refine k_iloadN K6 d_jdk_42_method_149_code_34 (pc' := 35) rfl rfl ?_
  refine k_iloadN K6 d_jdk_42_method_149_code_35 (pc' := 36) rfl rfl ?_
  refine k_static K6 [(.ref va), (.int (0 : Int32)), (.int n)] [] 0 (w22 hw) (w23 hw) (w24 hw) (w25 hw) (by decide) pd___CII__B_2491 (c_compress3 l Z a0 hw hEW n0 va kv n cs h0 K6.old hn hb hc V_va) d_jdk_42_method_149_code_36 nofun (pc' := 39) rfl rfl rfl rfl (Nat.le_of_eq rfl) (by decide) (by decide) (by decide) (by decide) ?_
  intro b7 T7 h7 L7 v7 K7 tr7 q7
  obtain ⟨d, kd, rfl, hd, KQ, V_d, sf_d⟩ := q7
  have ga_d : n0 ≤ d := Nat.le_trans (own_n0 K6.old) hd
  have sz_d : h0.size ≤ d := Nat.le_trans KP.1 hd
  have ne_va_d : va ≠ d := own_ne2 V_va.lt hd
  have ne_a_d : a ≠ d := own_ne2 X_a.lt hd
  replace sf_a := tr7 a X_a.lt sf_a
  replace V_va := V_va.keep KQ nin0
  replace X_a := X_a.keep KQ
  replace F_a_value := F_a_value.keep KQ nin0
  replace F_a_coder := F_a_coder.keep KQ nin0
  replace KP := KP.trans KQ all0
  show Goes p_.tables e_ below_ _ (T7.setTop (mkF m_ 39 #[.val (.ref a), .val (.ref va), .val (.int (0 : Int32)), .val (.int n), .val .null, .unset] [(.ref d)]))
  refine k_astore K7 d_jdk_42_method_149_code_39 (pc' := 41) (L' := #[.val (.ref a), .val (.ref va), .val (.int (0 : Int32)), .val (.int n), .val .null, .val (.ref d)]) rfl rfl rfl ?_
  refine k_aloadN K7 d_jdk_42_method_149_code_41 (pc' := 42) rfl rfl rfl ?_
  refine k_aload K7 d_jdk_42_method_149_code_42 (pc' := 44) rfl rfl rfl ?_
  refine k_iloadN K7 d_jdk_42_method_149_code_44 (pc' := 45) rfl rfl ?_
  refine k_staticP K7 [(.ref d), (.int n)] [(.ref a)] 1 (w30 hw) (w31 hw) (w24 hw) (w32 hw) (by decide) pd___BI_B_1313 (c_cfal l Z a0 hw hEW n0 d kd n (strZ n cs) (strCd cs) (strVs cs) h7 K7.old V_d (strCd_01 cs) (own_cfal hn h1 (by omega))) d_jdk_42_method_149_code_45 nofun (pc' := 48) rfl rfl rfl rfl (Nat.le_of_eq rfl) (by decide) (by decide) (by decide) (by decide) ?_
  intro b8 T8 L8 K8 tr8
  show Goes p_.tables e_ below_ _ (T8.setTop (mkF m_ 48 #[.val (.ref a), .val (.ref va), .val (.int (0 : Int32)), .val (.int n), .val .null, .val (.ref d)] [(.int (strCd cs)), (.ref a)]))
  replace sf_a := tr8 a X_a.lt sf_a
  refine k_putF K8 (w33 hw) Via.refl F_a_coder X_a (Or.inr ⟨(w34 hw), rfl, rfl⟩) (w9 hw) (ty := .byte) (by decide) (strCd_n cs) (strCd_f cs) ga_a sf_a d_jdk_42_method_149_code_48 (pc' := 51) rfl ?_
  intro T9 h9 K9 W9 tr9
  have F9 := F_a_coder.same W9
  replace sf_a := tr9 a X_a.lt sf_a
  replace V_va := V_va.other W9 (Ne.symm ne_a_va)
  replace X_a := X_a.wr W9
  replace F_a_value := F_a_value.other W9 (Or.inr (slot_ne (Or.inr (w36 hw)) (Or.inr (w34 hw)) (by decide) (t := (.array .byte)) (t' := .byte) (by decide) (by decide)))
  replace V_d := V_d.other W9 (Ne.symm ne_a_d)
  replace KP := KP.wr W9 (Or.inl (by simp))
  replace F_a_coder := F9
  refine k_aloadN K9 d_jdk_42_method_149_code_51 (pc' := 52) rfl rfl rfl ?_
  refine k_aload K9 d_jdk_42_method_149_code_52 (pc' := 54) rfl rfl rfl ?_
  refine k_putF K9 (w35 hw) Via.refl F_a_value X_a (Or.inr ⟨(w36 hw), rfl, rfl⟩) (w9 hw) (ty := (.array .byte)) (by decide) rfl rfl ga_a sf_a d_jdk_42_method_149_code_54 (pc' := 57) rfl ?_
  intro T10 h10 K10 W10 tr10
  have F10 := F_a_value.same W10
  replace sf_a := tr10 a X_a.lt sf_a
  replace V_va := V_va.other W10 (Ne.symm ne_a_va)
  replace X_a := X_a.wr W10
  replace F_a_coder := F_a_coder.other W10 (Or.inr (slot_ne (Or.inr (w34 hw)) (Or.inr (w36 hw)) (by decide) (t := .byte) (t' := (.array .byte)) (by decide) (by decide)))
  replace V_d := V_d.other W10 (Ne.symm ne_a_d)
  replace KP := KP.wr W10 (Or.inl (by simp))
  replace F_a_value := F10
  exact k_return K10 d_jdk_42_method_149_code_57 rfl (fun sf ht => ⟨rfl, KP, d, kd, sz_d, X_a, F_a_coder, F_a_value, V_d⟩) (by decide) (by decide)
theorem d_jdk_42_method_3_code_0 : decode jdk_42_method_3_code 0 = .ok (.aload_n 0, 1) := by decide +kernel
theorem d_jdk_42_method_3_code_1 : decode jdk_42_method_3_code 1 = .ok (.aload_n 1, 1) := by decide +kernel
theorem d_jdk_42_method_3_code_2 : decode jdk_42_method_3_code 2 = .ok (.iconst 0, 1) := by decide +kernel
theorem d_jdk_42_method_3_code_3 : decode jdk_42_method_3_code 3 = .ok (.aload_n 1, 1) := by decide +kernel
theorem d_jdk_42_method_3_code_4 : decode jdk_42_method_3_code 4 = .ok (.arraylength, 1) := by decide +kernel
theorem d_jdk_42_method_3_code_5 : decode jdk_42_method_3_code 5 = .ok (.aconst_null, 1) := by decide +kernel
theorem d_jdk_42_method_3_code_6 : decode jdk_42_method_3_code 6 = .ok (.invokespecial 27, 3) := by decide +kernel
theorem w14 {Z : State} {a0 : Array Value} (hw : Tb a0 Z) : (Jvm.Cond.methodLink "java/lang/String" (27 : Nat) ({ cls := "java/lang/String", name := "<init>", desc := "([CIILjava/lang/Void;)V" } : Jvm.MethodName)).before a0 Z = true := hw _ (List.mem_of_getElem? (i := 14) rfl)
theorem w10 {Z : State} {a0 : Array Value} (hw : Tb a0 Z) : (Jvm.Cond.initialized "java/lang/String").before a0 Z = true := hw _ (List.mem_of_getElem? (i := 10) rfl)
theorem w17 {Z : State} {a0 : Array Value} (hw : Tb a0 Z) : (Jvm.Cond.code ({ cls := "java/lang/String", name := "<init>", desc := "([CIILjava/lang/Void;)V" } : Jvm.MethodName) jdk_42_method_149_code (6 : Nat) (Option.none : Option Jvm.ClassFile.FieldType)).before a0 Z = true := hw _ (List.mem_of_getElem? (i := 17) rfl)
theorem w15 {Z : State} {a0 : Array Value} (hw : Tb a0 Z) : (Jvm.Cond.instanceMethod ({ cls := "java/lang/String", name := "<init>", desc := "([CIILjava/lang/Void;)V" } : Jvm.MethodName)).before a0 Z = true := hw _ (List.mem_of_getElem? (i := 15) rfl)
theorem pd___CIILjava_lang_Void__V_3625 : parseMethodDescriptor "([CIILjava/lang/Void;)V" = some ⟨[(.array .char), .int, .int, (.object "java/lang/Void")], none⟩ := by decide +kernel
theorem d_jdk_42_method_3_code_9 : decode jdk_42_method_3_code 9 = .ok (.return_, 1) := by decide +kernel
set_option maxRecDepth 65536 in
set_option maxHeartbeats 40000000 in
theorem c_init3 (l : Launch) (Z : State) (a0 : Array Value) (hw : Tb a0 Z) (hEW : EW Z a0 EL0) (n0 : Nat) (a va : Addr) (kv : ClassId) (n : Int32) (cs : List Int32) (u1 u2 : Value) (cs0 : Int32) (h0 : Heap) (O : Old Z n0 h0) (hn : n.toInt = cs.length) (h1 : 1 ≤ cs.length) (hb : cs.length ≤ 3) (hc : ∀ c ∈ cs, 0 ≤ c.toInt ∧ c.toInt < 256) (V_va : Arv Z h0 va kv .char n (cs.map Value.int) (.int 0)) (X_a : Exa Z h0 a "java/lang/String") (F_a_value : Fld Z h0 a "java/lang/String" "value" "[B" u1) (F_a_coder : Fld Z h0 a "java/lang/String" "coder" "B" u2) (ga_a : n0 ≤ a) (ne_a_va : a ≠ va) (SC : Sta Z Z.heap "java/lang/String" "COMPACT_STRINGS" "Z" (.int cs0)) (hcs : ¬ cs0 = 0) :
    Ct l Z EL0 n0 (⟨"java/lang/String", "<init>", "([C)V"⟩ : MethodName) jdk_42_method_3_code 2 none ({ frames := 3, cells := 1, slots := 3, locals := 52 } : Room) #[(.ref a), (.ref va)] h0 [a] (fun v h sf => v = none ∧ Keep h0 h [a] ∧ ∃ d kd, h0.size ≤ d ∧ Str Z h a d kd (strCd cs) (strZ n cs) (strVs cs)) := by
  refine Ct.of (a0 := a0) #[.val (.ref a), .val (.ref va)] hEW O (plainFor_of_name pl_java_lang_String) (fun m => by first | (simp [entryFrame, mkF, argsToLocals, Value.category]; done) | rfl) ?_
  intro p_ e_ s_ m_ below_ meth_ c_ b_ T_ K hSP
  refine k_aloadN K d_jdk_42_method_3_code_0 (pc' := 1) rfl rfl rfl ?_
  refine k_aloadN K d_jdk_42_method_3_code_1 (pc' := 2) rfl rfl rfl ?_
  refine k_iconst K (0 : Int32) d_jdk_42_method_3_code_2 (pc' := 3) rfl rfl ?_
  refine k_aloadN K d_jdk_42_method_3_code_3 (pc' := 4) rfl rfl rfl ?_
  refine k_len K V_va d_jdk_42_method_3_code_4 (pc' := 5) rfl ?_
  refine k_aconst_null K d_jdk_42_method_3_code_5 (pc' := 6) rfl ?_
  refine k_special K [(.ref va), (.int (0 : Int32)), (.int n), .null] [] 0 (w14 hw) (w15 hw) (w10 hw) (w17 hw) rfl rfl (by decide) pd___CIILjava_lang_Void__V_3625 (c_init149 l Z a0 hw hEW n0 a va kv n cs u1 u2 cs0 h0 K.old hn h1 hb hc V_va X_a F_a_value F_a_coder ga_a ne_a_va SC hcs) d_jdk_42_method_3_code_6 (fun x hx => by cases List.mem_singleton.mp hx; exact ⟨X_a.lt, hSP a (by simp)⟩) (pc' := 9) rfl rfl rfl rfl (Nat.le_of_eq rfl) (by decide) (by decide) (by decide) (by decide) ?_
  intro b11 T11 h11 L11 v11 K11 tr11 q11
  obtain ⟨rfl, KQ, d, kd, hd, S⟩ := q11
  show Goes p_.tables e_ below_ _ (T11.setTop (mkF m_ 9 #[.val (.ref a), .val (.ref va)] []))
  exact k_return K11 d_jdk_42_method_3_code_9 rfl (fun sf ht => ⟨rfl, KQ, d, kd, hd, S⟩) (by decide) (by decide)
theorem d_jdk_42_method_152_code_0 : decode jdk_42_method_152_code 0 = .ok (.getstatic 38, 3) := by decide +kernel
theorem d_jdk_42_method_152_code_3 : decode jdk_42_method_152_code 3 = .ok (.ifCond .eq 10, 3) := by decide +kernel
theorem d_jdk_42_method_152_code_6 : decode jdk_42_method_152_code 6 = .ok (.aload_n 0, 1) := by decide +kernel
theorem d_jdk_42_method_152_code_7 : decode jdk_42_method_152_code 7 = .ok (.getfield 15, 3) := by decide +kernel
theorem d_jdk_42_method_152_code_10 : decode jdk_42_method_152_code 10 = .ok (.goto 4, 3) := by decide +kernel
theorem d_jdk_42_method_152_code_14 : decode jdk_42_method_152_code 14 = .ok (.ireturn, 1) := by decide +kernel
set_option maxRecDepth 65536 in
set_option maxHeartbeats 40000000 in
theorem c_coder (l : Launch) (Z : State) (a0 : Array Value) (hw : Tb a0 Z) (hEW : EW Z a0 EL0) (n0 : Nat) (a b : Addr) (k : ClassId) (cd z : Int32) (vs : List Value) (cs0 : Int32) (h0 : Heap) (O : Old Z n0 h0) (S : Str Z h0 a b k cd z vs) (hcd : cd = 0 ∨ cd = 1) (SC : Sta Z Z.heap "java/lang/String" "COMPACT_STRINGS" "Z" (.int cs0)) (hcs : ¬ cs0 = 0) :
    Ct l Z EL0 n0 (⟨"java/lang/String", "coder", "()B"⟩ : MethodName) jdk_42_method_152_code 1 (some .byte) ({ frames := 0, cells := 0, slots := 0, locals := 0 } : Room) #[(.ref a)] h0 [] (Pu (some (.int cd)) h0) := by
  refine Ct.of (a0 := a0) #[.val (.ref a)] hEW O (plainFor_of_name pl_java_lang_String) (fun m => by first | (simp [entryFrame, mkF, argsToLocals, Value.category]; done) | rfl) ?_
  intro p_ e_ s_ m_ below_ meth_ c_ b_ T_ K hSP
  refine k_getS K (w21 hw) Via.refl SC d_jdk_42_method_152_code_0 (pc' := 3) rfl ?_
  intro T12 K12
  refine k_if_eq K12 d_jdk_42_method_152_code_3 (by decide) (pc' := 13) (pc2 := 6) (by decide) rfl (fun q => absurd q hcs) (fun hc3 => ?_)
  refine k_aloadN K12 d_jdk_42_method_152_code_6 (pc' := 7) rfl rfl rfl ?_
  refine k_getF K12 (w33 hw) Via.refl S.2.1 d_jdk_42_method_152_code_7 (pc' := 10) rfl ?_
  intro T13 K13
  refine k_goto K13 d_jdk_42_method_152_code_10 (by decide) (pc' := 14) (by decide) ?_
  exact k_nret K13 d_jdk_42_method_152_code_14 rfl (by simp) (by rcases hcd with rfl | rfl <;> rfl) (fun sf ht => ⟨rfl, rfl⟩) (by decide) (by decide)
theorem d_jdk_42_method_54_code_0 : decode jdk_42_method_54_code 0 = .ok (.aload_n 0, 1) := by decide +kernel
theorem d_jdk_42_method_54_code_1 : decode jdk_42_method_54_code 1 = .ok (.getfield 9, 3) := by decide +kernel
theorem d_jdk_42_method_54_code_4 : decode jdk_42_method_54_code 4 = .ok (.arraylength, 1) := by decide +kernel
theorem d_jdk_42_method_54_code_5 : decode jdk_42_method_54_code 5 = .ok (.aload_n 0, 1) := by decide +kernel
theorem d_jdk_42_method_54_code_6 : decode jdk_42_method_54_code 6 = .ok (.invokevirtual 335, 3) := by decide +kernel
theorem w59 {Z : State} {a0 : Array Value} (hw : Tb a0 Z) : (Jvm.Cond.methodLink "java/lang/String" (335 : Nat) ({ cls := "java/lang/String", name := "coder", desc := "()B" } : Jvm.MethodName)).before a0 Z = true := hw _ (List.mem_of_getElem? (i := 59) rfl)
theorem w63 {Z : State} {a0 : Array Value} (hw : Tb a0 Z) : (Jvm.Cond.code ({ cls := "java/lang/String", name := "coder", desc := "()B" } : Jvm.MethodName) jdk_42_method_152_code (1 : Nat) (Option.some Jvm.ClassFile.FieldType.byte)).before a0 Z = true := hw _ (List.mem_of_getElem? (i := 63) rfl)
theorem w62 {Z : State} {a0 : Array Value} (hw : Tb a0 Z) : (Jvm.Cond.selects "java/lang/String" ({ cls := "java/lang/String", name := "coder", desc := "()B" } : Jvm.MethodName) ({ cls := "java/lang/String", name := "coder", desc := "()B" } : Jvm.MethodName)).before a0 Z = true := hw _ (List.mem_of_getElem? (i := 62) rfl)
theorem w60 {Z : State} {a0 : Array Value} (hw : Tb a0 Z) : (Jvm.Cond.declares ({ cls := "java/lang/String", name := "coder", desc := "()B" } : Jvm.MethodName)).before a0 Z = true := hw _ (List.mem_of_getElem? (i := 60) rfl)
theorem w61 {Z : State} {a0 : Array Value} (hw : Tb a0 Z) : (Jvm.Cond.instanceMethod ({ cls := "java/lang/String", name := "coder", desc := "()B" } : Jvm.MethodName)).before a0 Z = true := hw _ (List.mem_of_getElem? (i := 61) rfl)
theorem pd___B_320 : parseMethodDescriptor "()B" = some ⟨[], some .byte⟩ := by decide +kernel
theorem d_jdk_42_method_54_code_9 : decode jdk_42_method_54_code 9 = .ok (.ishr, 1) := by decide +kernel
theorem d_jdk_42_method_54_code_10 : decode jdk_42_method_54_code 10 = .ok (.ireturn, 1) := by decide +kernel
set_option maxRecDepth 65536 in
set_option maxHeartbeats 40000000 in
theorem c_length (l : Launch) (Z : State) (a0 : Array Value) (hw : Tb a0 Z) (hEW : EW Z a0 EL0) (n0 : Nat) (a b : Addr) (k : ClassId) (cd z : Int32) (vs : List Value) (cs0 : Int32) (h0 : Heap) (O : Old Z n0 h0) (S : Str Z h0 a b k cd z vs) (hcd : cd = 0 ∨ cd = 1) (SC : Sta Z Z.heap "java/lang/String" "COMPACT_STRINGS" "Z" (.int cs0)) (hcs : ¬ cs0 = 0) :
    Ct l Z EL0 n0 (⟨"java/lang/String", "length", "()I"⟩ : MethodName) jdk_42_method_54_code 1 (some .int) ({ frames := 1, cells := 0, slots := 0, locals := 13 } : Room) #[(.ref a)] h0 [] (Pu (some (.int (z >>> (cd &&& 31)))) h0) := by
  refine Ct.of (a0 := a0) #[.val (.ref a)] hEW O (plainFor_of_name pl_java_lang_String) (fun m => by first | (simp [entryFrame, mkF, argsToLocals, Value.category]; done) | rfl) ?_
  intro p_ e_ s_ m_ below_ meth_ c_ b_ T_ K hSP
  refine k_aloadN K d_jdk_42_method_54_code_0 (pc' := 1) rfl rfl rfl ?_
  refine k_getF K (w35 hw) Via.refl S.2.2.1 d_jdk_42_method_54_code_1 (pc' := 4) rfl ?_
  intro T14 K14
  refine k_len K14 S.2.2.2 d_jdk_42_method_54_code_4 (pc' := 5) rfl ?_
  refine k_aloadN K14 d_jdk_42_method_54_code_5 (pc' := 6) rfl rfl rfl ?_
  refine k_virtualP K14 [] [(.int z)] 1 (w59 hw) (w60 hw) (w61 hw) (w62 hw) (w10 hw) (w63 hw) (notFace_of_selects (args := #[]) (mvT K14.hZ (w62 hw))) rfl (by decide) S.1 (by decide) pd___B_320 (c_coder l Z a0 hw hEW n0 a b k cd z vs cs0 h0 K14.old S hcd SC hcs) d_jdk_42_method_54_code_6 nofun (pc' := 9) rfl rfl rfl rfl (Nat.le_of_eq rfl) (by decide) (by decide) (by decide) (by decide) ?_
  intro b15 T15 L15 K15 tr15
  show Goes p_.tables e_ below_ _ (T15.setTop (mkF m_ 9 #[.val (.ref a)] [(.int cd), (.int z)]))
  refine k_ishr K15 d_jdk_42_method_54_code_9 (pc' := 10) rfl ?_
  exact k_iret K15 d_jdk_42_method_54_code_10 rfl (fun sf ht => ⟨rfl, rfl⟩) (by decide) (by decide)
theorem own_shl0 (n : Int32) : n <<< ((0 : Int32) &&& 31) = n := by
  apply Int32.toBitVec_inj.mp
  show n.toBitVec <<< 0 = n.toBitVec
  simp
theorem own_range (xs : List Int32) (n : Nat) (h : n ≤ xs.length) : (List.range n).map (fun i => (xs.map Value.int).getD (0 + i) (.int 0)) = (xs.take n).map Value.int := by
  apply List.ext_getElem?
  intro j
  simp only [List.getElem?_map, List.getElem?_take, List.getD_eq_getElem?_getD, Nat.zero_add]
  by_cases q : j < n
  · have q2 : j < xs.length := Nat.lt_of_lt_of_le q h
    simp [q, q2]
  · simp [q]
theorem own_range1 (xs : List Int32) {n : Nat} (h : n = xs.length) : xs.map Value.int = (List.range n).map (fun i => (xs.map Value.int).getD ((0 : Int32).toNatClampNeg + i) (.int 0)) := by
  subst h
  have e := own_range xs xs.length (Nat.le_refl _)
  rw [List.take_length] at e
  exact e.symm
theorem own_sum {a b : Int32} {i j : Nat} (ha : a.toInt = i) (hb : b.toInt = j) (q : i + j < 1000) : (a + b).toInt = (i + j : Nat) := by
  rw [XT.add32 (by rw [ha, hb]; constructor <;> omega), ha, hb]; omega
def pk (x : Int32) : Int32 := if (XT.ushr x (8 : Int32)) &&& 1 = 0 then (x &&& 255).toUInt32.toUInt16.toUInt32.toInt32 else 45
theorem own_255m (x : Int32) : (x &&& 255).toBitVec.toNat < 256 := by
  show (x.toBitVec &&& 255#32).toNat < 256
  rw [BitVec.toNat_and]
  exact Nat.lt_of_le_of_lt Nat.and_le_right (by decide)
theorem own_pk (x : Int32) : 0 ≤ (pk x).toInt ∧ (pk x).toInt < 256 := by
  unfold pk
  split
  · have h1 := own_255m x
    have h2 := own_toInt (show (x &&& 255).toBitVec.toNat < 2147483648 by omega)
    rw [own_i2cI (by rw [h2]; omega) (by rw [h2]; omega), h2]; omega
  · decide
theorem own_ch {c : Int32} (h : 0 ≤ c.toInt ∧ c.toInt < 256) : (c.toInt8.toInt32 &&& 255).toUInt32.toUInt16.toUInt32.toInt32 = c := by
  obtain ⟨n, hn⟩ := Int.eq_ofNat_of_zero_le h.1
  have e := own_nat hn
  apply Int32.toBitVec_inj.mp
  apply BitVec.eq_of_toNat_eq
  rw [own_i2cN, own_low, e]; omega
theorem own_45 {c : Int32} (h : 0 ≤ c.toInt ∧ c.toInt < 256) : c.toInt8.toInt32 = 45 ↔ c = 45 := by
  constructor
  · intro q
    have e := own_ch h
    rw [q] at e
    rw [← e]; decide
  · intro q; subst q; decide
theorem own_and3 (x : Int32) : x &&& 3 = 0 ∨ x &&& 3 = 1 ∨ x &&& 3 = 2 ∨ x &&& 3 = 3 := by
  have e : (x &&& 3).toBitVec.toNat = x.toBitVec.toNat % 4 := by
    show (x.toBitVec &&& 3#32).toNat = _
    rw [BitVec.toNat_and]; exact Nat.and_two_pow_sub_one_eq_mod _ 2
  have key : ∀ k : Int32, (x &&& 3).toBitVec.toNat = k.toBitVec.toNat → x &&& 3 = k := fun k q => Int32.toBitVec_inj.mp (BitVec.eq_of_toNat_eq q)
  have h4 : x.toBitVec.toNat % 4 = 0 ∨ x.toBitVec.toNat % 4 = 1 ∨ x.toBitVec.toNat % 4 = 2 ∨ x.toBitVec.toNat % 4 = 3 := by omega
  rcases h4 with q | q | q | q
  · exact Or.inl (key 0 (e.trans q))
  · exact Or.inr (Or.inl (key 1 (e.trans q)))
  · exact Or.inr (Or.inr (Or.inl (key 2 (e.trans q))))
  · exact Or.inr (Or.inr (Or.inr (key 3 (e.trans q))))
theorem d_method_3_code_0 : decode method_3_code 0 = .ok (.iload_n 0, 1) := by decide +kernel
theorem d_method_3_code_1 : decode method_3_code 1 = .ok (.bipush 8, 2) := by decide +kernel
theorem d_method_3_code_3 : decode method_3_code 3 = .ok (.iushr, 1) := by decide +kernel
theorem d_method_3_code_4 : decode method_3_code 4 = .ok (.iconst 1, 1) := by decide +kernel
theorem d_method_3_code_5 : decode method_3_code 5 = .ok (.iand, 1) := by decide +kernel
theorem d_method_3_code_6 : decode method_3_code 6 = .ok (.ifCond .eq 6, 3) := by decide +kernel
theorem d_method_3_code_12 : decode method_3_code 12 = .ok (.iload_n 0, 1) := by decide +kernel
theorem d_method_3_code_13 : decode method_3_code 13 = .ok (.sipush 255, 3) := by decide +kernel
theorem d_method_3_code_16 : decode method_3_code 16 = .ok (.iand, 1) := by decide +kernel
theorem d_method_3_code_17 : decode method_3_code 17 = .ok (.i2c, 1) := by decide +kernel
theorem d_method_3_code_18 : decode method_3_code 18 = .ok (.ireturn, 1) := by decide +kernel
theorem d_method_3_code_9 : decode method_3_code 9 = .ok (.bipush 45, 2) := by decide +kernel
theorem d_method_3_code_11 : decode method_3_code 11 = .ok (.ireturn, 1) := by decide +kernel
theorem pl_com_example_warm_tariff_warmtariff_FiguresSignedPinLaw : plainName "com/example/warm_tariff/warmtariff/FiguresSignedPinLaw" = true := by first | (simp [plainName, overriddenIn]; done) | decide +kernel
set_option maxRecDepth 65536 in
set_option maxHeartbeats 40000000 in
theorem c_pick (l : Launch) (Z : State) (a0 : Array Value) (hw : Tb a0 Z) (hEW : EW Z a0 EL0) (n0 : Nat) (x : Int32) (h0 : Heap) (O : Old Z n0 h0)  :
    Ct l Z EL0 n0 (⟨"com/example/warm_tariff/warmtariff/FiguresSignedPinLaw", "pick", "(I)C"⟩ : MethodName) method_3_code 1 (some .char) ({ frames := 0, cells := 0, slots := 0, locals := 0 } : Room) #[(.int x)] h0 [] (Pu (some (.int (pk x))) h0) := by
  refine Ct.of (a0 := a0) #[.val (.int x)] hEW O (plainFor_of_name pl_com_example_warm_tariff_warmtariff_FiguresSignedPinLaw) (fun m => by first | (simp [entryFrame, mkF, argsToLocals, Value.category]; done) | rfl) ?_
  intro p_ e_ s_ m_ below_ meth_ c_ b_ T_ K hSP
  have hx := own_pk x
  refine k_iloadN K d_method_3_code_0 (pc' := 1) rfl rfl ?_
  refine k_bipush K (8 : Int32) d_method_3_code_1 (pc' := 3) rfl rfl ?_
  refine k_iushr K d_method_3_code_3 (pc' := 4) rfl ?_
  refine k_iconst K (1 : Int32) d_method_3_code_4 (pc' := 5) rfl rfl ?_
  refine k_iand K d_method_3_code_5 (pc' := 6) rfl ?_
  refine k_if_eq K d_method_3_code_6 (by decide) (pc' := 12) (pc2 := 9) (by decide) rfl (fun hc6 => ?_) (fun hc6 => ?_)
  · refine k_iloadN K d_method_3_code_12 (pc' := 13) rfl rfl ?_
    refine k_sipush K (255 : Int32) d_method_3_code_13 (pc' := 16) rfl rfl ?_
    refine k_iand K d_method_3_code_16 (pc' := 17) rfl ?_
    refine k_i2c K d_method_3_code_17 (pc' := 18) rfl ?_
    have e1 : (x &&& 255).toUInt32.toUInt16.toUInt32.toInt32 = pk x := by rw [pk, if_pos hc6]
    rw [e1]
    exact k_nret K d_method_3_code_18 rfl (by simp) (own_narrowc hx.1 (by omega)) (fun sf ht => ⟨rfl, rfl⟩) (by decide) (by decide)
  · refine k_bipush K (45 : Int32) d_method_3_code_9 (pc' := 11) rfl rfl ?_
    have e1 : (45 : Int32) = pk x := by rw [pk, if_neg hc6]
    rw [e1]
    exact k_nret K d_method_3_code_11 rfl (by simp) (own_narrowc hx.1 (by omega)) (fun sf ht => ⟨rfl, rfl⟩) (by decide) (by decide)
theorem d_jdk_42_method_149_code_8 : decode jdk_42_method_149_code 8 = .ok (.aload_n 0, 1) := by decide +kernel
theorem d_jdk_42_method_149_code_9 : decode jdk_42_method_149_code 9 = .ok (.ldc 7, 2) := by decide +kernel
theorem w42 {Z : State} {a0 : Array Value} (hw : Tb a0 Z) : (Jvm.Cond.soleField "java/lang/String" "value").before a0 Z = true := hw _ (List.mem_of_getElem? (i := 42) rfl)
theorem w43 {Z : State} {a0 : Array Value} (hw : Tb a0 Z) : (Jvm.Cond.soleField "java/lang/String" "coder").before a0 Z = true := hw _ (List.mem_of_getElem? (i := 43) rfl)
theorem own_wS {Z : State} {a0 : Array Value} (hw : Tb a0 Z) : ∀ a ∈ Bundle.stringAtoms, a.before a0 Z = true := fun d hd => by
  simp only [Bundle.stringAtoms, List.mem_cons, List.not_mem_nil, or_false] at hd
  rcases hd with rfl | rfl | rfl | rfl | rfl | rfl | rfl
  · exact (w10 hw)
  · exact (w9 hw)
  · exact (w26 hw)
  · exact (w36 hw)
  · exact (w34 hw)
  · exact (w42 hw)
  · exact (w43 hw)
theorem w193 {Z : State} {a0 : Array Value} (hw : Tb a0 Z) : (Jvm.Cond.stringLink "java/lang/String" (7 : Nat) "").before a0 Z = true := hw _ (List.mem_of_getElem? (i := 193) rfl)
theorem d_jdk_42_method_149_code_11 : decode jdk_42_method_149_code 11 = .ok (.getfield 9, 3) := by decide +kernel
theorem d_jdk_42_method_149_code_14 : decode jdk_42_method_149_code 14 = .ok (.putfield 9, 3) := by decide +kernel
theorem d_jdk_42_method_149_code_17 : decode jdk_42_method_149_code 17 = .ok (.aload_n 0, 1) := by decide +kernel
theorem d_jdk_42_method_149_code_18 : decode jdk_42_method_149_code 18 = .ok (.ldc 7, 2) := by decide +kernel
theorem d_jdk_42_method_149_code_20 : decode jdk_42_method_149_code 20 = .ok (.getfield 15, 3) := by decide +kernel
theorem d_jdk_42_method_149_code_23 : decode jdk_42_method_149_code 23 = .ok (.putfield 15, 3) := by decide +kernel
theorem d_jdk_42_method_149_code_26 : decode jdk_42_method_149_code 26 = .ok (.return_, 1) := by decide +kernel
set_option maxRecDepth 65536 in
set_option maxHeartbeats 40000000 in
theorem c_init149e (l : Launch) (Z : State) (a0 : Array Value) (hw : Tb a0 Z) (hEW : EW Z a0 EL0) (n0 : Nat) (a va : Addr) (kv : ClassId) (u1 u2 : Value) (h0 : Heap) (O : Old Z n0 h0) (V_va : Arv Z h0 va kv .char 0 [] (.int 0)) (X_a : Exa Z h0 a "java/lang/String") (F_a_value : Fld Z h0 a "java/lang/String" "value" "[B" u1) (F_a_coder : Fld Z h0 a "java/lang/String" "coder" "B" u2) (ga_a : n0 ≤ a) (ne_a_va : a ≠ va) :
    Ct l Z EL0 n0 (⟨"java/lang/String", "<init>", "([CIILjava/lang/Void;)V"⟩ : MethodName) jdk_42_method_149_code 6 none ({ frames := 1, cells := 4, slots := 8, locals := 12 } : Room) #[(.ref a), (.ref va), (.int (0 : Int32)), (.int (0 : Int32)), .null] h0 [a] (fun v h sf => v = none ∧ Keep h0 h [a] ∧ ∃ d kd, Str Z h a d kd 0 0 []) := by
  refine Ct.of (a0 := a0) #[.val (.ref a), .val (.ref va), .val (.int (0 : Int32)), .val (.int (0 : Int32)), .val .null, .unset] hEW O (plainFor_of_name pl_java_lang_String) (fun m => by first | (simp [entryFrame, mkF, argsToLocals, Value.category]; done) | rfl) ?_
  intro p_ e_ s_ m_ below_ meth_ c_ b_ T_ K hSP
  have KP := Keep.refl h0 [a]
  have sf_a := hSP a (by simp)
  refine k_aloadN K d_jdk_42_method_149_code_0 (pc' := 1) rfl rfl rfl ?_
  refine k_initO K (w18 hw) (w19 hw) (w20 hw) d_jdk_42_method_149_code_1 (pc' := 4) rfl rfl (by decide) 0 (Nat.le_of_eq rfl) (by decide) ?_
  intro T16 K16
  refine k_iloadN K16 d_jdk_42_method_149_code_4 (pc' := 5) rfl rfl ?_
  refine k_if_ne K16 d_jdk_42_method_149_code_5 (by decide) (pc' := 27) (pc2 := 8) (by decide) rfl (fun q => absurd (by decide) q) (fun hc5 => ?_)
  refine k_aloadN K16 d_jdk_42_method_149_code_8 (pc' := 9) rfl rfl rfl ?_
  refine k_ldcS K16 (vs := ([] : List Int32).map Value.int) (z := 0) (w193 hw) (own_wS hw) (by decide) ⟨by decide, by decide⟩ (by decide) (by decide) 0 (by decide) (by decide) d_jdk_42_method_149_code_9 (pc' := 11) rfl (by decide) (by decide) ?_
  intro b17 T17 h17 s17 e17 ke17 K17 E17 tr17 X1 X2 X3 X4 nd17
  replace sf_a := tr17 a X_a.lt sf_a
  replace X_a := X_a.ext E17
  replace F_a_value := F_a_value.ext E17
  replace F_a_coder := F_a_coder.ext E17
  replace KP := KP.ext E17
  have S_s17 : Str Z h17 s17 e17 ke17 0 0 (([] : List Int32).map Value.int) := ⟨X1, X2, X3, X4⟩
  have ne_a_s17 : a ≠ s17 := (nd17 a sf_a).1
  have ne_a_e17 : a ≠ e17 := (nd17 a sf_a).2
  show Goes p_.tables e_ below_ _ (T17.setTop (mkF m_ 11 #[.val (.ref a), .val (.ref va), .val (.int (0 : Int32)), .val (.int (0 : Int32)), .val .null, .unset] [(.ref s17), (.ref a)]))
  refine k_getF K17 (w35 hw) Via.refl S_s17.2.2.1 d_jdk_42_method_149_code_11 (pc' := 14) rfl ?_
  intro T18 K18
  refine k_putF K18 (w35 hw) Via.refl F_a_value X_a (Or.inr ⟨(w36 hw), rfl, rfl⟩) (w9 hw) (ty := (.array .byte)) (by decide) rfl rfl ga_a sf_a d_jdk_42_method_149_code_14 (pc' := 17) rfl ?_
  intro T19 h19 K19 W19 tr19
  have F19 := F_a_value.same W19
  replace sf_a := tr19 a X_a.lt sf_a
  replace X_a := X_a.wr W19
  replace F_a_coder := F_a_coder.other W19 (Or.inr (slot_ne (Or.inr (w34 hw)) (Or.inr (w36 hw)) (by decide) (t := .byte) (t' := (.array .byte)) (by decide) (by decide)))
  replace S_s17 := S_s17.other W19 (Ne.symm ne_a_s17) (Ne.symm ne_a_e17)
  replace KP := KP.wr W19 (Or.inl (by simp))
  replace F_a_value := F19
  refine k_aloadN K19 d_jdk_42_method_149_code_17 (pc' := 18) rfl rfl rfl ?_
  refine k_ldcS K19 (vs := ([] : List Int32).map Value.int) (z := 0) (w193 hw) (own_wS hw) (by decide) ⟨by decide, by decide⟩ (by decide) (by decide) 0 (by decide) (by decide) d_jdk_42_method_149_code_18 (pc' := 20) rfl (by decide) (by decide) ?_
  intro b20 T20 h20 s20 e20 ke20 K20 E20 tr20 X1 X2 X3 X4 nd20
  replace sf_a := tr20 a X_a.lt sf_a
  replace X_a := X_a.ext E20
  replace F_a_value := F_a_value.ext E20
  replace F_a_coder := F_a_coder.ext E20
  replace S_s17 := S_s17.ext E20
  replace KP := KP.ext E20
  have S_s20 : Str Z h20 s20 e20 ke20 0 0 (([] : List Int32).map Value.int) := ⟨X1, X2, X3, X4⟩
  have ne_a_s20 : a ≠ s20 := (nd20 a sf_a).1
  have ne_a_e20 : a ≠ e20 := (nd20 a sf_a).2
  show Goes p_.tables e_ below_ _ (T20.setTop (mkF m_ 20 #[.val (.ref a), .val (.ref va), .val (.int (0 : Int32)), .val (.int (0 : Int32)), .val .null, .unset] [(.ref s20), (.ref a)]))
  refine k_getF K20 (w33 hw) Via.refl S_s20.2.1 d_jdk_42_method_149_code_20 (pc' := 23) rfl ?_
  intro T21 K21
  refine k_putF K21 (w33 hw) Via.refl F_a_coder X_a (Or.inr ⟨(w34 hw), rfl, rfl⟩) (w9 hw) (ty := .byte) (by decide) rfl rfl ga_a sf_a d_jdk_42_method_149_code_23 (pc' := 26) rfl ?_
  intro T22 h22 K22 W22 tr22
  have F22 := F_a_coder.same W22
  replace sf_a := tr22 a X_a.lt sf_a
  replace X_a := X_a.wr W22
  replace F_a_value := F_a_value.other W22 (Or.inr (slot_ne (Or.inr (w36 hw)) (Or.inr (w34 hw)) (by decide) (t := (.array .byte)) (t' := .byte) (by decide) (by decide)))
  replace S_s17 := S_s17.other W22 (Ne.symm ne_a_s17) (Ne.symm ne_a_e17)
  replace S_s20 := S_s20.other W22 (Ne.symm ne_a_s20) (Ne.symm ne_a_e20)
  replace KP := KP.wr W22 (Or.inl (by simp))
  replace F_a_coder := F22
  exact k_return K22 d_jdk_42_method_149_code_26 rfl (fun sf ht => ⟨rfl, KP, e17, ke17, X_a, F_a_coder, F_a_value, S_s17.2.2.2⟩) (by decide) (by decide)
set_option maxRecDepth 65536 in
set_option maxHeartbeats 40000000 in
theorem c_init3e (l : Launch) (Z : State) (a0 : Array Value) (hw : Tb a0 Z) (hEW : EW Z a0 EL0) (n0 : Nat) (a va : Addr) (kv : ClassId) (u1 u2 : Value) (h0 : Heap) (O : Old Z n0 h0) (V_va : Arv Z h0 va kv .char 0 [] (.int 0)) (X_a : Exa Z h0 a "java/lang/String") (F_a_value : Fld Z h0 a "java/lang/String" "value" "[B" u1) (F_a_coder : Fld Z h0 a "java/lang/String" "coder" "B" u2) (ga_a : n0 ≤ a) (ne_a_va : a ≠ va) :
    Ct l Z EL0 n0 (⟨"java/lang/String", "<init>", "([C)V"⟩ : MethodName) jdk_42_method_3_code 2 none ({ frames := 2, cells := 4, slots := 8, locals := 29 } : Room) #[(.ref a), (.ref va)] h0 [a] (fun v h sf => v = none ∧ Keep h0 h [a] ∧ ∃ d kd, Str Z h a d kd 0 0 []) := by
  refine Ct.of (a0 := a0) #[.val (.ref a), .val (.ref va)] hEW O (plainFor_of_name pl_java_lang_String) (fun m => by first | (simp [entryFrame, mkF, argsToLocals, Value.category]; done) | rfl) ?_
  intro p_ e_ s_ m_ below_ meth_ c_ b_ T_ K hSP
  refine k_aloadN K d_jdk_42_method_3_code_0 (pc' := 1) rfl rfl rfl ?_
  refine k_aloadN K d_jdk_42_method_3_code_1 (pc' := 2) rfl rfl rfl ?_
  refine k_iconst K (0 : Int32) d_jdk_42_method_3_code_2 (pc' := 3) rfl rfl ?_
  refine k_aloadN K d_jdk_42_method_3_code_3 (pc' := 4) rfl rfl rfl ?_
  refine k_len K V_va d_jdk_42_method_3_code_4 (pc' := 5) rfl ?_
  refine k_aconst_null K d_jdk_42_method_3_code_5 (pc' := 6) rfl ?_
  refine k_special K [(.ref va), (.int (0 : Int32)), (.int (0 : Int32)), .null] [] 0 (w14 hw) (w15 hw) (w10 hw) (w17 hw) rfl rfl (by decide) pd___CIILjava_lang_Void__V_3625 (c_init149e l Z a0 hw hEW n0 a va kv u1 u2 h0 K.old V_va X_a F_a_value F_a_coder ga_a ne_a_va) d_jdk_42_method_3_code_6 (fun x hx => by cases List.mem_singleton.mp hx; exact ⟨X_a.lt, hSP a (by simp)⟩) (pc' := 9) rfl rfl rfl rfl (Nat.le_of_eq rfl) (by decide) (by decide) (by decide) (by decide) ?_
  intro b23 T23 h23 L23 v23 K23 tr23 q23
  obtain ⟨rfl, KQ, d, kd, S⟩ := q23
  show Goes p_.tables e_ below_ _ (T23.setTop (mkF m_ 9 #[.val (.ref a), .val (.ref va)] []))
  exact k_return K23 d_jdk_42_method_3_code_9 rfl (fun sf ht => ⟨rfl, KQ, d, kd, S⟩) (by decide) (by decide)
theorem d_method_4_code_0 : decode method_4_code 0 = .ok (.iload_n 0, 1) := by decide +kernel
theorem d_method_4_code_1 : decode method_4_code 1 = .ok (.ifCond .ne 14, 3) := by decide +kernel
theorem d_method_4_code_4 : decode method_4_code 4 = .ok (.new 24, 3) := by decide +kernel
theorem w8 {Z : State} {a0 : Array Value} (hw : Tb a0 Z) : (Jvm.Cond.classLink "com/example/warm_tariff/warmtariff/FiguresSignedPinLaw" (24 : Nat) "java/lang/String").before a0 Z = true := hw _ (List.mem_of_getElem? (i := 8) rfl)
theorem d_method_4_code_7 : decode method_4_code 7 = .ok (.dup, 1) := by decide +kernel
theorem d_method_4_code_8 : decode method_4_code 8 = .ok (.iconst 0, 1) := by decide +kernel
theorem d_method_4_code_9 : decode method_4_code 9 = .ok (.newarray .char, 2) := by decide +kernel
theorem w7 {Z : State} {a0 : Array Value} (hw : Tb a0 Z) : (Jvm.Cond.arrayClass Jvm.ClassFile.FieldType.char).before a0 Z = true := hw _ (List.mem_of_getElem? (i := 7) rfl)
theorem d_method_4_code_11 : decode method_4_code 11 = .ok (.invokespecial 36, 3) := by decide +kernel
theorem w11 {Z : State} {a0 : Array Value} (hw : Tb a0 Z) : (Jvm.Cond.methodLink "com/example/warm_tariff/warmtariff/FiguresSignedPinLaw" (36 : Nat) ({ cls := "java/lang/String", name := "<init>", desc := "([C)V" } : Jvm.MethodName)).before a0 Z = true := hw _ (List.mem_of_getElem? (i := 11) rfl)
theorem w13 {Z : State} {a0 : Array Value} (hw : Tb a0 Z) : (Jvm.Cond.code ({ cls := "java/lang/String", name := "<init>", desc := "([C)V" } : Jvm.MethodName) jdk_42_method_3_code (2 : Nat) (Option.none : Option Jvm.ClassFile.FieldType)).before a0 Z = true := hw _ (List.mem_of_getElem? (i := 13) rfl)
theorem w12 {Z : State} {a0 : Array Value} (hw : Tb a0 Z) : (Jvm.Cond.instanceMethod ({ cls := "java/lang/String", name := "<init>", desc := "([C)V" } : Jvm.MethodName)).before a0 Z = true := hw _ (List.mem_of_getElem? (i := 12) rfl)
theorem pd___C_V_1017 : parseMethodDescriptor "([C)V" = some ⟨[(.array .char)], none⟩ := by decide +kernel
theorem d_method_4_code_14 : decode method_4_code 14 = .ok (.areturn, 1) := by decide +kernel
set_option maxRecDepth 65536 in
set_option maxHeartbeats 40000000 in
theorem c_make0 (l : Launch) (Z : State) (a0 : Array Value) (hw : Tb a0 Z) (hEW : EW Z a0 EL0) (n0 : Nat) (c0 c1 c2 : Int32) (cs0 : Int32) (h0 : Heap) (O : Old Z n0 h0) (hk0 : 0 ≤ c0.toInt ∧ c0.toInt < 256) (hk1 : 0 ≤ c1.toInt ∧ c1.toInt < 256) (hk2 : 0 ≤ c2.toInt ∧ c2.toInt < 256) (SC : Sta Z Z.heap "java/lang/String" "COMPACT_STRINGS" "Z" (.int cs0)) (hcs : ¬ cs0 = 0) :
    Ct l Z EL0 n0 (⟨"com/example/warm_tariff/warmtariff/FiguresSignedPinLaw", "make", "(ICCC)Ljava/lang/String;"⟩ : MethodName) method_4_code 5 (some (.object "java/lang/String")) ({ frames := 3, cells := 6, slots := 12, locals := 43 } : Room) #[(.int (0 : Int32)), (.int c0), (.int c1), (.int c2)] h0 [] (fun v h sf => ∃ a d kd, v = some (.ref a) ∧ Str Z h a d kd 0 0 ((([] : List Int32).map fun c => c.toInt8.toInt32).map Value.int)) := by
  refine Ct.of (a0 := a0) #[.val (.int (0 : Int32)), .val (.int c0), .val (.int c1), .val (.int c2), .unset] hEW O (plainFor_of_name pl_com_example_warm_tariff_warmtariff_FiguresSignedPinLaw) (fun m => by first | (simp [entryFrame, mkF, argsToLocals, Value.category]; done) | rfl) ?_
  intro p_ e_ s_ m_ below_ meth_ c_ b_ T_ K hSP
  refine k_iloadN K d_method_4_code_0 (pc' := 1) rfl rfl ?_
  refine k_if_ne K d_method_4_code_1 (by decide) (pc' := 15) (pc2 := 4) (by decide) rfl (fun q => absurd (by decide) q) (fun hc1 => ?_)
  refine k_new K (w8 hw) (w9 hw) (w10 hw) d_method_4_code_4 (pc' := 7) rfl (by decide) (by decide) ?_
  intro T24 h24 a24 g24 K24 E24 tr24 sf_a24 X_a24 D24 U24
  have ga_a24 : n0 ≤ a24 := own_old K.old g24
  have F_a24_coder : Fld Z h24 a24 "java/lang/String" "coder" "B" (.int (0 : Int32)) := D24 (Or.inr (w34 hw)) (ty := .byte) (by decide)
  have F_a24_value : Fld Z h24 a24 "java/lang/String" "value" "[B" .null := D24 (Or.inr (w36 hw)) (ty := (.array .byte)) (by decide)
  refine k_dup K24 d_method_4_code_7 (pc' := 8) rfl rfl ?_
  refine k_iconst K24 (0 : Int32) d_method_4_code_8 (pc' := 9) rfl rfl ?_
  refine k_newarray K24 (aty := .char) (z := (0 : Int32)) (w7 hw) (by decide) (cap := 0) (by decide) (by decide) d_method_4_code_9 (pc' := 11) rfl (by decide) (by decide) ?_
  intro T25 h25 a25 ka25 g25 K25 E25 tr25 sf_a25 V_a25
  have ga_a25 : n0 ≤ a25 := own_old K24.old g25
  have ne_a24_a25 : a24 ≠ a25 := own_ne X_a24.lt g25
  replace sf_a24 := tr25 a24 X_a24.lt sf_a24
  replace X_a24 := X_a24.ext E25
  replace F_a24_coder := F_a24_coder.ext E25
  replace F_a24_value := F_a24_value.ext E25
  replace V_a25 : Arv Z h25 a25 ka25 .char (0 : Int32) [] (.int (0 : Int32)) := V_a25.pad (pad_rep [] (.int (0 : Int32)) 0)
  refine k_special K25 [(.ref a25)] [(.ref a24)] 1 (w11 hw) (w12 hw) (w10 hw) (w13 hw) rfl rfl (by decide) pd___C_V_1017 (c_init3e l Z a0 hw hEW n0 a24 a25 ka25 _ _ h25 K25.old V_a25 X_a24 F_a24_value F_a24_coder ga_a24 ne_a24_a25) d_method_4_code_11 (fun x hx => by cases List.mem_singleton.mp hx; exact ⟨X_a24.lt, sf_a24⟩) (pc' := 14) rfl rfl rfl rfl (Nat.le_of_eq rfl) (by decide) (by decide) (by decide) (by decide) ?_
  intro b26 T26 h26 L26 v26 K26 tr26 q26
  obtain ⟨rfl, KQ, d, kd, S⟩ := q26
  show Goes p_.tables e_ below_ _ (T26.setTop (mkF m_ 14 #[.val (.int (0 : Int32)), .val (.int c0), .val (.int c1), .val (.int c2), .unset] [(.ref a24)]))
  exact k_aret K26 d_method_4_code_14 rfl rfl rfl (fun sf ht => ⟨a24, d, kd, rfl, S⟩) (by decide) (by decide)
theorem d_method_4_code_15 : decode method_4_code 15 = .ok (.iload_n 0, 1) := by decide +kernel
theorem d_method_4_code_16 : decode method_4_code 16 = .ok (.iconst 1, 1) := by decide +kernel
theorem d_method_4_code_17 : decode method_4_code 17 = .ok (.if_icmp .ne 23, 3) := by decide +kernel
theorem d_method_4_code_20 : decode method_4_code 20 = .ok (.iconst 1, 1) := by decide +kernel
theorem d_method_4_code_21 : decode method_4_code 21 = .ok (.newarray .char, 2) := by decide +kernel
theorem d_method_4_code_23 : decode method_4_code 23 = .ok (.astore 4, 2) := by decide +kernel
theorem d_method_4_code_25 : decode method_4_code 25 = .ok (.aload 4, 2) := by decide +kernel
theorem d_method_4_code_27 : decode method_4_code 27 = .ok (.iconst 0, 1) := by decide +kernel
theorem d_method_4_code_28 : decode method_4_code 28 = .ok (.iload_n 1, 1) := by decide +kernel
theorem d_method_4_code_29 : decode method_4_code 29 = .ok (.castore, 1) := by decide +kernel
theorem d_method_4_code_30 : decode method_4_code 30 = .ok (.new 24, 3) := by decide +kernel
theorem d_method_4_code_33 : decode method_4_code 33 = .ok (.dup, 1) := by decide +kernel
theorem d_method_4_code_34 : decode method_4_code 34 = .ok (.aload 4, 2) := by decide +kernel
theorem d_method_4_code_36 : decode method_4_code 36 = .ok (.invokespecial 36, 3) := by decide +kernel
theorem d_method_4_code_39 : decode method_4_code 39 = .ok (.areturn, 1) := by decide +kernel
set_option maxRecDepth 65536 in
set_option maxHeartbeats 40000000 in
theorem c_make1 (l : Launch) (Z : State) (a0 : Array Value) (hw : Tb a0 Z) (hEW : EW Z a0 EL0) (n0 : Nat) (c0 c1 c2 : Int32) (cs0 : Int32) (h0 : Heap) (O : Old Z n0 h0) (hk0 : 0 ≤ c0.toInt ∧ c0.toInt < 256) (hk1 : 0 ≤ c1.toInt ∧ c1.toInt < 256) (hk2 : 0 ≤ c2.toInt ∧ c2.toInt < 256) (SC : Sta Z Z.heap "java/lang/String" "COMPACT_STRINGS" "Z" (.int cs0)) (hcs : ¬ cs0 = 0) :
    Ct l Z EL0 n0 (⟨"com/example/warm_tariff/warmtariff/FiguresSignedPinLaw", "make", "(ICCC)Ljava/lang/String;"⟩ : MethodName) method_4_code 5 (some (.object "java/lang/String")) ({ frames := 4, cells := 3, slots := 8, locals := 66 } : Room) #[(.int (1 : Int32)), (.int c0), (.int c1), (.int c2)] h0 [] (fun v h sf => ∃ a d kd, v = some (.ref a) ∧ Str Z h a d kd 0 1 ((([c0] : List Int32).map fun c => c.toInt8.toInt32).map Value.int)) := by
  refine Ct.of (a0 := a0) #[.val (.int (1 : Int32)), .val (.int c0), .val (.int c1), .val (.int c2), .unset] hEW O (plainFor_of_name pl_com_example_warm_tariff_warmtariff_FiguresSignedPinLaw) (fun m => by first | (simp [entryFrame, mkF, argsToLocals, Value.category]; done) | rfl) ?_
  intro p_ e_ s_ m_ below_ meth_ c_ b_ T_ K hSP
  refine k_iloadN K d_method_4_code_0 (pc' := 1) rfl rfl ?_
  refine k_if_ne K d_method_4_code_1 (by decide) (pc' := 15) (pc2 := 4) (by decide) rfl (fun hc1 => ?_) (fun q => absurd q (by decide))
  refine k_iloadN K d_method_4_code_15 (pc' := 16) rfl rfl ?_
  refine k_iconst K (1 : Int32) d_method_4_code_16 (pc' := 17) rfl rfl ?_
  refine k_icmp_ne K d_method_4_code_17 (by decide) (pc' := 40) (pc2 := 20) (by decide) rfl (fun q => absurd (by decide) q) (fun hc17 => ?_)
  refine k_iconst K (1 : Int32) d_method_4_code_20 (pc' := 21) rfl rfl ?_
  refine k_newarray K (aty := .char) (z := (1 : Int32)) (w7 hw) (by decide) (cap := 1) (by decide) (by decide) d_method_4_code_21 (pc' := 23) rfl (by decide) (by decide) ?_
  intro T27 h27 a27 ka27 g27 K27 E27 tr27 sf_a27 V_a27
  have ga_a27 : n0 ≤ a27 := own_old K.old g27
  replace V_a27 : Arv Z h27 a27 ka27 .char (1 : Int32) [(.int (0 : Int32))] (.int (0 : Int32)) := V_a27.pad (pad_rep [] (.int (0 : Int32)) 1)
  refine k_astore K27 d_method_4_code_23 (pc' := 25) (L' := #[.val (.int (1 : Int32)), .val (.int c0), .val (.int c1), .val (.int c2), .val (.ref a27)]) rfl rfl rfl ?_
  refine k_aload K27 d_method_4_code_25 (pc' := 27) rfl rfl rfl ?_
  refine k_iconst K27 (0 : Int32) d_method_4_code_27 (pc' := 28) rfl rfl ?_
  refine k_iloadN K27 d_method_4_code_28 (pc' := 29) rfl rfl ?_
  refine k_castore K27 (j := (0 : Int32)) V_a27 ⟨by decide, by decide⟩ (Nat.le_of_ble_eq_true rfl) ga_a27 sf_a27 d_method_4_code_29 (pc' := 30) rfl ?_
  intro T28 h28 K28 W28 tr28 V28
  replace sf_a27 := tr28 a27 V_a27.lt sf_a27
  replace V_a27 := V28
  have e0 : ∀ c : Int32, (0 ≤ c.toInt ∧ c.toInt < 256) → nar .char c = c := fun c hc => Value.int.inj (own_narrowc hc.1 (by omega))
  have hcs_ : ∀ c ∈ ([c0] : List Int32), 0 ≤ c.toInt ∧ c.toInt < 256 := by
    intro c hc
    simp only [List.mem_cons, List.not_mem_nil, or_false] at hc
    rcases hc with rfl
    · exact hk0
  rw [e0 c0 hk0] at V_a27
  replace V_a27 : Arv Z h28 a27 ka27 .char 1 (([c0] : List Int32).map Value.int) (.int 0) := V_a27
  refine k_new K28 (w8 hw) (w9 hw) (w10 hw) d_method_4_code_30 (pc' := 33) rfl (by decide) (by decide) ?_
  intro T29 h29 a29 g29 K29 E29 tr29 sf_a29 X_a29 D29 U29
  have ga_a29 : n0 ≤ a29 := own_old K28.old g29
  have ne_a27_a29 : a27 ≠ a29 := own_ne V_a27.lt g29
  replace sf_a27 := tr29 a27 V_a27.lt sf_a27
  replace V_a27 := V_a27.ext E29
  have F_a29_coder : Fld Z h29 a29 "java/lang/String" "coder" "B" (.int (0 : Int32)) := D29 (Or.inr (w34 hw)) (ty := .byte) (by decide)
  have F_a29_value : Fld Z h29 a29 "java/lang/String" "value" "[B" .null := D29 (Or.inr (w36 hw)) (ty := (.array .byte)) (by decide)
  refine k_dup K29 d_method_4_code_33 (pc' := 34) rfl rfl ?_
  refine k_aload K29 d_method_4_code_34 (pc' := 36) rfl rfl rfl ?_
  refine k_special K29 [(.ref a27)] [(.ref a29)] 1 (w11 hw) (w12 hw) (w10 hw) (w13 hw) rfl rfl (by decide) pd___C_V_1017 (c_init3 l Z a0 hw hEW n0 a29 a27 ka27 1 [c0] _ _ cs0 h29 K29.old rfl (by simp) (by simp) hcs_ V_a27 X_a29 F_a29_value F_a29_coder ga_a29 (Ne.symm ne_a27_a29) SC hcs) d_method_4_code_36 (fun x hx => by cases List.mem_singleton.mp hx; exact ⟨X_a29.lt, sf_a29⟩) (pc' := 39) rfl rfl rfl rfl (Nat.le_of_eq rfl) (by decide) (by decide) (by decide) (by decide) ?_
  intro b30 T30 h30 L30 v30 K30 tr30 q30
  obtain ⟨rfl, KQ, d, kd, hd, S⟩ := q30
  rw [own_strCd hcs_, own_strZ hcs_, own_strVs hcs_] at S
  show Goes p_.tables e_ below_ _ (T30.setTop (mkF m_ 39 #[.val (.int (1 : Int32)), .val (.int c0), .val (.int c1), .val (.int c2), .val (.ref a27)] [(.ref a29)]))
  exact k_aret K30 d_method_4_code_39 rfl rfl rfl (fun sf ht => ⟨a29, d, kd, rfl, S⟩) (by decide) (by decide)
theorem d_method_4_code_40 : decode method_4_code 40 = .ok (.iload_n 0, 1) := by decide +kernel
theorem d_method_4_code_41 : decode method_4_code 41 = .ok (.iconst 2, 1) := by decide +kernel
theorem d_method_4_code_42 : decode method_4_code 42 = .ok (.if_icmp .ne 28, 3) := by decide +kernel
theorem d_method_4_code_45 : decode method_4_code 45 = .ok (.iconst 2, 1) := by decide +kernel
theorem d_method_4_code_46 : decode method_4_code 46 = .ok (.newarray .char, 2) := by decide +kernel
theorem d_method_4_code_48 : decode method_4_code 48 = .ok (.astore 4, 2) := by decide +kernel
theorem d_method_4_code_50 : decode method_4_code 50 = .ok (.aload 4, 2) := by decide +kernel
theorem d_method_4_code_52 : decode method_4_code 52 = .ok (.iconst 0, 1) := by decide +kernel
theorem d_method_4_code_53 : decode method_4_code 53 = .ok (.iload_n 1, 1) := by decide +kernel
theorem d_method_4_code_54 : decode method_4_code 54 = .ok (.castore, 1) := by decide +kernel
theorem d_method_4_code_55 : decode method_4_code 55 = .ok (.aload 4, 2) := by decide +kernel
theorem d_method_4_code_57 : decode method_4_code 57 = .ok (.iconst 1, 1) := by decide +kernel
theorem d_method_4_code_58 : decode method_4_code 58 = .ok (.iload_n 2, 1) := by decide +kernel
theorem d_method_4_code_59 : decode method_4_code 59 = .ok (.castore, 1) := by decide +kernel
theorem d_method_4_code_60 : decode method_4_code 60 = .ok (.new 24, 3) := by decide +kernel
theorem d_method_4_code_63 : decode method_4_code 63 = .ok (.dup, 1) := by decide +kernel
theorem d_method_4_code_64 : decode method_4_code 64 = .ok (.aload 4, 2) := by decide +kernel
theorem d_method_4_code_66 : decode method_4_code 66 = .ok (.invokespecial 36, 3) := by decide +kernel
theorem d_method_4_code_69 : decode method_4_code 69 = .ok (.areturn, 1) := by decide +kernel
set_option maxRecDepth 65536 in
set_option maxHeartbeats 40000000 in
theorem c_make2 (l : Launch) (Z : State) (a0 : Array Value) (hw : Tb a0 Z) (hEW : EW Z a0 EL0) (n0 : Nat) (c0 c1 c2 : Int32) (cs0 : Int32) (h0 : Heap) (O : Old Z n0 h0) (hk0 : 0 ≤ c0.toInt ∧ c0.toInt < 256) (hk1 : 0 ≤ c1.toInt ∧ c1.toInt < 256) (hk2 : 0 ≤ c2.toInt ∧ c2.toInt < 256) (SC : Sta Z Z.heap "java/lang/String" "COMPACT_STRINGS" "Z" (.int cs0)) (hcs : ¬ cs0 = 0) :
    Ct l Z EL0 n0 (⟨"com/example/warm_tariff/warmtariff/FiguresSignedPinLaw", "make", "(ICCC)Ljava/lang/String;"⟩ : MethodName) method_4_code 5 (some (.object "java/lang/String")) ({ frames := 4, cells := 3, slots := 9, locals := 66 } : Room) #[(.int (2 : Int32)), (.int c0), (.int c1), (.int c2)] h0 [] (fun v h sf => ∃ a d kd, v = some (.ref a) ∧ Str Z h a d kd 0 2 ((([c0, c1] : List Int32).map fun c => c.toInt8.toInt32).map Value.int)) := by
  refine Ct.of (a0 := a0) #[.val (.int (2 : Int32)), .val (.int c0), .val (.int c1), .val (.int c2), .unset] hEW O (plainFor_of_name pl_com_example_warm_tariff_warmtariff_FiguresSignedPinLaw) (fun m => by first | (simp [entryFrame, mkF, argsToLocals, Value.category]; done) | rfl) ?_
  intro p_ e_ s_ m_ below_ meth_ c_ b_ T_ K hSP
  refine k_iloadN K d_method_4_code_0 (pc' := 1) rfl rfl ?_
  refine k_if_ne K d_method_4_code_1 (by decide) (pc' := 15) (pc2 := 4) (by decide) rfl (fun hc1 => ?_) (fun q => absurd q (by decide))
  refine k_iloadN K d_method_4_code_15 (pc' := 16) rfl rfl ?_
  refine k_iconst K (1 : Int32) d_method_4_code_16 (pc' := 17) rfl rfl ?_
  refine k_icmp_ne K d_method_4_code_17 (by decide) (pc' := 40) (pc2 := 20) (by decide) rfl (fun hc17 => ?_) (fun q => absurd q (by decide))
  refine k_iloadN K d_method_4_code_40 (pc' := 41) rfl rfl ?_
  refine k_iconst K (2 : Int32) d_method_4_code_41 (pc' := 42) rfl rfl ?_
  refine k_icmp_ne K d_method_4_code_42 (by decide) (pc' := 70) (pc2 := 45) (by decide) rfl (fun q => absurd (by decide) q) (fun hc42 => ?_)
  refine k_iconst K (2 : Int32) d_method_4_code_45 (pc' := 46) rfl rfl ?_
  refine k_newarray K (aty := .char) (z := (2 : Int32)) (w7 hw) (by decide) (cap := 2) (by decide) (by decide) d_method_4_code_46 (pc' := 48) rfl (by decide) (by decide) ?_
  intro T31 h31 a31 ka31 g31 K31 E31 tr31 sf_a31 V_a31
  have ga_a31 : n0 ≤ a31 := own_old K.old g31
  replace V_a31 : Arv Z h31 a31 ka31 .char (2 : Int32) [(.int (0 : Int32)), (.int (0 : Int32))] (.int (0 : Int32)) := V_a31.pad (pad_rep [] (.int (0 : Int32)) 2)
  refine k_astore K31 d_method_4_code_48 (pc' := 50) (L' := #[.val (.int (2 : Int32)), .val (.int c0), .val (.int c1), .val (.int c2), .val (.ref a31)]) rfl rfl rfl ?_
  refine k_aload K31 d_method_4_code_50 (pc' := 52) rfl rfl rfl ?_
  refine k_iconst K31 (0 : Int32) d_method_4_code_52 (pc' := 53) rfl rfl ?_
  refine k_iloadN K31 d_method_4_code_53 (pc' := 54) rfl rfl ?_
  refine k_castore K31 (j := (0 : Int32)) V_a31 ⟨by decide, by decide⟩ (Nat.le_of_ble_eq_true rfl) ga_a31 sf_a31 d_method_4_code_54 (pc' := 55) rfl ?_
  intro T32 h32 K32 W32 tr32 V32
  replace sf_a31 := tr32 a31 V_a31.lt sf_a31
  replace V_a31 := V32
  refine k_aload K32 d_method_4_code_55 (pc' := 57) rfl rfl rfl ?_
  refine k_iconst K32 (1 : Int32) d_method_4_code_57 (pc' := 58) rfl rfl ?_
  refine k_iloadN K32 d_method_4_code_58 (pc' := 59) rfl rfl ?_
  refine k_castore K32 (j := (1 : Int32)) V_a31 ⟨by decide, by decide⟩ (Nat.le_of_ble_eq_true rfl) ga_a31 sf_a31 d_method_4_code_59 (pc' := 60) rfl ?_
  intro T33 h33 K33 W33 tr33 V33
  replace sf_a31 := tr33 a31 V_a31.lt sf_a31
  replace V_a31 := V33
  have e0 : ∀ c : Int32, (0 ≤ c.toInt ∧ c.toInt < 256) → nar .char c = c := fun c hc => Value.int.inj (own_narrowc hc.1 (by omega))
  have hcs_ : ∀ c ∈ ([c0, c1] : List Int32), 0 ≤ c.toInt ∧ c.toInt < 256 := by
    intro c hc
    simp only [List.mem_cons, List.not_mem_nil, or_false] at hc
    rcases hc with rfl | rfl
    · exact hk0
    · exact hk1
  rw [e0 c0 hk0, e0 c1 hk1] at V_a31
  replace V_a31 : Arv Z h33 a31 ka31 .char 2 (([c0, c1] : List Int32).map Value.int) (.int 0) := V_a31
  refine k_new K33 (w8 hw) (w9 hw) (w10 hw) d_method_4_code_60 (pc' := 63) rfl (by decide) (by decide) ?_
  intro T34 h34 a34 g34 K34 E34 tr34 sf_a34 X_a34 D34 U34
  have ga_a34 : n0 ≤ a34 := own_old K33.old g34
  have ne_a31_a34 : a31 ≠ a34 := own_ne V_a31.lt g34
  replace sf_a31 := tr34 a31 V_a31.lt sf_a31
  replace V_a31 := V_a31.ext E34
  have F_a34_coder : Fld Z h34 a34 "java/lang/String" "coder" "B" (.int (0 : Int32)) := D34 (Or.inr (w34 hw)) (ty := .byte) (by decide)
  have F_a34_value : Fld Z h34 a34 "java/lang/String" "value" "[B" .null := D34 (Or.inr (w36 hw)) (ty := (.array .byte)) (by decide)
  refine k_dup K34 d_method_4_code_63 (pc' := 64) rfl rfl ?_
  refine k_aload K34 d_method_4_code_64 (pc' := 66) rfl rfl rfl ?_
  refine k_special K34 [(.ref a31)] [(.ref a34)] 1 (w11 hw) (w12 hw) (w10 hw) (w13 hw) rfl rfl (by decide) pd___C_V_1017 (c_init3 l Z a0 hw hEW n0 a34 a31 ka31 2 [c0, c1] _ _ cs0 h34 K34.old rfl (by simp) (by simp) hcs_ V_a31 X_a34 F_a34_value F_a34_coder ga_a34 (Ne.symm ne_a31_a34) SC hcs) d_method_4_code_66 (fun x hx => by cases List.mem_singleton.mp hx; exact ⟨X_a34.lt, sf_a34⟩) (pc' := 69) rfl rfl rfl rfl (Nat.le_of_eq rfl) (by decide) (by decide) (by decide) (by decide) ?_
  intro b35 T35 h35 L35 v35 K35 tr35 q35
  obtain ⟨rfl, KQ, d, kd, hd, S⟩ := q35
  rw [own_strCd hcs_, own_strZ hcs_, own_strVs hcs_] at S
  show Goes p_.tables e_ below_ _ (T35.setTop (mkF m_ 69 #[.val (.int (2 : Int32)), .val (.int c0), .val (.int c1), .val (.int c2), .val (.ref a31)] [(.ref a34)]))
  exact k_aret K35 d_method_4_code_69 rfl rfl rfl (fun sf ht => ⟨a34, d, kd, rfl, S⟩) (by decide) (by decide)
theorem d_method_4_code_70 : decode method_4_code 70 = .ok (.iconst 3, 1) := by decide +kernel
theorem d_method_4_code_71 : decode method_4_code 71 = .ok (.newarray .char, 2) := by decide +kernel
theorem d_method_4_code_73 : decode method_4_code 73 = .ok (.astore 4, 2) := by decide +kernel
theorem d_method_4_code_75 : decode method_4_code 75 = .ok (.aload 4, 2) := by decide +kernel
theorem d_method_4_code_77 : decode method_4_code 77 = .ok (.iconst 0, 1) := by decide +kernel
theorem d_method_4_code_78 : decode method_4_code 78 = .ok (.iload_n 1, 1) := by decide +kernel
theorem d_method_4_code_79 : decode method_4_code 79 = .ok (.castore, 1) := by decide +kernel
theorem d_method_4_code_80 : decode method_4_code 80 = .ok (.aload 4, 2) := by decide +kernel
theorem d_method_4_code_82 : decode method_4_code 82 = .ok (.iconst 1, 1) := by decide +kernel
theorem d_method_4_code_83 : decode method_4_code 83 = .ok (.iload_n 2, 1) := by decide +kernel
theorem d_method_4_code_84 : decode method_4_code 84 = .ok (.castore, 1) := by decide +kernel
theorem d_method_4_code_85 : decode method_4_code 85 = .ok (.aload 4, 2) := by decide +kernel
theorem d_method_4_code_87 : decode method_4_code 87 = .ok (.iconst 2, 1) := by decide +kernel
theorem d_method_4_code_88 : decode method_4_code 88 = .ok (.iload_n 3, 1) := by decide +kernel
theorem d_method_4_code_89 : decode method_4_code 89 = .ok (.castore, 1) := by decide +kernel
theorem d_method_4_code_90 : decode method_4_code 90 = .ok (.new 24, 3) := by decide +kernel
theorem d_method_4_code_93 : decode method_4_code 93 = .ok (.dup, 1) := by decide +kernel
theorem d_method_4_code_94 : decode method_4_code 94 = .ok (.aload 4, 2) := by decide +kernel
theorem d_method_4_code_96 : decode method_4_code 96 = .ok (.invokespecial 36, 3) := by decide +kernel
theorem d_method_4_code_99 : decode method_4_code 99 = .ok (.areturn, 1) := by decide +kernel
set_option maxRecDepth 65536 in
set_option maxHeartbeats 40000000 in
theorem c_make3 (l : Launch) (Z : State) (a0 : Array Value) (hw : Tb a0 Z) (hEW : EW Z a0 EL0) (n0 : Nat) (c0 c1 c2 : Int32) (cs0 : Int32) (h0 : Heap) (O : Old Z n0 h0) (hk0 : 0 ≤ c0.toInt ∧ c0.toInt < 256) (hk1 : 0 ≤ c1.toInt ∧ c1.toInt < 256) (hk2 : 0 ≤ c2.toInt ∧ c2.toInt < 256) (SC : Sta Z Z.heap "java/lang/String" "COMPACT_STRINGS" "Z" (.int cs0)) (hcs : ¬ cs0 = 0) :
    Ct l Z EL0 n0 (⟨"com/example/warm_tariff/warmtariff/FiguresSignedPinLaw", "make", "(ICCC)Ljava/lang/String;"⟩ : MethodName) method_4_code 5 (some (.object "java/lang/String")) ({ frames := 4, cells := 3, slots := 10, locals := 66 } : Room) #[(.int (3 : Int32)), (.int c0), (.int c1), (.int c2)] h0 [] (fun v h sf => ∃ a d kd, v = some (.ref a) ∧ Str Z h a d kd 0 3 ((([c0, c1, c2] : List Int32).map fun c => c.toInt8.toInt32).map Value.int)) := by
  refine Ct.of (a0 := a0) #[.val (.int (3 : Int32)), .val (.int c0), .val (.int c1), .val (.int c2), .unset] hEW O (plainFor_of_name pl_com_example_warm_tariff_warmtariff_FiguresSignedPinLaw) (fun m => by first | (simp [entryFrame, mkF, argsToLocals, Value.category]; done) | rfl) ?_
  intro p_ e_ s_ m_ below_ meth_ c_ b_ T_ K hSP
  refine k_iloadN K d_method_4_code_0 (pc' := 1) rfl rfl ?_
  refine k_if_ne K d_method_4_code_1 (by decide) (pc' := 15) (pc2 := 4) (by decide) rfl (fun hc1 => ?_) (fun q => absurd q (by decide))
  refine k_iloadN K d_method_4_code_15 (pc' := 16) rfl rfl ?_
  refine k_iconst K (1 : Int32) d_method_4_code_16 (pc' := 17) rfl rfl ?_
  refine k_icmp_ne K d_method_4_code_17 (by decide) (pc' := 40) (pc2 := 20) (by decide) rfl (fun hc17 => ?_) (fun q => absurd q (by decide))
  refine k_iloadN K d_method_4_code_40 (pc' := 41) rfl rfl ?_
  refine k_iconst K (2 : Int32) d_method_4_code_41 (pc' := 42) rfl rfl ?_
  refine k_icmp_ne K d_method_4_code_42 (by decide) (pc' := 70) (pc2 := 45) (by decide) rfl (fun hc42 => ?_) (fun q => absurd q (by decide))
  refine k_iconst K (3 : Int32) d_method_4_code_70 (pc' := 71) rfl rfl ?_
  refine k_newarray K (aty := .char) (z := (3 : Int32)) (w7 hw) (by decide) (cap := 3) (by decide) (by decide) d_method_4_code_71 (pc' := 73) rfl (by decide) (by decide) ?_
  intro T36 h36 a36 ka36 g36 K36 E36 tr36 sf_a36 V_a36
  have ga_a36 : n0 ≤ a36 := own_old K.old g36
  replace V_a36 : Arv Z h36 a36 ka36 .char (3 : Int32) [(.int (0 : Int32)), (.int (0 : Int32)), (.int (0 : Int32))] (.int (0 : Int32)) := V_a36.pad (pad_rep [] (.int (0 : Int32)) 3)
  refine k_astore K36 d_method_4_code_73 (pc' := 75) (L' := #[.val (.int (3 : Int32)), .val (.int c0), .val (.int c1), .val (.int c2), .val (.ref a36)]) rfl rfl rfl ?_
  refine k_aload K36 d_method_4_code_75 (pc' := 77) rfl rfl rfl ?_
  refine k_iconst K36 (0 : Int32) d_method_4_code_77 (pc' := 78) rfl rfl ?_
  refine k_iloadN K36 d_method_4_code_78 (pc' := 79) rfl rfl ?_
  refine k_castore K36 (j := (0 : Int32)) V_a36 ⟨by decide, by decide⟩ (Nat.le_of_ble_eq_true rfl) ga_a36 sf_a36 d_method_4_code_79 (pc' := 80) rfl ?_
  intro T37 h37 K37 W37 tr37 V37
  replace sf_a36 := tr37 a36 V_a36.lt sf_a36
  replace V_a36 := V37
  refine k_aload K37 d_method_4_code_80 (pc' := 82) rfl rfl rfl ?_
  refine k_iconst K37 (1 : Int32) d_method_4_code_82 (pc' := 83) rfl rfl ?_
  refine k_iloadN K37 d_method_4_code_83 (pc' := 84) rfl rfl ?_
  refine k_castore K37 (j := (1 : Int32)) V_a36 ⟨by decide, by decide⟩ (Nat.le_of_ble_eq_true rfl) ga_a36 sf_a36 d_method_4_code_84 (pc' := 85) rfl ?_
  intro T38 h38 K38 W38 tr38 V38
  replace sf_a36 := tr38 a36 V_a36.lt sf_a36
  replace V_a36 := V38
  refine k_aload K38 d_method_4_code_85 (pc' := 87) rfl rfl rfl ?_
  refine k_iconst K38 (2 : Int32) d_method_4_code_87 (pc' := 88) rfl rfl ?_
  refine k_iloadN K38 d_method_4_code_88 (pc' := 89) rfl rfl ?_
  refine k_castore K38 (j := (2 : Int32)) V_a36 ⟨by decide, by decide⟩ (Nat.le_of_ble_eq_true rfl) ga_a36 sf_a36 d_method_4_code_89 (pc' := 90) rfl ?_
  intro T39 h39 K39 W39 tr39 V39
  replace sf_a36 := tr39 a36 V_a36.lt sf_a36
  replace V_a36 := V39
  have e0 : ∀ c : Int32, (0 ≤ c.toInt ∧ c.toInt < 256) → nar .char c = c := fun c hc => Value.int.inj (own_narrowc hc.1 (by omega))
  have hcs_ : ∀ c ∈ ([c0, c1, c2] : List Int32), 0 ≤ c.toInt ∧ c.toInt < 256 := by
    intro c hc
    simp only [List.mem_cons, List.not_mem_nil, or_false] at hc
    rcases hc with rfl | rfl | rfl
    · exact hk0
    · exact hk1
    · exact hk2
  rw [e0 c0 hk0, e0 c1 hk1, e0 c2 hk2] at V_a36
  replace V_a36 : Arv Z h39 a36 ka36 .char 3 (([c0, c1, c2] : List Int32).map Value.int) (.int 0) := V_a36
  refine k_new K39 (w8 hw) (w9 hw) (w10 hw) d_method_4_code_90 (pc' := 93) rfl (by decide) (by decide) ?_
  intro T40 h40 a40 g40 K40 E40 tr40 sf_a40 X_a40 D40 U40
  have ga_a40 : n0 ≤ a40 := own_old K39.old g40
  have ne_a36_a40 : a36 ≠ a40 := own_ne V_a36.lt g40
  replace sf_a36 := tr40 a36 V_a36.lt sf_a36
  replace V_a36 := V_a36.ext E40
  have F_a40_coder : Fld Z h40 a40 "java/lang/String" "coder" "B" (.int (0 : Int32)) := D40 (Or.inr (w34 hw)) (ty := .byte) (by decide)
  have F_a40_value : Fld Z h40 a40 "java/lang/String" "value" "[B" .null := D40 (Or.inr (w36 hw)) (ty := (.array .byte)) (by decide)
  refine k_dup K40 d_method_4_code_93 (pc' := 94) rfl rfl ?_
  refine k_aload K40 d_method_4_code_94 (pc' := 96) rfl rfl rfl ?_
  refine k_special K40 [(.ref a36)] [(.ref a40)] 1 (w11 hw) (w12 hw) (w10 hw) (w13 hw) rfl rfl (by decide) pd___C_V_1017 (c_init3 l Z a0 hw hEW n0 a40 a36 ka36 3 [c0, c1, c2] _ _ cs0 h40 K40.old rfl (by simp) (by simp) hcs_ V_a36 X_a40 F_a40_value F_a40_coder ga_a40 (Ne.symm ne_a36_a40) SC hcs) d_method_4_code_96 (fun x hx => by cases List.mem_singleton.mp hx; exact ⟨X_a40.lt, sf_a40⟩) (pc' := 99) rfl rfl rfl rfl (Nat.le_of_eq rfl) (by decide) (by decide) (by decide) (by decide) ?_
  intro b41 T41 h41 L41 v41 K41 tr41 q41
  obtain ⟨rfl, KQ, d, kd, hd, S⟩ := q41
  rw [own_strCd hcs_, own_strZ hcs_, own_strVs hcs_] at S
  show Goes p_.tables e_ below_ _ (T41.setTop (mkF m_ 99 #[.val (.int (3 : Int32)), .val (.int c0), .val (.int c1), .val (.int c2), .val (.ref a36)] [(.ref a40)]))
  exact k_aret K41 d_method_4_code_99 rfl rfl rfl (fun sf ht => ⟨a40, d, kd, rfl, S⟩) (by decide) (by decide)
theorem d_jdk_48_method_14_code_0 : decode jdk_48_method_14_code 0 = .ok (.iconst 0, 1) := by decide +kernel
theorem d_jdk_48_method_14_code_1 : decode jdk_48_method_14_code 1 = .ok (.istore 5, 2) := by decide +kernel
theorem d_jdk_48_method_14_code_3 : decode jdk_48_method_14_code 3 = .ok (.iload 4, 2) := by decide +kernel
theorem d_jdk_48_method_14_code_5 : decode jdk_48_method_14_code 5 = .ok (.bipush 7, 2) := by decide +kernel
theorem d_jdk_48_method_14_code_7 : decode jdk_48_method_14_code 7 = .ok (.if_icmp .le 63, 3) := by decide +kernel
theorem d_jdk_48_method_14_code_70 : decode jdk_48_method_14_code 70 = .ok (.iload 5, 2) := by decide +kernel
theorem d_jdk_48_method_14_code_72 : decode jdk_48_method_14_code 72 = .ok (.iload 4, 2) := by decide +kernel
theorem d_jdk_48_method_14_code_74 : decode jdk_48_method_14_code 74 = .ok (.if_icmp .ge 27, 3) := by decide +kernel
theorem d_jdk_48_method_14_code_77 : decode jdk_48_method_14_code 77 = .ok (.aload_n 0, 1) := by decide +kernel
theorem d_jdk_48_method_14_code_78 : decode jdk_48_method_14_code 78 = .ok (.iload_n 1, 1) := by decide +kernel
theorem d_jdk_48_method_14_code_79 : decode jdk_48_method_14_code 79 = .ok (.iload 5, 2) := by decide +kernel
theorem d_jdk_48_method_14_code_81 : decode jdk_48_method_14_code 81 = .ok (.iadd, 1) := by decide +kernel
theorem d_jdk_48_method_14_code_82 : decode jdk_48_method_14_code 82 = .ok (.baload, 1) := by decide +kernel
theorem d_jdk_48_method_14_code_83 : decode jdk_48_method_14_code 83 = .ok (.aload_n 2, 1) := by decide +kernel
theorem d_jdk_48_method_14_code_84 : decode jdk_48_method_14_code 84 = .ok (.iload_n 3, 1) := by decide +kernel
theorem d_jdk_48_method_14_code_85 : decode jdk_48_method_14_code 85 = .ok (.iload 5, 2) := by decide +kernel
theorem d_jdk_48_method_14_code_87 : decode jdk_48_method_14_code 87 = .ok (.iadd, 1) := by decide +kernel
theorem d_jdk_48_method_14_code_88 : decode jdk_48_method_14_code 88 = .ok (.baload, 1) := by decide +kernel
theorem d_jdk_48_method_14_code_89 : decode jdk_48_method_14_code 89 = .ok (.if_icmp .eq 6, 3) := by decide +kernel
theorem d_jdk_48_method_14_code_95 : decode jdk_48_method_14_code 95 = .ok (.iinc 5 1, 3) := by decide +kernel
theorem d_jdk_48_method_14_code_98 : decode jdk_48_method_14_code 98 = .ok (.goto (-28), 3) := by decide +kernel
theorem d_jdk_48_method_14_code_101 : decode jdk_48_method_14_code 101 = .ok (.iconst (-1), 1) := by decide +kernel
theorem d_jdk_48_method_14_code_102 : decode jdk_48_method_14_code 102 = .ok (.ireturn, 1) := by decide +kernel
theorem d_jdk_48_method_14_code_92 : decode jdk_48_method_14_code 92 = .ok (.iload 5, 2) := by decide +kernel
theorem d_jdk_48_method_14_code_94 : decode jdk_48_method_14_code 94 = .ok (.ireturn, 1) := by decide +kernel
theorem pl_jdk_internal_util_ArraysSupport : plainName "jdk/internal/util/ArraysSupport" = true := by first | (simp [plainName, overriddenIn]; done) | decide +kernel
set_option maxRecDepth 65536 in
set_option maxHeartbeats 40000000 in
theorem c_mm (l : Launch) (Z : State) (a0 : Array Value) (hw : Tb a0 Z) (hEW : EW Z a0 EL0) (n0 : Nat) (u v : Addr) (ku kv : ClassId) (z x1 x2 : Int32) (us : List Value) (h0 : Heap) (O : Old Z n0 h0) (hz : (0 : Int32) < z) (V_u : Arv Z h0 u ku .byte z (.int x1 :: us) (.int 0)) (V_v : Arv Z h0 v kv .byte 1 [.int x2] (.int 0)) :
    Ct l Z EL0 n0 (⟨"jdk/internal/util/ArraysSupport", "mismatch", "([BI[BII)I"⟩ : MethodName) jdk_48_method_14_code 8 (some .int) ({ frames := 0, cells := 0, slots := 0, locals := 0 } : Room) #[(.ref u), (.int (0 : Int32)), (.ref v), (.int (0 : Int32)), (.int (1 : Int32))] h0 [] (Pu (some (.int (if x1 = x2 then -1 else 0))) h0) := by
  refine Ct.of (a0 := a0) #[.val (.ref u), .val (.int (0 : Int32)), .val (.ref v), .val (.int (0 : Int32)), .val (.int (1 : Int32)), .unset, .unset, .unset] hEW O (plainFor_of_name pl_jdk_internal_util_ArraysSupport) (fun m => by first | (simp [entryFrame, mkF, argsToLocals, Value.category]; done) | rfl) ?_
  intro p_ e_ s_ m_ below_ meth_ c_ b_ T_ K hSP
  refine k_iconst K (0 : Int32) d_jdk_48_method_14_code_0 (pc' := 1) rfl rfl ?_
  refine k_istore K d_jdk_48_method_14_code_1 (pc' := 3) (L' := #[.val (.ref u), .val (.int (0 : Int32)), .val (.ref v), .val (.int (0 : Int32)), .val (.int (1 : Int32)), .val (.int (0 : Int32)), .unset, .unset]) rfl rfl ?_
  refine k_iload K d_jdk_48_method_14_code_3 (pc' := 5) rfl rfl ?_
  refine k_bipush K (7 : Int32) d_jdk_48_method_14_code_5 (pc' := 7) rfl rfl ?_
  refine k_icmp_le K d_jdk_48_method_14_code_7 (by decide) (pc' := 70) (pc2 := 10) (by decide) rfl (fun hc7 => ?_) (fun q => absurd q (by decide))
  refine k_iload K d_jdk_48_method_14_code_70 (pc' := 72) rfl rfl ?_
  refine k_iload K d_jdk_48_method_14_code_72 (pc' := 74) rfl rfl ?_
  refine k_icmp_ge K d_jdk_48_method_14_code_74 (by decide) (pc' := 101) (pc2 := 77) (by decide) rfl (fun q => absurd (by decide) q) (fun hc74 => ?_)
  refine k_aloadN K d_jdk_48_method_14_code_77 (pc' := 78) rfl rfl rfl ?_
  refine k_iloadN K d_jdk_48_method_14_code_78 (pc' := 79) rfl rfl ?_
  refine k_iload K d_jdk_48_method_14_code_79 (pc' := 81) rfl rfl ?_
  refine k_iadd K d_jdk_48_method_14_code_81 (pc' := 82) rfl ?_
  rw [show (0 : Int32) + 0 = 0 by decide]
  refine k_baload K (j := (0 : Int32)) V_u ⟨by decide, hz⟩ rfl d_jdk_48_method_14_code_82 (pc' := 83) rfl ?_
  refine k_aloadN K d_jdk_48_method_14_code_83 (pc' := 84) rfl rfl rfl ?_
  refine k_iloadN K d_jdk_48_method_14_code_84 (pc' := 85) rfl rfl ?_
  refine k_iload K d_jdk_48_method_14_code_85 (pc' := 87) rfl rfl ?_
  refine k_iadd K d_jdk_48_method_14_code_87 (pc' := 88) rfl ?_
  rw [show (0 : Int32) + 0 = 0 by decide]
  refine k_baload K (j := (0 : Int32)) V_v ⟨by decide, by decide⟩ rfl d_jdk_48_method_14_code_88 (pc' := 89) rfl ?_
  refine k_icmp_eq K d_jdk_48_method_14_code_89 (by decide) (pc' := 95) (pc2 := 92) (by decide) rfl (fun hc89 => ?_) (fun hc89 => ?_)
  · refine k_iinc K (1 : Int32) d_jdk_48_method_14_code_95 (pc' := 98) (L' := #[.val (.ref u), .val (.int (0 : Int32)), .val (.ref v), .val (.int (0 : Int32)), .val (.int (1 : Int32)), .val (.int ((0 : Int32) + (1 : Int32))), .unset, .unset]) rfl rfl rfl rfl ?_
    refine k_goto K d_jdk_48_method_14_code_98 (by decide) (pc' := 70) (by decide) ?_
    refine k_iload K d_jdk_48_method_14_code_70 (pc' := 72) rfl rfl ?_
    refine k_iload K d_jdk_48_method_14_code_72 (pc' := 74) rfl rfl ?_
    refine k_icmp_ge K d_jdk_48_method_14_code_74 (by decide) (pc' := 101) (pc2 := 77) (by decide) rfl (fun hc74 => ?_) (fun q => absurd q (by decide))
    refine k_iconst K (-1 : Int32) d_jdk_48_method_14_code_101 (pc' := 102) rfl rfl ?_
    exact k_iret K d_jdk_48_method_14_code_102 rfl (fun sf ht => ⟨by rw [if_pos hc89], rfl⟩) (by decide) (by decide)
  · refine k_iload K d_jdk_48_method_14_code_92 (pc' := 94) rfl rfl ?_
    exact k_iret K d_jdk_48_method_14_code_94 rfl (fun sf ht => ⟨by rw [if_neg hc89], rfl⟩) (by decide) (by decide)
theorem d_jdk_42_method_75_code_0 : decode jdk_42_method_75_code 0 = .ok (.iload_n 2, 1) := by decide +kernel
theorem d_jdk_42_method_75_code_1 : decode jdk_42_method_75_code 1 = .ok (.ifCond .lt 16, 3) := by decide +kernel
theorem d_jdk_42_method_75_code_4 : decode jdk_42_method_75_code 4 = .ok (.iload_n 2, 1) := by decide +kernel
theorem d_jdk_42_method_75_code_5 : decode jdk_42_method_75_code 5 = .ok (.aload_n 0, 1) := by decide +kernel
theorem d_jdk_42_method_75_code_6 : decode jdk_42_method_75_code 6 = .ok (.invokevirtual 505, 3) := by decide +kernel
theorem w54 {Z : State} {a0 : Array Value} (hw : Tb a0 Z) : (Jvm.Cond.methodLink "java/lang/String" (505 : Nat) ({ cls := "java/lang/String", name := "length", desc := "()I" } : Jvm.MethodName)).before a0 Z = true := hw _ (List.mem_of_getElem? (i := 54) rfl)
theorem w58 {Z : State} {a0 : Array Value} (hw : Tb a0 Z) : (Jvm.Cond.code ({ cls := "java/lang/String", name := "length", desc := "()I" } : Jvm.MethodName) jdk_42_method_54_code (1 : Nat) (Option.some Jvm.ClassFile.FieldType.int)).before a0 Z = true := hw _ (List.mem_of_getElem? (i := 58) rfl)
theorem w57 {Z : State} {a0 : Array Value} (hw : Tb a0 Z) : (Jvm.Cond.selects "java/lang/String" ({ cls := "java/lang/String", name := "length", desc := "()I" } : Jvm.MethodName) ({ cls := "java/lang/String", name := "length", desc := "()I" } : Jvm.MethodName)).before a0 Z = true := hw _ (List.mem_of_getElem? (i := 57) rfl)
theorem w55 {Z : State} {a0 : Array Value} (hw : Tb a0 Z) : (Jvm.Cond.declares ({ cls := "java/lang/String", name := "length", desc := "()I" } : Jvm.MethodName)).before a0 Z = true := hw _ (List.mem_of_getElem? (i := 55) rfl)
theorem w56 {Z : State} {a0 : Array Value} (hw : Tb a0 Z) : (Jvm.Cond.instanceMethod ({ cls := "java/lang/String", name := "length", desc := "()I" } : Jvm.MethodName)).before a0 Z = true := hw _ (List.mem_of_getElem? (i := 56) rfl)
theorem pd___I_341 : parseMethodDescriptor "()I" = some ⟨[], some .int⟩ := by decide +kernel
theorem d_jdk_42_method_75_code_9 : decode jdk_42_method_75_code 9 = .ok (.aload_n 1, 1) := by decide +kernel
theorem d_jdk_42_method_75_code_10 : decode jdk_42_method_75_code 10 = .ok (.invokevirtual 505, 3) := by decide +kernel
theorem d_jdk_42_method_75_code_13 : decode jdk_42_method_75_code 13 = .ok (.isub, 1) := by decide +kernel
theorem d_jdk_42_method_75_code_14 : decode jdk_42_method_75_code 14 = .ok (.if_icmp .le 5, 3) := by decide +kernel
theorem d_jdk_42_method_75_code_17 : decode jdk_42_method_75_code 17 = .ok (.iconst 0, 1) := by decide +kernel
theorem d_jdk_42_method_75_code_18 : decode jdk_42_method_75_code 18 = .ok (.ireturn, 1) := by decide +kernel
theorem d_jdk_42_method_75_code_19 : decode jdk_42_method_75_code 19 = .ok (.aload_n 0, 1) := by decide +kernel
theorem d_jdk_42_method_75_code_20 : decode jdk_42_method_75_code 20 = .ok (.getfield 9, 3) := by decide +kernel
theorem d_jdk_42_method_75_code_23 : decode jdk_42_method_75_code 23 = .ok (.astore_n 3, 1) := by decide +kernel
theorem d_jdk_42_method_75_code_24 : decode jdk_42_method_75_code 24 = .ok (.aload_n 1, 1) := by decide +kernel
theorem d_jdk_42_method_75_code_25 : decode jdk_42_method_75_code 25 = .ok (.getfield 9, 3) := by decide +kernel
theorem d_jdk_42_method_75_code_28 : decode jdk_42_method_75_code 28 = .ok (.astore 4, 2) := by decide +kernel
theorem d_jdk_42_method_75_code_30 : decode jdk_42_method_75_code 30 = .ok (.iconst 0, 1) := by decide +kernel
theorem d_jdk_42_method_75_code_31 : decode jdk_42_method_75_code 31 = .ok (.istore 5, 2) := by decide +kernel
theorem d_jdk_42_method_75_code_33 : decode jdk_42_method_75_code 33 = .ok (.aload 4, 2) := by decide +kernel
theorem d_jdk_42_method_75_code_35 : decode jdk_42_method_75_code 35 = .ok (.arraylength, 1) := by decide +kernel
theorem d_jdk_42_method_75_code_36 : decode jdk_42_method_75_code 36 = .ok (.istore 6, 2) := by decide +kernel
theorem d_jdk_42_method_75_code_38 : decode jdk_42_method_75_code 38 = .ok (.aload_n 0, 1) := by decide +kernel
theorem d_jdk_42_method_75_code_39 : decode jdk_42_method_75_code 39 = .ok (.invokevirtual 335, 3) := by decide +kernel
theorem d_jdk_42_method_75_code_42 : decode jdk_42_method_75_code 42 = .ok (.istore 7, 2) := by decide +kernel
theorem d_jdk_42_method_75_code_44 : decode jdk_42_method_75_code 44 = .ok (.iload 7, 2) := by decide +kernel
theorem d_jdk_42_method_75_code_46 : decode jdk_42_method_75_code 46 = .ok (.aload_n 1, 1) := by decide +kernel
theorem d_jdk_42_method_75_code_47 : decode jdk_42_method_75_code 47 = .ok (.invokevirtual 335, 3) := by decide +kernel
theorem d_jdk_42_method_75_code_50 : decode jdk_42_method_75_code 50 = .ok (.if_icmp .ne 32, 3) := by decide +kernel
theorem d_jdk_42_method_75_code_53 : decode jdk_42_method_75_code 53 = .ok (.iload 7, 2) := by decide +kernel
theorem d_jdk_42_method_75_code_55 : decode jdk_42_method_75_code 55 = .ok (.iconst 1, 1) := by decide +kernel
theorem d_jdk_42_method_75_code_56 : decode jdk_42_method_75_code 56 = .ok (.if_icmp .ne 7, 3) := by decide +kernel
theorem d_jdk_42_method_75_code_63 : decode jdk_42_method_75_code 63 = .ok (.aload_n 3, 1) := by decide +kernel
theorem d_jdk_42_method_75_code_64 : decode jdk_42_method_75_code 64 = .ok (.iload_n 2, 1) := by decide +kernel
theorem d_jdk_42_method_75_code_65 : decode jdk_42_method_75_code 65 = .ok (.aload 4, 2) := by decide +kernel
theorem d_jdk_42_method_75_code_67 : decode jdk_42_method_75_code 67 = .ok (.iconst 0, 1) := by decide +kernel
theorem d_jdk_42_method_75_code_68 : decode jdk_42_method_75_code 68 = .ok (.iload 6, 2) := by decide +kernel
theorem d_jdk_42_method_75_code_70 : decode jdk_42_method_75_code 70 = .ok (.invokestatic 607, 3) := by decide +kernel
theorem w64 {Z : State} {a0 : Array Value} (hw : Tb a0 Z) : (Jvm.Cond.methodLink "java/lang/String" (607 : Nat) ({ cls := "jdk/internal/util/ArraysSupport", name := "mismatch", desc := "([BI[BII)I" } : Jvm.MethodName)).before a0 Z = true := hw _ (List.mem_of_getElem? (i := 64) rfl)
theorem w66 {Z : State} {a0 : Array Value} (hw : Tb a0 Z) : (Jvm.Cond.initialized "jdk/internal/util/ArraysSupport").before a0 Z = true := hw _ (List.mem_of_getElem? (i := 66) rfl)
theorem w67 {Z : State} {a0 : Array Value} (hw : Tb a0 Z) : (Jvm.Cond.code ({ cls := "jdk/internal/util/ArraysSupport", name := "mismatch", desc := "([BI[BII)I" } : Jvm.MethodName) jdk_48_method_14_code (8 : Nat) (Option.some Jvm.ClassFile.FieldType.int)).before a0 Z = true := hw _ (List.mem_of_getElem? (i := 67) rfl)
theorem w65 {Z : State} {a0 : Array Value} (hw : Tb a0 Z) : (Jvm.Cond.static ({ cls := "jdk/internal/util/ArraysSupport", name := "mismatch", desc := "([BI[BII)I" } : Jvm.MethodName)).before a0 Z = true := hw _ (List.mem_of_getElem? (i := 65) rfl)
theorem pd___BI_BII_I_3757 : parseMethodDescriptor "([BI[BII)I" = some ⟨[(.array .byte), .int, (.array .byte), .int, .int], some .int⟩ := by decide +kernel
theorem d_jdk_42_method_75_code_73 : decode jdk_42_method_75_code 73 = .ok (.ifCond .ge 7, 3) := by decide +kernel
theorem d_jdk_42_method_75_code_80 : decode jdk_42_method_75_code 80 = .ok (.iconst 0, 1) := by decide +kernel
theorem d_jdk_42_method_75_code_81 : decode jdk_42_method_75_code 81 = .ok (.ireturn, 1) := by decide +kernel
theorem d_jdk_42_method_75_code_76 : decode jdk_42_method_75_code 76 = .ok (.iconst 1, 1) := by decide +kernel
theorem d_jdk_42_method_75_code_77 : decode jdk_42_method_75_code 77 = .ok (.goto 4, 3) := by decide +kernel
set_option maxRecDepth 65536 in
set_option maxHeartbeats 40000000 in
theorem c_sw3 (l : Launch) (Z : State) (a0 : Array Value) (hw : Tb a0 Z) (hEW : EW Z a0 EL0) (n0 : Nat) (a e p pe : Addr) (k pk_ : ClassId) (z : Int32) (xs : List Int32) (cs0 : Int32) (h0 : Heap) (O : Old Z n0 h0) (S : Str Z h0 a e k 0 z (xs.map Value.int)) (hz : z.toInt = xs.length) (hb : xs.length ≤ 3) (P : Str Z h0 p pe pk_ 0 1 (([45] : List Int32).map Value.int)) (SC : Sta Z Z.heap "java/lang/String" "COMPACT_STRINGS" "Z" (.int cs0)) (hcs : ¬ cs0 = 0) :
    Ct l Z EL0 n0 (⟨"java/lang/String", "startsWith", "(Ljava/lang/String;I)Z"⟩ : MethodName) jdk_42_method_75_code 8 (some .boolean) ({ frames := 2, cells := 0, slots := 0, locals := 27 } : Room) #[(.ref a), (.ref p), (.int (0 : Int32))] h0 [] (Pu (some (.int (if xs.head? = some 45 then 1 else 0))) h0) := by
  refine Ct.of (a0 := a0) #[.val (.ref a), .val (.ref p), .val (.int (0 : Int32)), .unset, .unset, .unset, .unset, .unset] hEW O (plainFor_of_name pl_java_lang_String) (fun m => by first | (simp [entryFrame, mkF, argsToLocals, Value.category]; done) | rfl) ?_
  intro p_ e_ s_ m_ below_ meth_ c_ b_ T_ K hSP
  refine k_iloadN K d_jdk_42_method_75_code_0 (pc' := 1) rfl rfl ?_
  refine k_if_lt K d_jdk_42_method_75_code_1 (by decide) (pc' := 17) (pc2 := 4) (by decide) rfl (fun q => absurd q (by decide)) (fun hc1 => ?_)
  refine k_iloadN K d_jdk_42_method_75_code_4 (pc' := 5) rfl rfl ?_
  refine k_aloadN K d_jdk_42_method_75_code_5 (pc' := 6) rfl rfl rfl ?_
  refine k_virtualP K [] [(.int (0 : Int32))] 1 (w54 hw) (w55 hw) (w56 hw) (w57 hw) (w10 hw) (w58 hw) (notFace_of_selects (args := #[]) (mvT K.hZ (w57 hw))) rfl (by decide) S.1 (by decide) pd___I_341 (c_length l Z a0 hw hEW n0 a e k 0 z _ cs0 h0 K.old S (Or.inl rfl) SC hcs) d_jdk_42_method_75_code_6 nofun (pc' := 9) rfl rfl rfl rfl (Nat.le_of_eq rfl) (by decide) (by decide) (by decide) (by decide) ?_
  intro b42 T42 L42 K42 tr42
  show Goes p_.tables e_ below_ _ (T42.setTop (mkF m_ 9 #[.val (.ref a), .val (.ref p), .val (.int (0 : Int32)), .unset, .unset, .unset, .unset, .unset] [(.int (z >>> ((0 : Int32) &&& 31))), (.int (0 : Int32))]))
  rw [own_shr0]
  refine k_aloadN K42 d_jdk_42_method_75_code_9 (pc' := 10) rfl rfl rfl ?_
  refine k_virtualP K42 [] [(.int z), (.int (0 : Int32))] 2 (w54 hw) (w55 hw) (w56 hw) (w57 hw) (w10 hw) (w58 hw) (notFace_of_selects (args := #[]) (mvT K42.hZ (w57 hw))) rfl (by decide) P.1 (by decide) pd___I_341 (c_length l Z a0 hw hEW n0 p pe pk_ 0 1 _ cs0 h0 K42.old P (Or.inl rfl) SC hcs) d_jdk_42_method_75_code_10 nofun (pc' := 13) rfl rfl rfl rfl (Nat.le_of_eq rfl) (by decide) (by decide) (by decide) (by decide) ?_
  intro b43 T43 L43 K43 tr43
  show Goes p_.tables e_ below_ _ (T43.setTop (mkF m_ 13 #[.val (.ref a), .val (.ref p), .val (.int (0 : Int32)), .unset, .unset, .unset, .unset, .unset] [(.int ((1 : Int32) >>> ((0 : Int32) &&& 31))), (.int z), (.int (0 : Int32))]))
  rw [own_shr0]
  rcases xs with _ | ⟨x, t⟩
  · have ez : z = 0 := own_i32e (by rw [hz]; rfl)
    subst ez
    refine k_isub K43 d_jdk_42_method_75_code_13 (pc' := 14) rfl ?_
    refine k_icmp_le K43 d_jdk_42_method_75_code_14 (by decide) (pc' := 19) (pc2 := 17) (by decide) rfl (fun q => absurd (by decide) q) (fun hc14 => ?_)
    refine k_iconst K43 (0 : Int32) d_jdk_42_method_75_code_17 (pc' := 18) rfl rfl ?_
    exact k_nret K43 d_jdk_42_method_75_code_18 rfl (by simp) rfl (fun sf ht => ⟨by simp, rfl⟩) (by decide) (by decide)
  · have hz0 : (0 : Int32) < z := by rw [own_i32, hz, own_0, List.length_cons]; omega
    have hz1 : ¬ z - 1 < 0 := by
      rw [own_i32, XT.sub32 (by rw [hz, own_1]; simp only [List.length_cons] at hb ⊢; constructor <;> omega), hz, own_1, own_0, List.length_cons]; omega
    refine k_isub K43 d_jdk_42_method_75_code_13 (pc' := 14) rfl ?_
    refine k_icmp_le K43 d_jdk_42_method_75_code_14 (by decide) (pc' := 19) (pc2 := 17) (by decide) rfl (fun hc14 => ?_) (fun q => absurd q hz1)
    refine k_aloadN K43 d_jdk_42_method_75_code_19 (pc' := 20) rfl rfl rfl ?_
    refine k_getF K43 (w35 hw) Via.refl S.2.2.1 d_jdk_42_method_75_code_20 (pc' := 23) rfl ?_
    intro T44 K44
    refine k_astoreN K44 d_jdk_42_method_75_code_23 (pc' := 24) (L' := #[.val (.ref a), .val (.ref p), .val (.int (0 : Int32)), .val (.ref e), .unset, .unset, .unset, .unset]) rfl rfl rfl ?_
    refine k_aloadN K44 d_jdk_42_method_75_code_24 (pc' := 25) rfl rfl rfl ?_
    refine k_getF K44 (w35 hw) Via.refl P.2.2.1 d_jdk_42_method_75_code_25 (pc' := 28) rfl ?_
    intro T45 K45
    refine k_astore K45 d_jdk_42_method_75_code_28 (pc' := 30) (L' := #[.val (.ref a), .val (.ref p), .val (.int (0 : Int32)), .val (.ref e), .val (.ref pe), .unset, .unset, .unset]) rfl rfl rfl ?_
    refine k_iconst K45 (0 : Int32) d_jdk_42_method_75_code_30 (pc' := 31) rfl rfl ?_
    refine k_istore K45 d_jdk_42_method_75_code_31 (pc' := 33) (L' := #[.val (.ref a), .val (.ref p), .val (.int (0 : Int32)), .val (.ref e), .val (.ref pe), .val (.int (0 : Int32)), .unset, .unset]) rfl rfl ?_
    refine k_aload K45 d_jdk_42_method_75_code_33 (pc' := 35) rfl rfl rfl ?_
    refine k_len K45 P.2.2.2 d_jdk_42_method_75_code_35 (pc' := 36) rfl ?_
    refine k_istore K45 d_jdk_42_method_75_code_36 (pc' := 38) (L' := #[.val (.ref a), .val (.ref p), .val (.int (0 : Int32)), .val (.ref e), .val (.ref pe), .val (.int (0 : Int32)), .val (.int (1 : Int32)), .unset]) rfl rfl ?_
    refine k_aloadN K45 d_jdk_42_method_75_code_38 (pc' := 39) rfl rfl rfl ?_
    refine k_virtualP K45 [] [] 0 (w59 hw) (w60 hw) (w61 hw) (w62 hw) (w10 hw) (w63 hw) (notFace_of_selects (args := #[]) (mvT K45.hZ (w62 hw))) rfl (by decide) S.1 (by decide) pd___B_320 (c_coder l Z a0 hw hEW n0 a e k 0 z _ cs0 h0 K45.old S (Or.inl rfl) SC hcs) d_jdk_42_method_75_code_39 nofun (pc' := 42) rfl rfl rfl rfl (Nat.le_of_eq rfl) (by decide) (by decide) (by decide) (by decide) ?_
    intro b46 T46 L46 K46 tr46
    show Goes p_.tables e_ below_ _ (T46.setTop (mkF m_ 42 #[.val (.ref a), .val (.ref p), .val (.int (0 : Int32)), .val (.ref e), .val (.ref pe), .val (.int (0 : Int32)), .val (.int (1 : Int32)), .unset] [(.int (0 : Int32))]))
    refine k_istore K46 d_jdk_42_method_75_code_42 (pc' := 44) (L' := #[.val (.ref a), .val (.ref p), .val (.int (0 : Int32)), .val (.ref e), .val (.ref pe), .val (.int (0 : Int32)), .val (.int (1 : Int32)), .val (.int (0 : Int32))]) rfl rfl ?_
    refine k_iload K46 d_jdk_42_method_75_code_44 (pc' := 46) rfl rfl ?_
    refine k_aloadN K46 d_jdk_42_method_75_code_46 (pc' := 47) rfl rfl rfl ?_
    refine k_virtualP K46 [] [(.int (0 : Int32))] 1 (w59 hw) (w60 hw) (w61 hw) (w62 hw) (w10 hw) (w63 hw) (notFace_of_selects (args := #[]) (mvT K46.hZ (w62 hw))) rfl (by decide) P.1 (by decide) pd___B_320 (c_coder l Z a0 hw hEW n0 p pe pk_ 0 1 _ cs0 h0 K46.old P (Or.inl rfl) SC hcs) d_jdk_42_method_75_code_47 nofun (pc' := 50) rfl rfl rfl rfl (Nat.le_of_eq rfl) (by decide) (by decide) (by decide) (by decide) ?_
    intro b47 T47 L47 K47 tr47
    show Goes p_.tables e_ below_ _ (T47.setTop (mkF m_ 50 #[.val (.ref a), .val (.ref p), .val (.int (0 : Int32)), .val (.ref e), .val (.ref pe), .val (.int (0 : Int32)), .val (.int (1 : Int32)), .val (.int (0 : Int32))] [(.int (0 : Int32)), (.int (0 : Int32))]))
    refine k_icmp_ne K47 d_jdk_42_method_75_code_50 (by decide) (pc' := 82) (pc2 := 53) (by decide) rfl (fun q => absurd (by decide) q) (fun hc50 => ?_)
    refine k_iload K47 d_jdk_42_method_75_code_53 (pc' := 55) rfl rfl ?_
    refine k_iconst K47 (1 : Int32) d_jdk_42_method_75_code_55 (pc' := 56) rfl rfl ?_
    refine k_icmp_ne K47 d_jdk_42_method_75_code_56 (by decide) (pc' := 63) (pc2 := 59) (by decide) rfl (fun hc56 => ?_) (fun q => absurd q (by decide))
    refine k_aloadN K47 d_jdk_42_method_75_code_63 (pc' := 64) rfl rfl rfl ?_
    refine k_iloadN K47 d_jdk_42_method_75_code_64 (pc' := 65) rfl rfl ?_
    refine k_aload K47 d_jdk_42_method_75_code_65 (pc' := 67) rfl rfl rfl ?_
    refine k_iconst K47 (0 : Int32) d_jdk_42_method_75_code_67 (pc' := 68) rfl rfl ?_
    refine k_iload K47 d_jdk_42_method_75_code_68 (pc' := 70) rfl rfl ?_
    refine k_staticP K47 [(.ref e), (.int (0 : Int32)), (.ref pe), (.int (0 : Int32)), (.int (1 : Int32))] [] 0 (w64 hw) (w65 hw) (w66 hw) (w67 hw) (by decide) pd___BI_BII_I_3757 (c_mm l Z a0 hw hEW n0 e pe k pk_ z x 45 _ h0 K47.old hz0 S.2.2.2 P.2.2.2) d_jdk_42_method_75_code_70 nofun (pc' := 73) rfl rfl rfl rfl (Nat.le_of_eq rfl) (by decide) (by decide) (by decide) (by decide) ?_
    intro b48 T48 L48 K48 tr48
    show Goes p_.tables e_ below_ _ (T48.setTop (mkF m_ 73 #[.val (.ref a), .val (.ref p), .val (.int (0 : Int32)), .val (.ref e), .val (.ref pe), .val (.int (0 : Int32)), .val (.int (1 : Int32)), .val (.int (0 : Int32))] [(.int (if x = 45 then -1 else 0))]))
    refine k_if_ge K48 d_jdk_42_method_75_code_73 (by decide) (pc' := 80) (pc2 := 76) (by decide) rfl (fun hc73 => ?_) (fun hc73 => ?_)
    · refine k_iconst K48 (0 : Int32) d_jdk_42_method_75_code_80 (pc' := 81) rfl rfl ?_
      have q : ¬ x = 45 := fun q => by rw [if_pos q] at hc73; exact absurd hc73 (by decide)
      exact k_nret K48 d_jdk_42_method_75_code_81 rfl (by simp) rfl (fun sf ht => ⟨by rw [if_neg (by simpa using q)], rfl⟩) (by decide) (by decide)
    · refine k_iconst K48 (1 : Int32) d_jdk_42_method_75_code_76 (pc' := 77) rfl rfl ?_
      refine k_goto K48 d_jdk_42_method_75_code_77 (by decide) (pc' := 81) (by decide) ?_
      have q : x = 45 := Classical.byContradiction fun q => by rw [if_neg q] at hc73; exact absurd hc73 (by decide)
      exact k_nret K48 d_jdk_42_method_75_code_81 rfl (by simp) rfl (fun sf ht => ⟨by rw [if_pos (by simp [q])], rfl⟩) (by decide) (by decide)
theorem d_jdk_42_method_76_code_0 : decode jdk_42_method_76_code 0 = .ok (.aload_n 0, 1) := by decide +kernel
theorem d_jdk_42_method_76_code_1 : decode jdk_42_method_76_code 1 = .ok (.aload_n 1, 1) := by decide +kernel
theorem d_jdk_42_method_76_code_2 : decode jdk_42_method_76_code 2 = .ok (.iconst 0, 1) := by decide +kernel
theorem d_jdk_42_method_76_code_3 : decode jdk_42_method_76_code 3 = .ok (.invokevirtual 624, 3) := by decide +kernel
theorem w49 {Z : State} {a0 : Array Value} (hw : Tb a0 Z) : (Jvm.Cond.methodLink "java/lang/String" (624 : Nat) ({ cls := "java/lang/String", name := "startsWith", desc := "(Ljava/lang/String;I)Z" } : Jvm.MethodName)).before a0 Z = true := hw _ (List.mem_of_getElem? (i := 49) rfl)
theorem w53 {Z : State} {a0 : Array Value} (hw : Tb a0 Z) : (Jvm.Cond.code ({ cls := "java/lang/String", name := "startsWith", desc := "(Ljava/lang/String;I)Z" } : Jvm.MethodName) jdk_42_method_75_code (8 : Nat) (Option.some Jvm.ClassFile.FieldType.boolean)).before a0 Z = true := hw _ (List.mem_of_getElem? (i := 53) rfl)
theorem w52 {Z : State} {a0 : Array Value} (hw : Tb a0 Z) : (Jvm.Cond.selects "java/lang/String" ({ cls := "java/lang/String", name := "startsWith", desc := "(Ljava/lang/String;I)Z" } : Jvm.MethodName) ({ cls := "java/lang/String", name := "startsWith", desc := "(Ljava/lang/String;I)Z" } : Jvm.MethodName)).before a0 Z = true := hw _ (List.mem_of_getElem? (i := 52) rfl)
theorem w50 {Z : State} {a0 : Array Value} (hw : Tb a0 Z) : (Jvm.Cond.declares ({ cls := "java/lang/String", name := "startsWith", desc := "(Ljava/lang/String;I)Z" } : Jvm.MethodName)).before a0 Z = true := hw _ (List.mem_of_getElem? (i := 50) rfl)
theorem w51 {Z : State} {a0 : Array Value} (hw : Tb a0 Z) : (Jvm.Cond.instanceMethod ({ cls := "java/lang/String", name := "startsWith", desc := "(Ljava/lang/String;I)Z" } : Jvm.MethodName)).before a0 Z = true := hw _ (List.mem_of_getElem? (i := 51) rfl)
theorem pd__Ljava_lang_String_I_Z_2226 : parseMethodDescriptor "(Ljava/lang/String;I)Z" = some ⟨[(.object "java/lang/String"), .int], some .boolean⟩ := by decide +kernel
theorem d_jdk_42_method_76_code_6 : decode jdk_42_method_76_code 6 = .ok (.ireturn, 1) := by decide +kernel
set_option maxRecDepth 65536 in
set_option maxHeartbeats 40000000 in
theorem c_sw2 (l : Launch) (Z : State) (a0 : Array Value) (hw : Tb a0 Z) (hEW : EW Z a0 EL0) (n0 : Nat) (a e p pe : Addr) (k pk_ : ClassId) (z : Int32) (xs : List Int32) (cs0 : Int32) (h0 : Heap) (O : Old Z n0 h0) (S : Str Z h0 a e k 0 z (xs.map Value.int)) (hz : z.toInt = xs.length) (hb : xs.length ≤ 3) (P : Str Z h0 p pe pk_ 0 1 (([45] : List Int32).map Value.int)) (SC : Sta Z Z.heap "java/lang/String" "COMPACT_STRINGS" "Z" (.int cs0)) (hcs : ¬ cs0 = 0) :
    Ct l Z EL0 n0 (⟨"java/lang/String", "startsWith", "(Ljava/lang/String;)Z"⟩ : MethodName) jdk_42_method_76_code 2 (some .boolean) ({ frames := 3, cells := 0, slots := 0, locals := 46 } : Room) #[(.ref a), (.ref p)] h0 [] (Pu (some (.int (if xs.head? = some 45 then 1 else 0))) h0) := by
  refine Ct.of (a0 := a0) #[.val (.ref a), .val (.ref p)] hEW O (plainFor_of_name pl_java_lang_String) (fun m => by first | (simp [entryFrame, mkF, argsToLocals, Value.category]; done) | rfl) ?_
  intro p_ e_ s_ m_ below_ meth_ c_ b_ T_ K hSP
  refine k_aloadN K d_jdk_42_method_76_code_0 (pc' := 1) rfl rfl rfl ?_
  refine k_aloadN K d_jdk_42_method_76_code_1 (pc' := 2) rfl rfl rfl ?_
  refine k_iconst K (0 : Int32) d_jdk_42_method_76_code_2 (pc' := 3) rfl rfl ?_
  refine k_virtualP K [(.ref p), (.int (0 : Int32))] [] 0 (w49 hw) (w50 hw) (w51 hw) (w52 hw) (w10 hw) (w53 hw) (notFace_of_selects (args := #[]) (mvT K.hZ (w52 hw))) rfl (by decide) S.1 (by decide) pd__Ljava_lang_String_I_Z_2226 (c_sw3 l Z a0 hw hEW n0 a e p pe k pk_ z xs cs0 h0 K.old S hz hb P SC hcs) d_jdk_42_method_76_code_3 nofun (pc' := 6) rfl rfl rfl rfl (Nat.le_of_eq rfl) (by decide) (by decide) (by decide) (by decide) ?_
  intro b49 T49 L49 K49 tr49
  show Goes p_.tables e_ below_ _ (T49.setTop (mkF m_ 6 #[.val (.ref a), .val (.ref p)] [(.int (if xs.head? = some 45 then 1 else 0))]))
  exact k_nret K49 d_jdk_42_method_76_code_6 rfl (by simp) (by split <;> rfl) (fun sf ht => ⟨rfl, rfl⟩) (by decide) (by decide)
theorem d_jdk_68_method_2_code_0 : decode jdk_68_method_2_code 0 = .ok (.aload_n 0, 1) := by decide +kernel
theorem d_jdk_68_method_2_code_1 : decode jdk_68_method_2_code 1 = .ok (.invokespecial 3, 3) := by decide +kernel
theorem w80 {Z : State} {a0 : Array Value} (hw : Tb a0 Z) : (Jvm.Cond.methodLink "java/lang/AbstractStringBuilder" (3 : Nat) ({ cls := "java/lang/Object", name := "<init>", desc := "()V" } : Jvm.MethodName)).before a0 Z = true := hw _ (List.mem_of_getElem? (i := 80) rfl)
theorem d_jdk_68_method_2_code_4 : decode jdk_68_method_2_code 4 = .ok (.getstatic 18, 3) := by decide +kernel
theorem w81 {Z : State} {a0 : Array Value} (hw : Tb a0 Z) : (Jvm.Cond.fieldLink "java/lang/AbstractStringBuilder" (18 : Nat) "java/lang/String" "COMPACT_STRINGS" "Z").before a0 Z = true := hw _ (List.mem_of_getElem? (i := 81) rfl)
theorem d_jdk_68_method_2_code_7 : decode jdk_68_method_2_code 7 = .ok (.ifCond .eq 18, 3) := by decide +kernel
theorem d_jdk_68_method_2_code_10 : decode jdk_68_method_2_code 10 = .ok (.aload_n 0, 1) := by decide +kernel
theorem d_jdk_68_method_2_code_11 : decode jdk_68_method_2_code 11 = .ok (.iload_n 1, 1) := by decide +kernel
theorem d_jdk_68_method_2_code_12 : decode jdk_68_method_2_code 12 = .ok (.newarray .byte, 2) := by decide +kernel
theorem d_jdk_68_method_2_code_14 : decode jdk_68_method_2_code 14 = .ok (.putfield 15, 3) := by decide +kernel
theorem w82 {Z : State} {a0 : Array Value} (hw : Tb a0 Z) : (Jvm.Cond.fieldLink "java/lang/AbstractStringBuilder" (15 : Nat) "java/lang/AbstractStringBuilder" "value" "[B").before a0 Z = true := hw _ (List.mem_of_getElem? (i := 82) rfl)
theorem w83 {Z : State} {a0 : Array Value} (hw : Tb a0 Z) : (Jvm.Cond.lays "java/lang/StringBuilder" "java/lang/AbstractStringBuilder" "value" "[B").before a0 Z = true := hw _ (List.mem_of_getElem? (i := 83) rfl)
theorem w69 {Z : State} {a0 : Array Value} (hw : Tb a0 Z) : (Jvm.Cond.instantiable "java/lang/StringBuilder" (4 : Nat)).before a0 Z = true := hw _ (List.mem_of_getElem? (i := 69) rfl)
theorem w85 {Z : State} {a0 : Array Value} (hw : Tb a0 Z) : (Jvm.Cond.lays "java/lang/StringBuilder" "java/lang/AbstractStringBuilder" "coder" "B").before a0 Z = true := hw _ (List.mem_of_getElem? (i := 85) rfl)
theorem w99 {Z : State} {a0 : Array Value} (hw : Tb a0 Z) : (Jvm.Cond.lays "java/lang/StringBuilder" "java/lang/AbstractStringBuilder" "count" "I").before a0 Z = true := hw _ (List.mem_of_getElem? (i := 99) rfl)
theorem d_jdk_68_method_2_code_17 : decode jdk_68_method_2_code 17 = .ok (.aload_n 0, 1) := by decide +kernel
theorem d_jdk_68_method_2_code_18 : decode jdk_68_method_2_code 18 = .ok (.iconst 0, 1) := by decide +kernel
theorem d_jdk_68_method_2_code_19 : decode jdk_68_method_2_code 19 = .ok (.putfield 22, 3) := by decide +kernel
theorem w84 {Z : State} {a0 : Array Value} (hw : Tb a0 Z) : (Jvm.Cond.fieldLink "java/lang/AbstractStringBuilder" (22 : Nat) "java/lang/AbstractStringBuilder" "coder" "B").before a0 Z = true := hw _ (List.mem_of_getElem? (i := 84) rfl)
theorem d_jdk_68_method_2_code_22 : decode jdk_68_method_2_code 22 = .ok (.goto 16, 3) := by decide +kernel
theorem d_jdk_68_method_2_code_38 : decode jdk_68_method_2_code 38 = .ok (.return_, 1) := by decide +kernel
theorem pl_java_lang_AbstractStringBuilder : plainName "java/lang/AbstractStringBuilder" = true := by first | (simp [plainName, overriddenIn]; done) | decide +kernel
set_option maxRecDepth 65536 in
set_option maxHeartbeats 40000000 in
theorem c_asbinit (l : Launch) (Z : State) (a0 : Array Value) (hw : Tb a0 Z) (hEW : EW Z a0 EL0) (n0 : Nat) (sb : Addr) (u1 : Value) (cs0 : Int32) (h0 : Heap) (O : Old Z n0 h0) (X_sb : Exa Z h0 sb "java/lang/StringBuilder") (F_sb_value : Fld Z h0 sb "java/lang/AbstractStringBuilder" "value" "[B" u1) (F_sb_coder : Fld Z h0 sb "java/lang/AbstractStringBuilder" "coder" "B" (.int 0)) (F_sb_count : Fld Z h0 sb "java/lang/AbstractStringBuilder" "count" "I" (.int 0)) (ga_sb : n0 ≤ sb) (SC : Sta Z Z.heap "java/lang/String" "COMPACT_STRINGS" "Z" (.int cs0)) (hcs : ¬ cs0 = 0) :
    Ct l Z EL0 n0 (⟨"java/lang/AbstractStringBuilder", "<init>", "(I)V"⟩ : MethodName) jdk_68_method_2_code 2 none ({ frames := 1, cells := 1, slots := 16, locals := 12 } : Room) #[(.ref sb), (.int (16 : Int32))] h0 [sb] (fun v h sf => ∃ d kd, v = none ∧ h0.size ≤ d ∧ Keep h0 h [sb] ∧ (Exa Z h sb "java/lang/StringBuilder" ∧ Fld Z h sb "java/lang/AbstractStringBuilder" "value" "[B" (.ref d) ∧ Fld Z h sb "java/lang/AbstractStringBuilder" "coder" "B" (.int 0) ∧ Fld Z h sb "java/lang/AbstractStringBuilder" "count" "I" (.int 0)) ∧ Arv Z h d kd .byte 16 (List.replicate 16 (.int 0)) (.int 0) ∧ sf d) := by
  refine Ct.of (a0 := a0) #[.val (.ref sb), .val (.int (16 : Int32))] hEW O (plainFor_of_name pl_java_lang_AbstractStringBuilder) (fun m => by first | (simp [entryFrame, mkF, argsToLocals, Value.category]; done) | rfl) ?_
  intro p_ e_ s_ m_ below_ meth_ c_ b_ T_ K hSP
  have KP := Keep.refl h0 [sb]
  have sf_sb := hSP sb (by simp)
  refine k_aloadN K d_jdk_68_method_2_code_0 (pc' := 1) rfl rfl rfl ?_
  refine k_initO K (w80 hw) (w19 hw) (w20 hw) d_jdk_68_method_2_code_1 (pc' := 4) rfl rfl (by decide) 0 (Nat.le_of_eq rfl) (by decide) ?_
  intro T50 K50
  refine k_getS K50 (w81 hw) Via.refl SC d_jdk_68_method_2_code_4 (pc' := 7) rfl ?_
  intro T51 K51
  refine k_if_eq K51 d_jdk_68_method_2_code_7 (by decide) (pc' := 25) (pc2 := 10) (by decide) rfl (fun q => absurd q hcs) (fun hc7 => ?_)
  refine k_aloadN K51 d_jdk_68_method_2_code_10 (pc' := 11) rfl rfl rfl ?_
  refine k_iloadN K51 d_jdk_68_method_2_code_11 (pc' := 12) rfl rfl ?_
  refine k_newarray K51 (aty := .byte) (z := (16 : Int32)) (w26 hw) (by decide) (cap := 16) (by decide) (by decide) d_jdk_68_method_2_code_12 (pc' := 14) rfl (by decide) (by decide) ?_
  intro T52 h52 a52 ka52 g52 K52 E52 tr52 sf_a52 V_a52
  have ga_a52 : n0 ≤ a52 := own_old K51.old g52
  have sz_a52 : h0.size ≤ a52 := g52 ▸ KP.1
  have ne_sb_a52 : sb ≠ a52 := own_ne X_sb.lt g52
  replace sf_sb := tr52 sb X_sb.lt sf_sb
  replace X_sb := X_sb.ext E52
  replace F_sb_value := F_sb_value.ext E52
  replace F_sb_coder := F_sb_coder.ext E52
  replace F_sb_count := F_sb_count.ext E52
  replace KP := KP.ext E52
  replace V_a52 : Arv Z h52 a52 ka52 .byte (16 : Int32) (List.replicate 16 (.int (0 : Int32))) (.int (0 : Int32)) := V_a52.pad (pad_rep [] (.int (0 : Int32)) 16)
  refine k_putF K52 (w82 hw) Via.refl F_sb_value X_sb (Or.inl (w83 hw)) (w69 hw) (ty := (.array .byte)) (by decide) rfl rfl ga_sb sf_sb d_jdk_68_method_2_code_14 (pc' := 17) rfl ?_
  intro T53 h53 K53 W53 tr53
  have F53 := F_sb_value.same W53
  replace sf_sb := tr53 sb X_sb.lt sf_sb
  replace sf_a52 := tr53 a52 V_a52.lt sf_a52
  replace X_sb := X_sb.wr W53
  replace F_sb_coder := F_sb_coder.other W53 (Or.inr (slot_ne (Or.inl (w85 hw)) (Or.inl (w83 hw)) (by decide) (t := .byte) (t' := (.array .byte)) (by decide) (by decide)))
  replace F_sb_count := F_sb_count.other W53 (Or.inr (slot_ne (Or.inl (w99 hw)) (Or.inl (w83 hw)) (by decide) (t := .int) (t' := (.array .byte)) (by decide) (by decide)))
  replace V_a52 := V_a52.other W53 (Ne.symm ne_sb_a52)
  replace KP := KP.wr W53 (Or.inl (by simp))
  replace F_sb_value := F53
  refine k_aloadN K53 d_jdk_68_method_2_code_17 (pc' := 18) rfl rfl rfl ?_
  refine k_iconst K53 (0 : Int32) d_jdk_68_method_2_code_18 (pc' := 19) rfl rfl ?_
  refine k_putF K53 (w84 hw) Via.refl F_sb_coder X_sb (Or.inl (w85 hw)) (w69 hw) (ty := .byte) (by decide) rfl rfl ga_sb sf_sb d_jdk_68_method_2_code_19 (pc' := 22) rfl ?_
  intro T54 h54 K54 W54 tr54
  have F54 := F_sb_coder.same W54
  replace sf_sb := tr54 sb X_sb.lt sf_sb
  replace sf_a52 := tr54 a52 V_a52.lt sf_a52
  replace X_sb := X_sb.wr W54
  replace F_sb_value := F_sb_value.other W54 (Or.inr (slot_ne (Or.inl (w83 hw)) (Or.inl (w85 hw)) (by decide) (t := (.array .byte)) (t' := .byte) (by decide) (by decide)))
  replace F_sb_count := F_sb_count.other W54 (Or.inr (slot_ne (Or.inl (w99 hw)) (Or.inl (w85 hw)) (by decide) (t := .int) (t' := .byte) (by decide) (by decide)))
  replace V_a52 := V_a52.other W54 (Ne.symm ne_sb_a52)
  replace KP := KP.wr W54 (Or.inl (by simp))
  replace F_sb_coder := F54
  refine k_goto K54 d_jdk_68_method_2_code_22 (by decide) (pc' := 38) (by decide) ?_
  exact k_return K54 d_jdk_68_method_2_code_38 rfl (fun sf ht => ⟨a52, ka52, rfl, sz_a52, KP, ⟨X_sb, F_sb_value, F_sb_coder, F_sb_count⟩, V_a52, ht _ V_a52.lt sf_a52⟩) (by decide) (by decide)
theorem d_jdk_67_method_1_code_0 : decode jdk_67_method_1_code 0 = .ok (.aload_n 0, 1) := by decide +kernel
theorem d_jdk_67_method_1_code_1 : decode jdk_67_method_1_code 1 = .ok (.bipush 16, 2) := by decide +kernel
theorem d_jdk_67_method_1_code_3 : decode jdk_67_method_1_code 3 = .ok (.invokespecial 1, 3) := by decide +kernel
theorem w74 {Z : State} {a0 : Array Value} (hw : Tb a0 Z) : (Jvm.Cond.methodLink "java/lang/StringBuilder" (1 : Nat) ({ cls := "java/lang/AbstractStringBuilder", name := "<init>", desc := "(I)V" } : Jvm.MethodName)).before a0 Z = true := hw _ (List.mem_of_getElem? (i := 74) rfl)
theorem w78 {Z : State} {a0 : Array Value} (hw : Tb a0 Z) : (Jvm.Cond.initialized "java/lang/AbstractStringBuilder").before a0 Z = true := hw _ (List.mem_of_getElem? (i := 78) rfl)
theorem w79 {Z : State} {a0 : Array Value} (hw : Tb a0 Z) : (Jvm.Cond.code ({ cls := "java/lang/AbstractStringBuilder", name := "<init>", desc := "(I)V" } : Jvm.MethodName) jdk_68_method_2_code (2 : Nat) (Option.none : Option Jvm.ClassFile.FieldType)).before a0 Z = true := hw _ (List.mem_of_getElem? (i := 79) rfl)
theorem w75 {Z : State} {a0 : Array Value} (hw : Tb a0 Z) : (Jvm.Cond.instanceMethod ({ cls := "java/lang/AbstractStringBuilder", name := "<init>", desc := "(I)V" } : Jvm.MethodName)).before a0 Z = true := hw _ (List.mem_of_getElem? (i := 75) rfl)
theorem pd__I_V_653 : parseMethodDescriptor "(I)V" = some ⟨[.int], none⟩ := by decide +kernel
theorem d_jdk_67_method_1_code_6 : decode jdk_67_method_1_code 6 = .ok (.return_, 1) := by decide +kernel
theorem pl_java_lang_StringBuilder : plainName "java/lang/StringBuilder" = true := by first | (simp [plainName, overriddenIn]; done) | decide +kernel
set_option maxRecDepth 65536 in
set_option maxHeartbeats 40000000 in
theorem c_sbinit (l : Launch) (Z : State) (a0 : Array Value) (hw : Tb a0 Z) (hEW : EW Z a0 EL0) (n0 : Nat) (sb : Addr) (u1 : Value) (cs0 : Int32) (h0 : Heap) (O : Old Z n0 h0) (X_sb : Exa Z h0 sb "java/lang/StringBuilder") (F_sb_value : Fld Z h0 sb "java/lang/AbstractStringBuilder" "value" "[B" u1) (F_sb_coder : Fld Z h0 sb "java/lang/AbstractStringBuilder" "coder" "B" (.int 0)) (F_sb_count : Fld Z h0 sb "java/lang/AbstractStringBuilder" "count" "I" (.int 0)) (ga_sb : n0 ≤ sb) (SC : Sta Z Z.heap "java/lang/String" "COMPACT_STRINGS" "Z" (.int cs0)) (hcs : ¬ cs0 = 0) :
    Ct l Z EL0 n0 (⟨"java/lang/StringBuilder", "<init>", "()V"⟩ : MethodName) jdk_67_method_1_code 1 none ({ frames := 2, cells := 1, slots := 16, locals := 25 } : Room) #[(.ref sb)] h0 [sb] (fun v h sf => ∃ d kd, v = none ∧ h0.size ≤ d ∧ Keep h0 h [sb] ∧ (Exa Z h sb "java/lang/StringBuilder" ∧ Fld Z h sb "java/lang/AbstractStringBuilder" "value" "[B" (.ref d) ∧ Fld Z h sb "java/lang/AbstractStringBuilder" "coder" "B" (.int 0) ∧ Fld Z h sb "java/lang/AbstractStringBuilder" "count" "I" (.int 0)) ∧ Arv Z h d kd .byte 16 (List.replicate 16 (.int 0)) (.int 0) ∧ sf d) := by
  refine Ct.of (a0 := a0) #[.val (.ref sb)] hEW O (plainFor_of_name pl_java_lang_StringBuilder) (fun m => by first | (simp [entryFrame, mkF, argsToLocals, Value.category]; done) | rfl) ?_
  intro p_ e_ s_ m_ below_ meth_ c_ b_ T_ K hSP
  refine k_aloadN K d_jdk_67_method_1_code_0 (pc' := 1) rfl rfl rfl ?_
  refine k_bipush K (16 : Int32) d_jdk_67_method_1_code_1 (pc' := 3) rfl rfl ?_
  refine k_special K [(.int (16 : Int32))] [] 0 (w74 hw) (w75 hw) (w78 hw) (w79 hw) rfl rfl (by decide) pd__I_V_653 (c_asbinit l Z a0 hw hEW n0 sb u1 cs0 h0 K.old X_sb F_sb_value F_sb_coder F_sb_count ga_sb SC hcs) d_jdk_67_method_1_code_3 (fun x hx => by cases List.mem_singleton.mp hx; exact ⟨X_sb.lt, hSP sb (by simp)⟩) (pc' := 6) rfl rfl rfl rfl (Nat.le_of_eq rfl) (by decide) (by decide) (by decide) (by decide) ?_
  intro b55 T55 h55 L55 v55 K55 tr55 q55
  obtain ⟨d, kd, rfl, hd, KQ, hs4, V_d, sf_d⟩ := q55
  show Goes p_.tables e_ below_ _ (T55.setTop (mkF m_ 6 #[.val (.ref sb)] []))
  exact k_return K55 d_jdk_67_method_1_code_6 rfl (fun sf ht => ⟨d, kd, rfl, hd, KQ, hs4, V_d, ht _ V_d.lt sf_d⟩) (by decide) (by decide)
theorem d_jdk_42_method_147_code_0 : decode jdk_42_method_147_code 0 = .ok (.aload_n 0, 1) := by decide +kernel
theorem d_jdk_42_method_147_code_1 : decode jdk_42_method_147_code 1 = .ok (.invokevirtual 335, 3) := by decide +kernel
theorem d_jdk_42_method_147_code_4 : decode jdk_42_method_147_code 4 = .ok (.iload_n 3, 1) := by decide +kernel
theorem d_jdk_42_method_147_code_5 : decode jdk_42_method_147_code 5 = .ok (.if_icmp .ne 23, 3) := by decide +kernel
theorem d_jdk_42_method_147_code_8 : decode jdk_42_method_147_code 8 = .ok (.aload_n 0, 1) := by decide +kernel
theorem d_jdk_42_method_147_code_9 : decode jdk_42_method_147_code 9 = .ok (.getfield 9, 3) := by decide +kernel
theorem d_jdk_42_method_147_code_12 : decode jdk_42_method_147_code 12 = .ok (.iconst 0, 1) := by decide +kernel
theorem d_jdk_42_method_147_code_13 : decode jdk_42_method_147_code 13 = .ok (.aload_n 1, 1) := by decide +kernel
theorem d_jdk_42_method_147_code_14 : decode jdk_42_method_147_code 14 = .ok (.iload_n 2, 1) := by decide +kernel
theorem d_jdk_42_method_147_code_15 : decode jdk_42_method_147_code 15 = .ok (.iload_n 3, 1) := by decide +kernel
theorem d_jdk_42_method_147_code_16 : decode jdk_42_method_147_code 16 = .ok (.ishl, 1) := by decide +kernel
theorem d_jdk_42_method_147_code_17 : decode jdk_42_method_147_code 17 = .ok (.aload_n 0, 1) := by decide +kernel
theorem d_jdk_42_method_147_code_18 : decode jdk_42_method_147_code 18 = .ok (.getfield 9, 3) := by decide +kernel
theorem d_jdk_42_method_147_code_21 : decode jdk_42_method_147_code 21 = .ok (.arraylength, 1) := by decide +kernel
theorem d_jdk_42_method_147_code_22 : decode jdk_42_method_147_code 22 = .ok (.invokestatic 212, 3) := by decide +kernel
theorem w121 {Z : State} {a0 : Array Value} (hw : Tb a0 Z) : (Jvm.Cond.methodLink "java/lang/String" (212 : Nat) ({ cls := "java/lang/System", name := "arraycopy", desc := "(Ljava/lang/Object;ILjava/lang/Object;II)V" } : Jvm.MethodName)).before a0 Z = true := hw _ (List.mem_of_getElem? (i := 121) rfl)
theorem w124 {Z : State} {a0 : Array Value} (hw : Tb a0 Z) : (Jvm.Cond.native ({ cls := "java/lang/System", name := "arraycopy", desc := "(Ljava/lang/Object;ILjava/lang/Object;II)V" } : Jvm.MethodName)).before a0 Z = true := hw _ (List.mem_of_getElem? (i := 124) rfl)
theorem w122 {Z : State} {a0 : Array Value} (hw : Tb a0 Z) : (Jvm.Cond.static ({ cls := "java/lang/System", name := "arraycopy", desc := "(Ljava/lang/Object;ILjava/lang/Object;II)V" } : Jvm.MethodName)).before a0 Z = true := hw _ (List.mem_of_getElem? (i := 122) rfl)
theorem w123 {Z : State} {a0 : Array Value} (hw : Tb a0 Z) : (Jvm.Cond.initialized "java/lang/System").before a0 Z = true := hw _ (List.mem_of_getElem? (i := 123) rfl)
theorem d_jdk_42_method_147_code_25 : decode jdk_42_method_147_code 25 = .ok (.goto 18, 3) := by decide +kernel
theorem d_jdk_42_method_147_code_43 : decode jdk_42_method_147_code 43 = .ok (.return_, 1) := by decide +kernel
set_option maxRecDepth 65536 in
set_option maxHeartbeats 40000000 in
theorem c_getBytes (l : Launch) (Z : State) (a0 : Array Value) (hw : Tb a0 Z) (hEW : EW Z a0 EL0) (n0 : Nat) (sb d s e : Addr) (kd ke : ClassId) (n z : Int32) (j : Nat) (vs : List Value) (xs : List Int32) (cs0 : Int32) (h0 : Heap) (O : Old Z n0 h0) (hn : n.toInt = j) (hz : z.toInt = xs.length) (hj : j + xs.length ≤ 16) (hvs : vs.length = 16) (V_d : Arv Z h0 d kd .byte 16 vs (.int 0)) (ga_d : n0 ≤ d) (S_s : Str Z h0 s e ke 0 z (xs.map Value.int)) (ne_e_d : e ≠ d) (SC : Sta Z Z.heap "java/lang/String" "COMPACT_STRINGS" "Z" (.int cs0)) (hcs : ¬ cs0 = 0) :
    Ct l Z EL0 n0 (⟨"java/lang/String", "getBytes", "([BIB)V"⟩ : MethodName) jdk_42_method_147_code 4 none ({ frames := 1, cells := 0, slots := 0, locals := 18 } : Room) #[(.ref s), (.ref d), (.int n), (.int (0 : Int32))] h0 [d] (fun v h sf => v = none ∧ Keep h0 h [d] ∧ Arv Z h d kd .byte 16 (vs.take j ++ xs.map Value.int ++ vs.drop (j + xs.length)) (.int 0)) := by
  refine Ct.of (a0 := a0) #[.val (.ref s), .val (.ref d), .val (.int n), .val (.int (0 : Int32))] hEW O (plainFor_of_name pl_java_lang_String) (fun m => by first | (simp [entryFrame, mkF, argsToLocals, Value.category]; done) | rfl) ?_
  intro p_ e_ s_ m_ below_ meth_ c_ b_ T_ K hSP
  have KP := Keep.refl h0 [d]
  have V_e := S_s.2.2.2
  have sf_d := hSP d (by simp)
  refine k_aloadN K d_jdk_42_method_147_code_0 (pc' := 1) rfl rfl rfl ?_
  refine k_virtualP K [] [] 0 (w59 hw) (w60 hw) (w61 hw) (w62 hw) (w10 hw) (w63 hw) (notFace_of_selects (args := #[]) (mvT K.hZ (w62 hw))) rfl (by decide) S_s.1 (by decide) pd___B_320 (c_coder l Z a0 hw hEW n0 s e ke 0 z _ cs0 h0 K.old S_s (Or.inl rfl) SC hcs) d_jdk_42_method_147_code_1 nofun (pc' := 4) rfl rfl rfl rfl (Nat.le_of_eq rfl) (by decide) (by decide) (by decide) (by decide) ?_
  intro b56 T56 L56 K56 tr56
  show Goes p_.tables e_ below_ _ (T56.setTop (mkF m_ 4 #[.val (.ref s), .val (.ref d), .val (.int n), .val (.int (0 : Int32))] [(.int (0 : Int32))]))
  replace sf_d := tr56 d V_d.lt sf_d
  refine k_iloadN K56 d_jdk_42_method_147_code_4 (pc' := 5) rfl rfl ?_
  refine k_icmp_ne K56 d_jdk_42_method_147_code_5 (by decide) (pc' := 28) (pc2 := 8) (by decide) rfl (fun q => absurd (by decide) q) (fun hc5 => ?_)
  refine k_aloadN K56 d_jdk_42_method_147_code_8 (pc' := 9) rfl rfl rfl ?_
  refine k_getF K56 (w35 hw) Via.refl S_s.2.2.1 d_jdk_42_method_147_code_9 (pc' := 12) rfl ?_
  intro T57 K57
  refine k_iconst K57 (0 : Int32) d_jdk_42_method_147_code_12 (pc' := 13) rfl rfl ?_
  refine k_aloadN K57 d_jdk_42_method_147_code_13 (pc' := 14) rfl rfl rfl ?_
  refine k_iloadN K57 d_jdk_42_method_147_code_14 (pc' := 15) rfl rfl ?_
  refine k_iloadN K57 d_jdk_42_method_147_code_15 (pc' := 16) rfl rfl ?_
  refine k_ishl K57 d_jdk_42_method_147_code_16 (pc' := 17) rfl ?_
  refine k_aloadN K57 d_jdk_42_method_147_code_17 (pc' := 18) rfl rfl rfl ?_
  refine k_getF K57 (w35 hw) Via.refl S_s.2.2.1 d_jdk_42_method_147_code_18 (pc' := 21) rfl ?_
  intro T58 K58
  refine k_len K58 V_e d_jdk_42_method_147_code_21 (pc' := 22) rfl ?_
  rw [own_shl0]
  have cn := own_clamp hn
  have cz := own_clamp hz
  refine k_arraycopy K58 (sp := (0 : Int32)) (dp := n) (nn := z) (us := (xs.map Value.int)) (w121 hw) (w124 hw) (w122 hw) (w123 hw) V_e V_d rfl (by decide) (by rw [own_i32, hn, own_0]; omega) (by rw [own_i32, hz, own_0]; omega) (by rw [cz]; exact Nat.le_of_eq (Nat.zero_add _)) (by rw [cn, cz]; exact hj) (own_range1 xs cz) (by rw [cn, cz, hvs]; exact hj) ga_d sf_d d_jdk_42_method_147_code_22 (pc' := 25) rfl rfl (by decide) 0 (Nat.le_of_eq rfl) (by decide) ?_
  intro T59 h59 L59 K59 KQ59 tr59 V59
  replace sf_d := tr59 d V_d.lt sf_d
  replace V_e := V_e.keep KQ59 (ninS ne_e_d nin0)
  replace KP := KP.trans KQ59 (allS (Or.inl (by simp)) all0)
  replace V_d := V59
  show Goes p_.tables e_ below_ _ (T59.setTop (mkF m_ 25 #[.val (.ref s), .val (.ref d), .val (.int n), .val (.int (0 : Int32))] []))
  rw [cn, cz] at V_d
  refine k_goto K59 d_jdk_42_method_147_code_25 (by decide) (pc' := 43) (by decide) ?_
  exact k_return K59 d_jdk_42_method_147_code_43 rfl (fun sf ht => ⟨rfl, KP, V_d⟩) (by decide) (by decide)
theorem d_jdk_68_method_71_code_0 : decode jdk_68_method_71_code 0 = .ok (.getstatic 18, 3) := by decide +kernel
theorem d_jdk_68_method_71_code_3 : decode jdk_68_method_71_code 3 = .ok (.ifCond .eq 18, 3) := by decide +kernel
theorem d_jdk_68_method_71_code_6 : decode jdk_68_method_71_code 6 = .ok (.aload_n 0, 1) := by decide +kernel
theorem d_jdk_68_method_71_code_7 : decode jdk_68_method_71_code 7 = .ok (.getfield 22, 3) := by decide +kernel
theorem d_jdk_68_method_71_code_10 : decode jdk_68_method_71_code 10 = .ok (.aload_n 1, 1) := by decide +kernel
theorem d_jdk_68_method_71_code_11 : decode jdk_68_method_71_code 11 = .ok (.invokevirtual 40, 3) := by decide +kernel
theorem w115 {Z : State} {a0 : Array Value} (hw : Tb a0 Z) : (Jvm.Cond.methodLink "java/lang/AbstractStringBuilder" (40 : Nat) ({ cls := "java/lang/String", name := "coder", desc := "()B" } : Jvm.MethodName)).before a0 Z = true := hw _ (List.mem_of_getElem? (i := 115) rfl)
theorem d_jdk_68_method_71_code_14 : decode jdk_68_method_71_code 14 = .ok (.if_icmp .eq 7, 3) := by decide +kernel
theorem d_jdk_68_method_71_code_21 : decode jdk_68_method_71_code 21 = .ok (.return_, 1) := by decide +kernel
set_option maxRecDepth 65536 in
set_option maxHeartbeats 40000000 in
theorem c_infl (l : Launch) (Z : State) (a0 : Array Value) (hw : Tb a0 Z) (hEW : EW Z a0 EL0) (n0 : Nat) (sb s e : Addr) (ke : ClassId) (z : Int32) (vs : List Value) (cs0 : Int32) (h0 : Heap) (O : Old Z n0 h0) (F_sb_coder : Fld Z h0 sb "java/lang/AbstractStringBuilder" "coder" "B" (.int 0)) (S_s : Str Z h0 s e ke 0 z vs) (SC : Sta Z Z.heap "java/lang/String" "COMPACT_STRINGS" "Z" (.int cs0)) (hcs : ¬ cs0 = 0) :
    Ct l Z EL0 n0 (⟨"java/lang/AbstractStringBuilder", "inflateIfNeededFor", "(Ljava/lang/String;)V"⟩ : MethodName) jdk_68_method_71_code 2 none ({ frames := 1, cells := 0, slots := 0, locals := 13 } : Room) #[(.ref sb), (.ref s)] h0 [] (Pu none h0) := by
  refine Ct.of (a0 := a0) #[.val (.ref sb), .val (.ref s)] hEW O (plainFor_of_name pl_java_lang_AbstractStringBuilder) (fun m => by first | (simp [entryFrame, mkF, argsToLocals, Value.category]; done) | rfl) ?_
  intro p_ e_ s_ m_ below_ meth_ c_ b_ T_ K hSP
  refine k_getS K (w81 hw) Via.refl SC d_jdk_68_method_71_code_0 (pc' := 3) rfl ?_
  intro T60 K60
  refine k_if_eq K60 d_jdk_68_method_71_code_3 (by decide) (pc' := 21) (pc2 := 6) (by decide) rfl (fun q => absurd q hcs) (fun hc3 => ?_)
  refine k_aloadN K60 d_jdk_68_method_71_code_6 (pc' := 7) rfl rfl rfl ?_
  refine k_getF K60 (w84 hw) Via.refl F_sb_coder d_jdk_68_method_71_code_7 (pc' := 10) rfl ?_
  intro T61 K61
  refine k_aloadN K61 d_jdk_68_method_71_code_10 (pc' := 11) rfl rfl rfl ?_
  refine k_virtualP K61 [] [(.int (0 : Int32))] 1 (w115 hw) (w60 hw) (w61 hw) (w62 hw) (w10 hw) (w63 hw) (notFace_of_selects (args := #[]) (mvT K61.hZ (w62 hw))) rfl (by decide) S_s.1 (by decide) pd___B_320 (c_coder l Z a0 hw hEW n0 s e ke 0 z _ cs0 h0 K61.old S_s (Or.inl rfl) SC hcs) d_jdk_68_method_71_code_11 nofun (pc' := 14) rfl rfl rfl rfl (Nat.le_of_eq rfl) (by decide) (by decide) (by decide) (by decide) ?_
  intro b62 T62 L62 K62 tr62
  show Goes p_.tables e_ below_ _ (T62.setTop (mkF m_ 14 #[.val (.ref sb), .val (.ref s)] [(.int (0 : Int32)), (.int (0 : Int32))]))
  refine k_icmp_eq K62 d_jdk_68_method_71_code_14 (by decide) (pc' := 21) (pc2 := 17) (by decide) rfl (fun hc14 => ?_) (fun q => absurd (by decide) q)
  exact k_return K62 d_jdk_68_method_71_code_21 rfl (fun sf ht => ⟨rfl, rfl⟩) (by decide) (by decide)
theorem d_jdk_68_method_73_code_0 : decode jdk_68_method_73_code 0 = .ok (.aload_n 0, 1) := by decide +kernel
theorem d_jdk_68_method_73_code_1 : decode jdk_68_method_73_code 1 = .ok (.aload_n 2, 1) := by decide +kernel
theorem d_jdk_68_method_73_code_2 : decode jdk_68_method_73_code 2 = .ok (.invokevirtual 397, 3) := by decide +kernel
theorem w110 {Z : State} {a0 : Array Value} (hw : Tb a0 Z) : (Jvm.Cond.methodLink "java/lang/AbstractStringBuilder" (397 : Nat) ({ cls := "java/lang/AbstractStringBuilder", name := "inflateIfNeededFor", desc := "(Ljava/lang/String;)V" } : Jvm.MethodName)).before a0 Z = true := hw _ (List.mem_of_getElem? (i := 110) rfl)
theorem w114 {Z : State} {a0 : Array Value} (hw : Tb a0 Z) : (Jvm.Cond.code ({ cls := "java/lang/AbstractStringBuilder", name := "inflateIfNeededFor", desc := "(Ljava/lang/String;)V" } : Jvm.MethodName) jdk_68_method_71_code (2 : Nat) (Option.none : Option Jvm.ClassFile.FieldType)).before a0 Z = true := hw _ (List.mem_of_getElem? (i := 114) rfl)
theorem w112 {Z : State} {a0 : Array Value} (hw : Tb a0 Z) : (Jvm.Cond.privateMethod ({ cls := "java/lang/AbstractStringBuilder", name := "inflateIfNeededFor", desc := "(Ljava/lang/String;)V" } : Jvm.MethodName)).before a0 Z = true := hw _ (List.mem_of_getElem? (i := 112) rfl)
theorem w111 {Z : State} {a0 : Array Value} (hw : Tb a0 Z) : (Jvm.Cond.instanceMethod ({ cls := "java/lang/AbstractStringBuilder", name := "inflateIfNeededFor", desc := "(Ljava/lang/String;)V" } : Jvm.MethodName)).before a0 Z = true := hw _ (List.mem_of_getElem? (i := 111) rfl)
theorem w113 {Z : State} {a0 : Array Value} (hw : Tb a0 Z) : (Jvm.Cond.selects "java/lang/StringBuilder" ({ cls := "java/lang/AbstractStringBuilder", name := "inflateIfNeededFor", desc := "(Ljava/lang/String;)V" } : Jvm.MethodName) ({ cls := "java/lang/AbstractStringBuilder", name := "inflateIfNeededFor", desc := "(Ljava/lang/String;)V" } : Jvm.MethodName)).before a0 Z = true := hw _ (List.mem_of_getElem? (i := 113) rfl)
theorem pd__Ljava_lang_String__V_551 : parseMethodDescriptor "(Ljava/lang/String;)V" = some ⟨[(.object "java/lang/String")], none⟩ := by decide +kernel
theorem d_jdk_68_method_73_code_5 : decode jdk_68_method_73_code 5 = .ok (.aload_n 2, 1) := by decide +kernel
theorem d_jdk_68_method_73_code_6 : decode jdk_68_method_73_code 6 = .ok (.aload_n 0, 1) := by decide +kernel
theorem d_jdk_68_method_73_code_7 : decode jdk_68_method_73_code 7 = .ok (.getfield 15, 3) := by decide +kernel
theorem d_jdk_68_method_73_code_10 : decode jdk_68_method_73_code 10 = .ok (.iload_n 1, 1) := by decide +kernel
theorem d_jdk_68_method_73_code_11 : decode jdk_68_method_73_code 11 = .ok (.aload_n 0, 1) := by decide +kernel
theorem d_jdk_68_method_73_code_12 : decode jdk_68_method_73_code 12 = .ok (.getfield 22, 3) := by decide +kernel
theorem d_jdk_68_method_73_code_15 : decode jdk_68_method_73_code 15 = .ok (.invokevirtual 399, 3) := by decide +kernel
theorem w116 {Z : State} {a0 : Array Value} (hw : Tb a0 Z) : (Jvm.Cond.methodLink "java/lang/AbstractStringBuilder" (399 : Nat) ({ cls := "java/lang/String", name := "getBytes", desc := "([BIB)V" } : Jvm.MethodName)).before a0 Z = true := hw _ (List.mem_of_getElem? (i := 116) rfl)
theorem w120 {Z : State} {a0 : Array Value} (hw : Tb a0 Z) : (Jvm.Cond.code ({ cls := "java/lang/String", name := "getBytes", desc := "([BIB)V" } : Jvm.MethodName) jdk_42_method_147_code (4 : Nat) (Option.none : Option Jvm.ClassFile.FieldType)).before a0 Z = true := hw _ (List.mem_of_getElem? (i := 120) rfl)
theorem w119 {Z : State} {a0 : Array Value} (hw : Tb a0 Z) : (Jvm.Cond.selects "java/lang/String" ({ cls := "java/lang/String", name := "getBytes", desc := "([BIB)V" } : Jvm.MethodName) ({ cls := "java/lang/String", name := "getBytes", desc := "([BIB)V" } : Jvm.MethodName)).before a0 Z = true := hw _ (List.mem_of_getElem? (i := 119) rfl)
theorem w117 {Z : State} {a0 : Array Value} (hw : Tb a0 Z) : (Jvm.Cond.declares ({ cls := "java/lang/String", name := "getBytes", desc := "([BIB)V" } : Jvm.MethodName)).before a0 Z = true := hw _ (List.mem_of_getElem? (i := 117) rfl)
theorem w118 {Z : State} {a0 : Array Value} (hw : Tb a0 Z) : (Jvm.Cond.instanceMethod ({ cls := "java/lang/String", name := "getBytes", desc := "([BIB)V" } : Jvm.MethodName)).before a0 Z = true := hw _ (List.mem_of_getElem? (i := 118) rfl)
theorem pd___BIB_V_1890 : parseMethodDescriptor "([BIB)V" = some ⟨[(.array .byte), .int, .byte], none⟩ := by decide +kernel
theorem d_jdk_68_method_73_code_18 : decode jdk_68_method_73_code 18 = .ok (.return_, 1) := by decide +kernel
set_option maxRecDepth 65536 in
set_option maxHeartbeats 40000000 in
theorem c_psa (l : Launch) (Z : State) (a0 : Array Value) (hw : Tb a0 Z) (hEW : EW Z a0 EL0) (n0 : Nat) (sb d s e : Addr) (kd ke : ClassId) (n z : Int32) (j : Nat) (vs : List Value) (xs : List Int32) (cs0 : Int32) (h0 : Heap) (O : Old Z n0 h0) (X_sb : Exa Z h0 sb "java/lang/StringBuilder") (F_sb_value : Fld Z h0 sb "java/lang/AbstractStringBuilder" "value" "[B" (.ref d)) (F_sb_coder : Fld Z h0 sb "java/lang/AbstractStringBuilder" "coder" "B" (.int 0)) (F_sb_count : Fld Z h0 sb "java/lang/AbstractStringBuilder" "count" "I" (.int n)) (ga_sb : n0 ≤ sb) (hn : n.toInt = j) (hz : z.toInt = xs.length) (hj : j + xs.length ≤ 16) (hvs : vs.length = 16) (V_d : Arv Z h0 d kd .byte 16 vs (.int 0)) (ga_d : n0 ≤ d) (S_s : Str Z h0 s e ke 0 z (xs.map Value.int)) (ne_e_d : e ≠ d) (SC : Sta Z Z.heap "java/lang/String" "COMPACT_STRINGS" "Z" (.int cs0)) (hcs : ¬ cs0 = 0) :
    Ct l Z EL0 n0 (⟨"java/lang/AbstractStringBuilder", "putStringAt", "(ILjava/lang/String;)V"⟩ : MethodName) jdk_68_method_73_code 3 none ({ frames := 2, cells := 0, slots := 0, locals := 33 } : Room) #[(.ref sb), (.int n), (.ref s)] h0 [d] (fun v h sf => v = none ∧ Keep h0 h [d] ∧ Arv Z h d kd .byte 16 (vs.take j ++ xs.map Value.int ++ vs.drop (j + xs.length)) (.int 0)) := by
  refine Ct.of (a0 := a0) #[.val (.ref sb), .val (.int n), .val (.ref s)] hEW O (plainFor_of_name pl_java_lang_AbstractStringBuilder) (fun m => by first | (simp [entryFrame, mkF, argsToLocals, Value.category]; done) | rfl) ?_
  intro p_ e_ s_ m_ below_ meth_ c_ b_ T_ K hSP
  have sf_d := hSP d (by simp)
  refine k_aloadN K d_jdk_68_method_73_code_0 (pc' := 1) rfl rfl rfl ?_
  refine k_aloadN K d_jdk_68_method_73_code_1 (pc' := 2) rfl rfl rfl ?_
  refine k_privateP K [(.ref s)] [] 0 (w110 hw) (w111 hw) (own_priv2 K (w113 hw) (w111 hw) (w112 hw) (by decide)) (w112 hw) (w78 hw) (w114 hw) X_sb (by decide) pd__Ljava_lang_String__V_551 (c_infl l Z a0 hw hEW n0 sb s e ke z _ cs0 h0 K.old F_sb_coder S_s SC hcs) d_jdk_68_method_73_code_2 nofun (pc' := 5) rfl rfl rfl rfl (Nat.le_of_eq rfl) (by decide) (by decide) (by decide) (by decide) ?_
  intro b63 T63 L63 K63 tr63
  show Goes p_.tables e_ below_ _ (T63.setTop (mkF m_ 5 #[.val (.ref sb), .val (.int n), .val (.ref s)] []))
  replace sf_d := tr63 d V_d.lt sf_d
  refine k_aloadN K63 d_jdk_68_method_73_code_5 (pc' := 6) rfl rfl rfl ?_
  refine k_aloadN K63 d_jdk_68_method_73_code_6 (pc' := 7) rfl rfl rfl ?_
  refine k_getF K63 (w82 hw) Via.refl F_sb_value d_jdk_68_method_73_code_7 (pc' := 10) rfl ?_
  intro T64 K64
  refine k_iloadN K64 d_jdk_68_method_73_code_10 (pc' := 11) rfl rfl ?_
  refine k_aloadN K64 d_jdk_68_method_73_code_11 (pc' := 12) rfl rfl rfl ?_
  refine k_getF K64 (w84 hw) Via.refl F_sb_coder d_jdk_68_method_73_code_12 (pc' := 15) rfl ?_
  intro T65 K65
  refine k_virtual K65 [(.ref d), (.int n), (.int (0 : Int32))] [] 0 (w116 hw) (w117 hw) (w118 hw) (w119 hw) (w10 hw) (w120 hw) (notFace_of_selects (args := #[]) (mvT K65.hZ (w119 hw))) rfl (by decide) S_s.1 (by decide) pd___BIB_V_1890 (c_getBytes l Z a0 hw hEW n0 sb d s e kd ke n z j vs xs cs0 h0 K65.old hn hz hj hvs V_d ga_d S_s ne_e_d SC hcs) d_jdk_68_method_73_code_15 (fun x hx => by cases List.mem_singleton.mp hx; exact ⟨V_d.lt, sf_d⟩) (pc' := 18) rfl rfl rfl rfl (Nat.le_of_eq rfl) (by decide) (by decide) (by decide) (by decide) ?_
  intro b66 T66 h66 L66 v66 K66 tr66 q66
  obtain ⟨rfl, KQ, V2⟩ := q66
  show Goes p_.tables e_ below_ _ (T66.setTop (mkF m_ 18 #[.val (.ref sb), .val (.int n), .val (.ref s)] []))
  exact k_return K66 d_jdk_68_method_73_code_18 rfl (fun sf ht => ⟨rfl, KQ, V2⟩) (by decide) (by decide)
theorem d_jdk_68_method_9_code_0 : decode jdk_68_method_9_code 0 = .ok (.aload_n 0, 1) := by decide +kernel
theorem d_jdk_68_method_9_code_1 : decode jdk_68_method_9_code 1 = .ok (.getfield 15, 3) := by decide +kernel
theorem d_jdk_68_method_9_code_4 : decode jdk_68_method_9_code 4 = .ok (.arraylength, 1) := by decide +kernel
theorem d_jdk_68_method_9_code_5 : decode jdk_68_method_9_code 5 = .ok (.aload_n 0, 1) := by decide +kernel
theorem d_jdk_68_method_9_code_6 : decode jdk_68_method_9_code 6 = .ok (.getfield 22, 3) := by decide +kernel
theorem d_jdk_68_method_9_code_9 : decode jdk_68_method_9_code 9 = .ok (.ishr, 1) := by decide +kernel
theorem d_jdk_68_method_9_code_10 : decode jdk_68_method_9_code 10 = .ok (.istore_n 2, 1) := by decide +kernel
theorem d_jdk_68_method_9_code_11 : decode jdk_68_method_9_code 11 = .ok (.iload_n 1, 1) := by decide +kernel
theorem d_jdk_68_method_9_code_12 : decode jdk_68_method_9_code 12 = .ok (.iload_n 2, 1) := by decide +kernel
theorem d_jdk_68_method_9_code_13 : decode jdk_68_method_9_code 13 = .ok (.isub, 1) := by decide +kernel
theorem d_jdk_68_method_9_code_14 : decode jdk_68_method_9_code 14 = .ok (.ifCond .le 24, 3) := by decide +kernel
theorem d_jdk_68_method_9_code_38 : decode jdk_68_method_9_code 38 = .ok (.return_, 1) := by decide +kernel
set_option maxRecDepth 65536 in
set_option maxHeartbeats 40000000 in
theorem c_eci (l : Launch) (Z : State) (a0 : Array Value) (hw : Tb a0 Z) (hEW : EW Z a0 EL0) (n0 : Nat) (sb d : Addr) (kd : ClassId) (n : Int32) (j : Nat) (vs : List Value) (h0 : Heap) (O : Old Z n0 h0) (hn : n.toInt = j) (hj : j ≤ 16) (F_sb_value : Fld Z h0 sb "java/lang/AbstractStringBuilder" "value" "[B" (.ref d)) (F_sb_coder : Fld Z h0 sb "java/lang/AbstractStringBuilder" "coder" "B" (.int 0)) (V_d : Arv Z h0 d kd .byte 16 vs (.int 0)) :
    Ct l Z EL0 n0 (⟨"java/lang/AbstractStringBuilder", "ensureCapacityInternal", "(I)V"⟩ : MethodName) jdk_68_method_9_code 3 none ({ frames := 0, cells := 0, slots := 0, locals := 0 } : Room) #[(.ref sb), (.int n)] h0 [] (Pu none h0) := by
  refine Ct.of (a0 := a0) #[.val (.ref sb), .val (.int n), .unset] hEW O (plainFor_of_name pl_java_lang_AbstractStringBuilder) (fun m => by first | (simp [entryFrame, mkF, argsToLocals, Value.category]; done) | rfl) ?_
  intro p_ e_ s_ m_ below_ meth_ c_ b_ T_ K hSP
  refine k_aloadN K d_jdk_68_method_9_code_0 (pc' := 1) rfl rfl rfl ?_
  refine k_getF K (w82 hw) Via.refl F_sb_value d_jdk_68_method_9_code_1 (pc' := 4) rfl ?_
  intro T67 K67
  refine k_len K67 V_d d_jdk_68_method_9_code_4 (pc' := 5) rfl ?_
  refine k_aloadN K67 d_jdk_68_method_9_code_5 (pc' := 6) rfl rfl rfl ?_
  refine k_getF K67 (w84 hw) Via.refl F_sb_coder d_jdk_68_method_9_code_6 (pc' := 9) rfl ?_
  intro T68 K68
  refine k_ishr K68 d_jdk_68_method_9_code_9 (pc' := 10) rfl ?_
  rw [own_shr0]
  refine k_istoreN K68 d_jdk_68_method_9_code_10 (pc' := 11) (L' := #[.val (.ref sb), .val (.int n), .val (.int (16 : Int32))]) rfl rfl ?_
  refine k_iloadN K68 d_jdk_68_method_9_code_11 (pc' := 12) rfl rfl ?_
  refine k_iloadN K68 d_jdk_68_method_9_code_12 (pc' := 13) rfl rfl ?_
  refine k_isub K68 d_jdk_68_method_9_code_13 (pc' := 14) rfl ?_
  refine k_if_le K68 d_jdk_68_method_9_code_14 (by decide) (pc' := 38) (pc2 := 17) (by decide) rfl (fun hc14 => ?_) (fun q => absurd q (by rw [own_i32, XT.sub32 (by rw [hn, show (16 : Int32).toInt = 16 by decide]; constructor <;> omega), hn, own_0, show (16 : Int32).toInt = 16 by decide]; omega))
  exact k_return K68 d_jdk_68_method_9_code_38 rfl (fun sf ht => ⟨rfl, rfl⟩) (by decide) (by decide)
theorem d_jdk_68_method_22_code_0 : decode jdk_68_method_22_code 0 = .ok (.aload_n 1, 1) := by decide +kernel
theorem d_jdk_68_method_22_code_1 : decode jdk_68_method_22_code 1 = .ok (.ifnonnull 8, 3) := by decide +kernel
theorem d_jdk_68_method_22_code_9 : decode jdk_68_method_22_code 9 = .ok (.aload_n 1, 1) := by decide +kernel
theorem d_jdk_68_method_22_code_10 : decode jdk_68_method_22_code 10 = .ok (.invokevirtual 32, 3) := by decide +kernel
theorem w97 {Z : State} {a0 : Array Value} (hw : Tb a0 Z) : (Jvm.Cond.methodLink "java/lang/AbstractStringBuilder" (32 : Nat) ({ cls := "java/lang/String", name := "length", desc := "()I" } : Jvm.MethodName)).before a0 Z = true := hw _ (List.mem_of_getElem? (i := 97) rfl)
theorem d_jdk_68_method_22_code_13 : decode jdk_68_method_22_code 13 = .ok (.istore_n 2, 1) := by decide +kernel
theorem d_jdk_68_method_22_code_14 : decode jdk_68_method_22_code 14 = .ok (.aload_n 0, 1) := by decide +kernel
theorem d_jdk_68_method_22_code_15 : decode jdk_68_method_22_code 15 = .ok (.aload_n 0, 1) := by decide +kernel
theorem d_jdk_68_method_22_code_16 : decode jdk_68_method_22_code 16 = .ok (.getfield 79, 3) := by decide +kernel
theorem w98 {Z : State} {a0 : Array Value} (hw : Tb a0 Z) : (Jvm.Cond.fieldLink "java/lang/AbstractStringBuilder" (79 : Nat) "java/lang/AbstractStringBuilder" "count" "I").before a0 Z = true := hw _ (List.mem_of_getElem? (i := 98) rfl)
theorem d_jdk_68_method_22_code_19 : decode jdk_68_method_22_code 19 = .ok (.iload_n 2, 1) := by decide +kernel
theorem d_jdk_68_method_22_code_20 : decode jdk_68_method_22_code 20 = .ok (.iadd, 1) := by decide +kernel
theorem d_jdk_68_method_22_code_21 : decode jdk_68_method_22_code 21 = .ok (.invokevirtual 100, 3) := by decide +kernel
theorem w100 {Z : State} {a0 : Array Value} (hw : Tb a0 Z) : (Jvm.Cond.methodLink "java/lang/AbstractStringBuilder" (100 : Nat) ({ cls := "java/lang/AbstractStringBuilder", name := "ensureCapacityInternal", desc := "(I)V" } : Jvm.MethodName)).before a0 Z = true := hw _ (List.mem_of_getElem? (i := 100) rfl)
theorem w104 {Z : State} {a0 : Array Value} (hw : Tb a0 Z) : (Jvm.Cond.code ({ cls := "java/lang/AbstractStringBuilder", name := "ensureCapacityInternal", desc := "(I)V" } : Jvm.MethodName) jdk_68_method_9_code (3 : Nat) (Option.none : Option Jvm.ClassFile.FieldType)).before a0 Z = true := hw _ (List.mem_of_getElem? (i := 104) rfl)
theorem w102 {Z : State} {a0 : Array Value} (hw : Tb a0 Z) : (Jvm.Cond.privateMethod ({ cls := "java/lang/AbstractStringBuilder", name := "ensureCapacityInternal", desc := "(I)V" } : Jvm.MethodName)).before a0 Z = true := hw _ (List.mem_of_getElem? (i := 102) rfl)
theorem w101 {Z : State} {a0 : Array Value} (hw : Tb a0 Z) : (Jvm.Cond.instanceMethod ({ cls := "java/lang/AbstractStringBuilder", name := "ensureCapacityInternal", desc := "(I)V" } : Jvm.MethodName)).before a0 Z = true := hw _ (List.mem_of_getElem? (i := 101) rfl)
theorem w103 {Z : State} {a0 : Array Value} (hw : Tb a0 Z) : (Jvm.Cond.selects "java/lang/StringBuilder" ({ cls := "java/lang/AbstractStringBuilder", name := "ensureCapacityInternal", desc := "(I)V" } : Jvm.MethodName) ({ cls := "java/lang/AbstractStringBuilder", name := "ensureCapacityInternal", desc := "(I)V" } : Jvm.MethodName)).before a0 Z = true := hw _ (List.mem_of_getElem? (i := 103) rfl)
theorem d_jdk_68_method_22_code_24 : decode jdk_68_method_22_code 24 = .ok (.aload_n 0, 1) := by decide +kernel
theorem d_jdk_68_method_22_code_25 : decode jdk_68_method_22_code 25 = .ok (.aload_n 0, 1) := by decide +kernel
theorem d_jdk_68_method_22_code_26 : decode jdk_68_method_22_code 26 = .ok (.getfield 79, 3) := by decide +kernel
theorem d_jdk_68_method_22_code_29 : decode jdk_68_method_22_code 29 = .ok (.aload_n 1, 1) := by decide +kernel
theorem d_jdk_68_method_22_code_30 : decode jdk_68_method_22_code 30 = .ok (.invokevirtual 208, 3) := by decide +kernel
theorem w105 {Z : State} {a0 : Array Value} (hw : Tb a0 Z) : (Jvm.Cond.methodLink "java/lang/AbstractStringBuilder" (208 : Nat) ({ cls := "java/lang/AbstractStringBuilder", name := "putStringAt", desc := "(ILjava/lang/String;)V" } : Jvm.MethodName)).before a0 Z = true := hw _ (List.mem_of_getElem? (i := 105) rfl)
theorem w109 {Z : State} {a0 : Array Value} (hw : Tb a0 Z) : (Jvm.Cond.code ({ cls := "java/lang/AbstractStringBuilder", name := "putStringAt", desc := "(ILjava/lang/String;)V" } : Jvm.MethodName) jdk_68_method_73_code (3 : Nat) (Option.none : Option Jvm.ClassFile.FieldType)).before a0 Z = true := hw _ (List.mem_of_getElem? (i := 109) rfl)
theorem w107 {Z : State} {a0 : Array Value} (hw : Tb a0 Z) : (Jvm.Cond.privateMethod ({ cls := "java/lang/AbstractStringBuilder", name := "putStringAt", desc := "(ILjava/lang/String;)V" } : Jvm.MethodName)).before a0 Z = true := hw _ (List.mem_of_getElem? (i := 107) rfl)
theorem w106 {Z : State} {a0 : Array Value} (hw : Tb a0 Z) : (Jvm.Cond.instanceMethod ({ cls := "java/lang/AbstractStringBuilder", name := "putStringAt", desc := "(ILjava/lang/String;)V" } : Jvm.MethodName)).before a0 Z = true := hw _ (List.mem_of_getElem? (i := 106) rfl)
theorem w108 {Z : State} {a0 : Array Value} (hw : Tb a0 Z) : (Jvm.Cond.selects "java/lang/StringBuilder" ({ cls := "java/lang/AbstractStringBuilder", name := "putStringAt", desc := "(ILjava/lang/String;)V" } : Jvm.MethodName) ({ cls := "java/lang/AbstractStringBuilder", name := "putStringAt", desc := "(ILjava/lang/String;)V" } : Jvm.MethodName)).before a0 Z = true := hw _ (List.mem_of_getElem? (i := 108) rfl)
theorem pd__ILjava_lang_String__V_2520 : parseMethodDescriptor "(ILjava/lang/String;)V" = some ⟨[.int, (.object "java/lang/String")], none⟩ := by decide +kernel
theorem d_jdk_68_method_22_code_33 : decode jdk_68_method_22_code 33 = .ok (.aload_n 0, 1) := by decide +kernel
theorem d_jdk_68_method_22_code_34 : decode jdk_68_method_22_code 34 = .ok (.dup, 1) := by decide +kernel
theorem d_jdk_68_method_22_code_35 : decode jdk_68_method_22_code 35 = .ok (.getfield 79, 3) := by decide +kernel
theorem d_jdk_68_method_22_code_38 : decode jdk_68_method_22_code 38 = .ok (.iload_n 2, 1) := by decide +kernel
theorem d_jdk_68_method_22_code_39 : decode jdk_68_method_22_code 39 = .ok (.iadd, 1) := by decide +kernel
theorem d_jdk_68_method_22_code_40 : decode jdk_68_method_22_code 40 = .ok (.putfield 79, 3) := by decide +kernel
theorem d_jdk_68_method_22_code_43 : decode jdk_68_method_22_code 43 = .ok (.aload_n 0, 1) := by decide +kernel
theorem d_jdk_68_method_22_code_44 : decode jdk_68_method_22_code 44 = .ok (.areturn, 1) := by decide +kernel
set_option maxRecDepth 65536 in
set_option maxHeartbeats 40000000 in
theorem c_app (l : Launch) (Z : State) (a0 : Array Value) (hw : Tb a0 Z) (hEW : EW Z a0 EL0) (n0 : Nat) (sb d s e : Addr) (kd ke : ClassId) (n z : Int32) (j : Nat) (vs : List Value) (xs : List Int32) (cs0 : Int32) (h0 : Heap) (O : Old Z n0 h0) (X_sb : Exa Z h0 sb "java/lang/StringBuilder") (F_sb_value : Fld Z h0 sb "java/lang/AbstractStringBuilder" "value" "[B" (.ref d)) (F_sb_coder : Fld Z h0 sb "java/lang/AbstractStringBuilder" "coder" "B" (.int 0)) (F_sb_count : Fld Z h0 sb "java/lang/AbstractStringBuilder" "count" "I" (.int n)) (ga_sb : n0 ≤ sb) (hn : n.toInt = j) (hz : z.toInt = xs.length) (hj : j + xs.length ≤ 16) (hvs : vs.length = 16) (V_d : Arv Z h0 d kd .byte 16 vs (.int 0)) (ga_d : n0 ≤ d) (S_s : Str Z h0 s e ke 0 z (xs.map Value.int)) (ne_e_d : e ≠ d) (SC : Sta Z Z.heap "java/lang/String" "COMPACT_STRINGS" "Z" (.int cs0)) (hcs : ¬ cs0 = 0) (ne_sb_d : sb ≠ d) (ne_s_sb : s ≠ sb) (ne_e_sb : e ≠ sb) :
    Ct l Z EL0 n0 (⟨"java/lang/AbstractStringBuilder", "append", "(Ljava/lang/String;)Ljava/lang/AbstractStringBuilder;"⟩ : MethodName) jdk_68_method_22_code 3 (some (.object "java/lang/AbstractStringBuilder")) ({ frames := 3, cells := 0, slots := 0, locals := 47 } : Room) #[(.ref sb), (.ref s)] h0 [sb, d] (fun v h sf => v = some (.ref sb) ∧ Keep h0 h [sb, d] ∧ (Exa Z h sb "java/lang/StringBuilder" ∧ Fld Z h sb "java/lang/AbstractStringBuilder" "value" "[B" (.ref d) ∧ Fld Z h sb "java/lang/AbstractStringBuilder" "coder" "B" (.int 0) ∧ Fld Z h sb "java/lang/AbstractStringBuilder" "count" "I" (.int (n + z))) ∧ Arv Z h d kd .byte 16 (vs.take j ++ xs.map Value.int ++ vs.drop (j + xs.length)) (.int 0)) := by
  refine Ct.of (a0 := a0) #[.val (.ref sb), .val (.ref s), .unset] hEW O (plainFor_of_name pl_java_lang_AbstractStringBuilder) (fun m => by first | (simp [entryFrame, mkF, argsToLocals, Value.category]; done) | rfl) ?_
  intro p_ e_ s_ m_ below_ meth_ c_ b_ T_ K hSP
  have KP := Keep.refl h0 [sb, d]
  have sf_sb := hSP sb (by simp)
  have sf_d := hSP d (by simp)
  refine k_aloadN K d_jdk_68_method_22_code_0 (pc' := 1) rfl rfl rfl ?_
  refine k_ifnonnull K rfl d_jdk_68_method_22_code_1 (by decide) (pc' := 9) (pc2 := 4) (by decide) rfl (fun hc1 => ?_) (fun q => absurd q (by simp))
  refine k_aloadN K d_jdk_68_method_22_code_9 (pc' := 10) rfl rfl rfl ?_
  refine k_virtualP K [] [] 0 (w97 hw) (w55 hw) (w56 hw) (w57 hw) (w10 hw) (w58 hw) (notFace_of_selects (args := #[]) (mvT K.hZ (w57 hw))) rfl (by decide) S_s.1 (by decide) pd___I_341 (c_length l Z a0 hw hEW n0 s e ke 0 z _ cs0 h0 K.old S_s (Or.inl rfl) SC hcs) d_jdk_68_method_22_code_10 nofun (pc' := 13) rfl rfl rfl rfl (Nat.le_of_eq rfl) (by decide) (by decide) (by decide) (by decide) ?_
  intro b69 T69 L69 K69 tr69
  show Goes p_.tables e_ below_ _ (T69.setTop (mkF m_ 13 #[.val (.ref sb), .val (.ref s), .unset] [(.int (z >>> ((0 : Int32) &&& 31)))]))
  replace sf_sb := tr69 sb X_sb.lt sf_sb
  replace sf_d := tr69 d V_d.lt sf_d
  rw [own_shr0]
  refine k_istoreN K69 d_jdk_68_method_22_code_13 (pc' := 14) (L' := #[.val (.ref sb), .val (.ref s), .val (.int z)]) rfl rfl ?_
  refine k_aloadN K69 d_jdk_68_method_22_code_14 (pc' := 15) rfl rfl rfl ?_
  refine k_aloadN K69 d_jdk_68_method_22_code_15 (pc' := 16) rfl rfl rfl ?_
  refine k_getF K69 (w98 hw) Via.refl F_sb_count d_jdk_68_method_22_code_16 (pc' := 19) rfl ?_
  intro T70 K70
  refine k_iloadN K70 d_jdk_68_method_22_code_19 (pc' := 20) rfl rfl ?_
  refine k_iadd K70 d_jdk_68_method_22_code_20 (pc' := 21) rfl ?_
  have hsum := own_sum hn hz (by omega)
  refine k_privateP K70 [(.int (n + z))] [] 0 (w100 hw) (w101 hw) (own_priv2 K70 (w103 hw) (w101 hw) (w102 hw) (by decide)) (w102 hw) (w78 hw) (w104 hw) X_sb (by decide) pd__I_V_653 (c_eci l Z a0 hw hEW n0 sb d kd (n + z) (j + xs.length) vs h0 K70.old hsum hj F_sb_value F_sb_coder V_d) d_jdk_68_method_22_code_21 nofun (pc' := 24) rfl rfl rfl rfl (Nat.le_of_eq rfl) (by decide) (by decide) (by decide) (by decide) ?_
  intro b71 T71 L71 K71 tr71
  show Goes p_.tables e_ below_ _ (T71.setTop (mkF m_ 24 #[.val (.ref sb), .val (.ref s), .val (.int z)] []))
  replace sf_sb := tr71 sb X_sb.lt sf_sb
  replace sf_d := tr71 d V_d.lt sf_d
  refine k_aloadN K71 d_jdk_68_method_22_code_24 (pc' := 25) rfl rfl rfl ?_
  refine k_aloadN K71 d_jdk_68_method_22_code_25 (pc' := 26) rfl rfl rfl ?_
  refine k_getF K71 (w98 hw) Via.refl F_sb_count d_jdk_68_method_22_code_26 (pc' := 29) rfl ?_
  intro T72 K72
  refine k_aloadN K72 d_jdk_68_method_22_code_29 (pc' := 30) rfl rfl rfl ?_
  refine k_private K72 [(.int n), (.ref s)] [] 0 (w105 hw) (w106 hw) (own_priv2 K72 (w108 hw) (w106 hw) (w107 hw) (by decide)) (w107 hw) (w78 hw) (w109 hw) X_sb (by decide) pd__ILjava_lang_String__V_2520 (c_psa l Z a0 hw hEW n0 sb d s e kd ke n z j vs xs cs0 h0 K72.old X_sb F_sb_value F_sb_coder F_sb_count ga_sb hn hz hj hvs V_d ga_d S_s ne_e_d SC hcs) d_jdk_68_method_22_code_30 (fun x hx => by cases List.mem_singleton.mp hx; exact ⟨V_d.lt, sf_d⟩) (pc' := 33) rfl rfl rfl rfl (Nat.le_of_eq rfl) (by decide) (by decide) (by decide) (by decide) ?_
  intro b73 T73 h73 L73 v73 K73 tr73 q73
  obtain ⟨rfl, KQ, V2⟩ := q73
  replace sf_sb := tr73 sb X_sb.lt sf_sb
  replace sf_d := tr73 d V_d.lt sf_d
  replace X_sb := X_sb.keep KQ
  replace F_sb_value := F_sb_value.keep KQ (ninS ne_sb_d nin0)
  replace F_sb_coder := F_sb_coder.keep KQ (ninS ne_sb_d nin0)
  replace F_sb_count := F_sb_count.keep KQ (ninS ne_sb_d nin0)
  replace KP := KP.trans KQ (allS (Or.inl (by simp)) all0)
  have V_d := V2
  show Goes p_.tables e_ below_ _ (T73.setTop (mkF m_ 33 #[.val (.ref sb), .val (.ref s), .val (.int z)] []))
  refine k_aloadN K73 d_jdk_68_method_22_code_33 (pc' := 34) rfl rfl rfl ?_
  refine k_dup K73 d_jdk_68_method_22_code_34 (pc' := 35) rfl rfl ?_
  refine k_getF K73 (w98 hw) Via.refl F_sb_count d_jdk_68_method_22_code_35 (pc' := 38) rfl ?_
  intro T74 K74
  refine k_iloadN K74 d_jdk_68_method_22_code_38 (pc' := 39) rfl rfl ?_
  refine k_iadd K74 d_jdk_68_method_22_code_39 (pc' := 40) rfl ?_
  refine k_putF K74 (w98 hw) Via.refl F_sb_count X_sb (Or.inl (w99 hw)) (w69 hw) (ty := .int) (by decide) rfl rfl ga_sb sf_sb d_jdk_68_method_22_code_40 (pc' := 43) rfl ?_
  intro T75 h75 K75 W75 tr75
  have F75 := F_sb_count.same W75
  replace sf_sb := tr75 sb X_sb.lt sf_sb
  replace sf_d := tr75 d V_d.lt sf_d
  replace X_sb := X_sb.wr W75
  replace F_sb_value := F_sb_value.other W75 (Or.inr (slot_ne (Or.inl (w83 hw)) (Or.inl (w99 hw)) (by decide) (t := (.array .byte)) (t' := .int) (by decide) (by decide)))
  replace F_sb_coder := F_sb_coder.other W75 (Or.inr (slot_ne (Or.inl (w85 hw)) (Or.inl (w99 hw)) (by decide) (t := .byte) (t' := .int) (by decide) (by decide)))
  replace V_d := V_d.other W75 (Ne.symm ne_sb_d)
  replace KP := KP.wr W75 (Or.inl (by simp))
  replace F_sb_count := F75
  refine k_aloadN K75 d_jdk_68_method_22_code_43 (pc' := 44) rfl rfl rfl ?_
  exact k_aret K75 d_jdk_68_method_22_code_44 rfl rfl rfl (fun sf ht => ⟨rfl, KP, ⟨X_sb, F_sb_value, F_sb_coder, F_sb_count⟩, V_d⟩) (by decide) (by decide)
theorem d_jdk_67_method_7_code_0 : decode jdk_67_method_7_code 0 = .ok (.aload_n 0, 1) := by decide +kernel
theorem d_jdk_67_method_7_code_1 : decode jdk_67_method_7_code 1 = .ok (.aload_n 1, 1) := by decide +kernel
theorem d_jdk_67_method_7_code_2 : decode jdk_67_method_7_code 2 = .ok (.invokespecial 29, 3) := by decide +kernel
theorem w92 {Z : State} {a0 : Array Value} (hw : Tb a0 Z) : (Jvm.Cond.methodLink "java/lang/StringBuilder" (29 : Nat) ({ cls := "java/lang/AbstractStringBuilder", name := "append", desc := "(Ljava/lang/String;)Ljava/lang/AbstractStringBuilder;" } : Jvm.MethodName)).before a0 Z = true := hw _ (List.mem_of_getElem? (i := 92) rfl)
theorem w96 {Z : State} {a0 : Array Value} (hw : Tb a0 Z) : (Jvm.Cond.code ({ cls := "java/lang/AbstractStringBuilder", name := "append", desc := "(Ljava/lang/String;)Ljava/lang/AbstractStringBuilder;" } : Jvm.MethodName) jdk_68_method_22_code (3 : Nat) (Option.some (Jvm.ClassFile.FieldType.object "java/lang/AbstractStringBuilder"))).before a0 Z = true := hw _ (List.mem_of_getElem? (i := 96) rfl)
theorem w93 {Z : State} {a0 : Array Value} (hw : Tb a0 Z) : (Jvm.Cond.instanceMethod ({ cls := "java/lang/AbstractStringBuilder", name := "append", desc := "(Ljava/lang/String;)Ljava/lang/AbstractStringBuilder;" } : Jvm.MethodName)).before a0 Z = true := hw _ (List.mem_of_getElem? (i := 93) rfl)
theorem w94 {Z : State} {a0 : Array Value} (hw : Tb a0 Z) : (Jvm.Cond.superclass "java/lang/StringBuilder" "java/lang/AbstractStringBuilder").before a0 Z = true := hw _ (List.mem_of_getElem? (i := 94) rfl)
theorem pd__Ljava_lang_String__Ljava_lang_AbstractStringBuilder__9239 : parseMethodDescriptor "(Ljava/lang/String;)Ljava/lang/AbstractStringBuilder;" = some ⟨[(.object "java/lang/String")], some (.object "java/lang/AbstractStringBuilder")⟩ := by decide +kernel
theorem d_jdk_67_method_7_code_5 : decode jdk_67_method_7_code 5 = .ok (.pop, 1) := by decide +kernel
theorem d_jdk_67_method_7_code_6 : decode jdk_67_method_7_code 6 = .ok (.aload_n 0, 1) := by decide +kernel
theorem d_jdk_67_method_7_code_7 : decode jdk_67_method_7_code 7 = .ok (.areturn, 1) := by decide +kernel
set_option maxRecDepth 65536 in
set_option maxHeartbeats 40000000 in
theorem c_sapp (l : Launch) (Z : State) (a0 : Array Value) (hw : Tb a0 Z) (hEW : EW Z a0 EL0) (n0 : Nat) (sb d s e : Addr) (kd ke : ClassId) (n z : Int32) (j : Nat) (vs : List Value) (xs : List Int32) (cs0 : Int32) (h0 : Heap) (O : Old Z n0 h0) (X_sb : Exa Z h0 sb "java/lang/StringBuilder") (F_sb_value : Fld Z h0 sb "java/lang/AbstractStringBuilder" "value" "[B" (.ref d)) (F_sb_coder : Fld Z h0 sb "java/lang/AbstractStringBuilder" "coder" "B" (.int 0)) (F_sb_count : Fld Z h0 sb "java/lang/AbstractStringBuilder" "count" "I" (.int n)) (ga_sb : n0 ≤ sb) (hn : n.toInt = j) (hz : z.toInt = xs.length) (hj : j + xs.length ≤ 16) (hvs : vs.length = 16) (V_d : Arv Z h0 d kd .byte 16 vs (.int 0)) (ga_d : n0 ≤ d) (S_s : Str Z h0 s e ke 0 z (xs.map Value.int)) (ne_e_d : e ≠ d) (SC : Sta Z Z.heap "java/lang/String" "COMPACT_STRINGS" "Z" (.int cs0)) (hcs : ¬ cs0 = 0) (ne_sb_d : sb ≠ d) (ne_s_sb : s ≠ sb) (ne_e_sb : e ≠ sb) :
    Ct l Z EL0 n0 (⟨"java/lang/StringBuilder", "append", "(Ljava/lang/String;)Ljava/lang/StringBuilder;"⟩ : MethodName) jdk_67_method_7_code 2 (some (.object "java/lang/StringBuilder")) ({ frames := 4, cells := 0, slots := 0, locals := 61 } : Room) #[(.ref sb), (.ref s)] h0 [sb, d] (fun v h sf => v = some (.ref sb) ∧ Keep h0 h [sb, d] ∧ (Exa Z h sb "java/lang/StringBuilder" ∧ Fld Z h sb "java/lang/AbstractStringBuilder" "value" "[B" (.ref d) ∧ Fld Z h sb "java/lang/AbstractStringBuilder" "coder" "B" (.int 0) ∧ Fld Z h sb "java/lang/AbstractStringBuilder" "count" "I" (.int (n + z))) ∧ Arv Z h d kd .byte 16 (vs.take j ++ xs.map Value.int ++ vs.drop (j + xs.length)) (.int 0)) := by
  refine Ct.of (a0 := a0) #[.val (.ref sb), .val (.ref s)] hEW O (plainFor_of_name pl_java_lang_StringBuilder) (fun m => by first | (simp [entryFrame, mkF, argsToLocals, Value.category]; done) | rfl) ?_
  intro p_ e_ s_ m_ below_ meth_ c_ b_ T_ K hSP
  refine k_aloadN K d_jdk_67_method_7_code_0 (pc' := 1) rfl rfl rfl ?_
  refine k_aloadN K d_jdk_67_method_7_code_1 (pc' := 2) rfl rfl rfl ?_
  refine k_super K [(.ref s)] [] 0 (w92 hw) (own_same (y' := ({ cls := "java/lang/AbstractStringBuilder", name := "ensureCapacityInternal", desc := "(I)V" } : Jvm.MethodName)) rfl (w103 hw) (w93 hw) (by decide)) (w93 hw) (w94 hw) (by decide) (w78 hw) (w96 hw) (Ins.self X_sb) (by decide) pd__Ljava_lang_String__Ljava_lang_AbstractStringBuilder__9239 (c_app l Z a0 hw hEW n0 sb d s e kd ke n z j vs xs cs0 h0 K.old X_sb F_sb_value F_sb_coder F_sb_count ga_sb hn hz hj hvs V_d ga_d S_s ne_e_d SC hcs ne_sb_d ne_s_sb ne_e_sb) d_jdk_67_method_7_code_2 (fun x hx => by
    simp only [List.mem_cons, List.not_mem_nil, or_false] at hx
    rcases hx with rfl | rfl
    · exact ⟨X_sb.lt, hSP _ (by simp)⟩
    · exact ⟨V_d.lt, hSP _ (by simp)⟩) (pc' := 5) rfl rfl rfl rfl (Nat.le_of_eq rfl) (by decide) (by decide) (by decide) (by decide) ?_
  intro b76 T76 h76 L76 v76 K76 tr76 q76
  obtain ⟨rfl, KQ, h4, V2⟩ := q76
  show Goes p_.tables e_ below_ _ (T76.setTop (mkF m_ 5 #[.val (.ref sb), .val (.ref s)] [(.ref sb)]))
  refine k_pop K76 d_jdk_67_method_7_code_5 (pc' := 6) rfl rfl ?_
  refine k_aloadN K76 d_jdk_67_method_7_code_6 (pc' := 7) rfl rfl rfl ?_
  exact k_aret K76 d_jdk_67_method_7_code_7 rfl rfl rfl (fun sf ht => ⟨rfl, KQ, h4, V2⟩) (by decide) (by decide)
theorem d_jdk_68_method_64_code_0 : decode jdk_68_method_64_code 0 = .ok (.aload_n 0, 1) := by decide +kernel
theorem d_jdk_68_method_64_code_1 : decode jdk_68_method_64_code 1 = .ok (.getfield 15, 3) := by decide +kernel
theorem d_jdk_68_method_64_code_4 : decode jdk_68_method_64_code 4 = .ok (.areturn, 1) := by decide +kernel
set_option maxRecDepth 65536 in
set_option maxHeartbeats 40000000 in
theorem c_gv (l : Launch) (Z : State) (a0 : Array Value) (hw : Tb a0 Z) (hEW : EW Z a0 EL0) (n0 : Nat) (sb d : Addr) (h0 : Heap) (O : Old Z n0 h0) (F : Fld Z h0 sb "java/lang/AbstractStringBuilder" "value" "[B" (.ref d)) :
    Ct l Z EL0 n0 (⟨"java/lang/AbstractStringBuilder", "getValue", "()[B"⟩ : MethodName) jdk_68_method_64_code 1 (some (.array .byte)) ({ frames := 0, cells := 0, slots := 0, locals := 0 } : Room) #[(.ref sb)] h0 [] (Pu (some (.ref d)) h0) := by
  refine Ct.of (a0 := a0) #[.val (.ref sb)] hEW O (plainFor_of_name pl_java_lang_AbstractStringBuilder) (fun m => by first | (simp [entryFrame, mkF, argsToLocals, Value.category]; done) | rfl) ?_
  intro p_ e_ s_ m_ below_ meth_ c_ b_ T_ K hSP
  refine k_aloadN K d_jdk_68_method_64_code_0 (pc' := 1) rfl rfl rfl ?_
  refine k_getF K (w82 hw) Via.refl F d_jdk_68_method_64_code_1 (pc' := 4) rfl ?_
  intro T77 K77
  exact k_aret K77 d_jdk_68_method_64_code_4 rfl rfl rfl (fun sf ht => ⟨rfl, rfl⟩) (by decide) (by decide)
theorem d_jdk_68_method_6_code_0 : decode jdk_68_method_6_code 0 = .ok (.aload_n 0, 1) := by decide +kernel
theorem d_jdk_68_method_6_code_1 : decode jdk_68_method_6_code 1 = .ok (.getfield 79, 3) := by decide +kernel
theorem d_jdk_68_method_6_code_4 : decode jdk_68_method_6_code 4 = .ok (.ireturn, 1) := by decide +kernel
set_option maxRecDepth 65536 in
set_option maxHeartbeats 40000000 in
theorem c_al (l : Launch) (Z : State) (a0 : Array Value) (hw : Tb a0 Z) (hEW : EW Z a0 EL0) (n0 : Nat) (sb : Addr) (n : Int32) (h0 : Heap) (O : Old Z n0 h0) (F : Fld Z h0 sb "java/lang/AbstractStringBuilder" "count" "I" (.int n)) :
    Ct l Z EL0 n0 (⟨"java/lang/AbstractStringBuilder", "length", "()I"⟩ : MethodName) jdk_68_method_6_code 1 (some .int) ({ frames := 0, cells := 0, slots := 0, locals := 0 } : Room) #[(.ref sb)] h0 [] (Pu (some (.int n)) h0) := by
  refine Ct.of (a0 := a0) #[.val (.ref sb)] hEW O (plainFor_of_name pl_java_lang_AbstractStringBuilder) (fun m => by first | (simp [entryFrame, mkF, argsToLocals, Value.category]; done) | rfl) ?_
  intro p_ e_ s_ m_ below_ meth_ c_ b_ T_ K hSP
  refine k_aloadN K d_jdk_68_method_6_code_0 (pc' := 1) rfl rfl rfl ?_
  refine k_getF K (w98 hw) Via.refl F d_jdk_68_method_6_code_1 (pc' := 4) rfl ?_
  intro T78 K78
  exact k_iret K78 d_jdk_68_method_6_code_4 rfl (fun sf ht => ⟨rfl, rfl⟩) (by decide) (by decide)
theorem d_jdk_67_method_93_code_0 : decode jdk_67_method_93_code 0 = .ok (.aload_n 0, 1) := by decide +kernel
theorem d_jdk_67_method_93_code_1 : decode jdk_67_method_93_code 1 = .ok (.invokespecial 343, 3) := by decide +kernel
theorem w148 {Z : State} {a0 : Array Value} (hw : Tb a0 Z) : (Jvm.Cond.methodLink "java/lang/StringBuilder" (343 : Nat) ({ cls := "java/lang/AbstractStringBuilder", name := "length", desc := "()I" } : Jvm.MethodName)).before a0 Z = true := hw _ (List.mem_of_getElem? (i := 148) rfl)
theorem w149 {Z : State} {a0 : Array Value} (hw : Tb a0 Z) : (Jvm.Cond.code ({ cls := "java/lang/AbstractStringBuilder", name := "length", desc := "()I" } : Jvm.MethodName) jdk_68_method_6_code (1 : Nat) (Option.some Jvm.ClassFile.FieldType.int)).before a0 Z = true := hw _ (List.mem_of_getElem? (i := 149) rfl)
theorem w144 {Z : State} {a0 : Array Value} (hw : Tb a0 Z) : (Jvm.Cond.instanceMethod ({ cls := "java/lang/AbstractStringBuilder", name := "length", desc := "()I" } : Jvm.MethodName)).before a0 Z = true := hw _ (List.mem_of_getElem? (i := 144) rfl)
theorem d_jdk_67_method_93_code_4 : decode jdk_67_method_93_code 4 = .ok (.ireturn, 1) := by decide +kernel
set_option maxRecDepth 65536 in
set_option maxHeartbeats 40000000 in
theorem c_sl (l : Launch) (Z : State) (a0 : Array Value) (hw : Tb a0 Z) (hEW : EW Z a0 EL0) (n0 : Nat) (sb : Addr) (n : Int32) (h0 : Heap) (O : Old Z n0 h0) (X_sb : Exa Z h0 sb "java/lang/StringBuilder") (F : Fld Z h0 sb "java/lang/AbstractStringBuilder" "count" "I" (.int n)) :
    Ct l Z EL0 n0 (⟨"java/lang/StringBuilder", "length", "()I"⟩ : MethodName) jdk_67_method_93_code 1 (some .int) ({ frames := 1, cells := 0, slots := 0, locals := 12 } : Room) #[(.ref sb)] h0 [] (Pu (some (.int n)) h0) := by
  refine Ct.of (a0 := a0) #[.val (.ref sb)] hEW O (plainFor_of_name pl_java_lang_StringBuilder) (fun m => by first | (simp [entryFrame, mkF, argsToLocals, Value.category]; done) | rfl) ?_
  intro p_ e_ s_ m_ below_ meth_ c_ b_ T_ K hSP
  refine k_aloadN K d_jdk_67_method_93_code_0 (pc' := 1) rfl rfl rfl ?_
  refine k_superP K [] [] 0 (w148 hw) (own_same (y' := ({ cls := "java/lang/AbstractStringBuilder", name := "ensureCapacityInternal", desc := "(I)V" } : Jvm.MethodName)) rfl (w103 hw) (w144 hw) (by decide)) (w144 hw) (w94 hw) (by decide) (w78 hw) (w149 hw) (Ins.self X_sb) (by decide) pd___I_341 (c_al l Z a0 hw hEW n0 sb n h0 K.old F) d_jdk_67_method_93_code_1 nofun (pc' := 4) rfl rfl rfl rfl (Nat.le_of_eq rfl) (by decide) (by decide) (by decide) (by decide) ?_
  intro b79 T79 L79 K79 tr79
  show Goes p_.tables e_ below_ _ (T79.setTop (mkF m_ 4 #[.val (.ref sb)] [(.int n)]))
  exact k_iret K79 d_jdk_67_method_93_code_4 rfl (fun sf ht => ⟨rfl, rfl⟩) (by decide) (by decide)
theorem d_jdk_68_method_68_code_0 : decode jdk_68_method_68_code 0 = .ok (.getstatic 18, 3) := by decide +kernel
theorem d_jdk_68_method_68_code_3 : decode jdk_68_method_68_code 3 = .ok (.ifCond .eq 14, 3) := by decide +kernel
theorem d_jdk_68_method_68_code_6 : decode jdk_68_method_68_code 6 = .ok (.aload_n 0, 1) := by decide +kernel
theorem d_jdk_68_method_68_code_7 : decode jdk_68_method_68_code 7 = .ok (.getfield 22, 3) := by decide +kernel
theorem d_jdk_68_method_68_code_10 : decode jdk_68_method_68_code 10 = .ok (.ifCond .ne 7, 3) := by decide +kernel
theorem d_jdk_68_method_68_code_13 : decode jdk_68_method_68_code 13 = .ok (.iconst 1, 1) := by decide +kernel
theorem d_jdk_68_method_68_code_14 : decode jdk_68_method_68_code 14 = .ok (.goto 4, 3) := by decide +kernel
theorem d_jdk_68_method_68_code_18 : decode jdk_68_method_68_code 18 = .ok (.ireturn, 1) := by decide +kernel
set_option maxRecDepth 65536 in
set_option maxHeartbeats 40000000 in
theorem c_ail (l : Launch) (Z : State) (a0 : Array Value) (hw : Tb a0 Z) (hEW : EW Z a0 EL0) (n0 : Nat) (sb : Addr) (cs0 : Int32) (h0 : Heap) (O : Old Z n0 h0) (F : Fld Z h0 sb "java/lang/AbstractStringBuilder" "coder" "B" (.int 0)) (SC : Sta Z Z.heap "java/lang/String" "COMPACT_STRINGS" "Z" (.int cs0)) (hcs : ¬ cs0 = 0) :
    Ct l Z EL0 n0 (⟨"java/lang/AbstractStringBuilder", "isLatin1", "()Z"⟩ : MethodName) jdk_68_method_68_code 1 (some .boolean) ({ frames := 0, cells := 0, slots := 0, locals := 0 } : Room) #[(.ref sb)] h0 [] (Pu (some (.int 1)) h0) := by
  refine Ct.of (a0 := a0) #[.val (.ref sb)] hEW O (plainFor_of_name pl_java_lang_AbstractStringBuilder) (fun m => by first | (simp [entryFrame, mkF, argsToLocals, Value.category]; done) | rfl) ?_
  intro p_ e_ s_ m_ below_ meth_ c_ b_ T_ K hSP
  refine k_getS K (w81 hw) Via.refl SC d_jdk_68_method_68_code_0 (pc' := 3) rfl ?_
  intro T80 K80
  refine k_if_eq K80 d_jdk_68_method_68_code_3 (by decide) (pc' := 17) (pc2 := 6) (by decide) rfl (fun q => absurd q hcs) (fun hc3 => ?_)
  refine k_aloadN K80 d_jdk_68_method_68_code_6 (pc' := 7) rfl rfl rfl ?_
  refine k_getF K80 (w84 hw) Via.refl F d_jdk_68_method_68_code_7 (pc' := 10) rfl ?_
  intro T81 K81
  refine k_if_ne K81 d_jdk_68_method_68_code_10 (by decide) (pc' := 17) (pc2 := 13) (by decide) rfl (fun q => absurd (by decide) q) (fun hc10 => ?_)
  refine k_iconst K81 (1 : Int32) d_jdk_68_method_68_code_13 (pc' := 14) rfl rfl ?_
  refine k_goto K81 d_jdk_68_method_68_code_14 (by decide) (pc' := 18) (by decide) ?_
  exact k_nret K81 d_jdk_68_method_68_code_18 rfl (by simp) rfl (fun sf ht => ⟨rfl, rfl⟩) (by decide) (by decide)
theorem d_jdk_65_method_131_code_0 : decode jdk_65_method_131_code 0 = .ok (.iload_n 1, 1) := by decide +kernel
theorem d_jdk_65_method_131_code_1 : decode jdk_65_method_131_code 1 = .ok (.iload_n 0, 1) := by decide +kernel
theorem d_jdk_65_method_131_code_2 : decode jdk_65_method_131_code 2 = .ok (.if_icmp .ge 35, 3) := by decide +kernel
theorem d_jdk_65_method_131_code_37 : decode jdk_65_method_131_code 37 = .ok (.return_, 1) := by decide +kernel
theorem pl_java_util_Arrays : plainName "java/util/Arrays" = true := by first | (simp [plainName, overriddenIn]; done) | decide +kernel
set_option maxRecDepth 65536 in
set_option maxHeartbeats 40000000 in
theorem c_ckl (l : Launch) (Z : State) (a0 : Array Value) (hw : Tb a0 Z) (hEW : EW Z a0 EL0) (n0 : Nat) (i j : Int32) (h0 : Heap) (O : Old Z n0 h0) (h : ¬ j < i) :
    Ct l Z EL0 n0 (⟨"java/util/Arrays", "checkLength", "(II)V"⟩ : MethodName) jdk_65_method_131_code 2 none ({ frames := 0, cells := 0, slots := 0, locals := 0 } : Room) #[(.int i), (.int j)] h0 [] (Pu none h0) := by
  refine Ct.of (a0 := a0) #[.val (.int i), .val (.int j)] hEW O (plainFor_of_name pl_java_util_Arrays) (fun m => by first | (simp [entryFrame, mkF, argsToLocals, Value.category]; done) | rfl) ?_
  intro p_ e_ s_ m_ below_ meth_ c_ b_ T_ K hSP
  refine k_iloadN K d_jdk_65_method_131_code_0 (pc' := 1) rfl rfl ?_
  refine k_iloadN K d_jdk_65_method_131_code_1 (pc' := 2) rfl rfl ?_
  refine k_icmp_ge K d_jdk_65_method_131_code_2 (by decide) (pc' := 37) (pc2 := 5) (by decide) rfl (fun hc2 => ?_) (fun q => absurd q h)
  exact k_return K d_jdk_65_method_131_code_37 rfl (fun sf ht => ⟨rfl, rfl⟩) (by decide) (by decide)
theorem d_jdk_29_method_69_code_0 : decode jdk_29_method_69_code 0 = .ok (.iload_n 0, 1) := by decide +kernel
theorem d_jdk_29_method_69_code_1 : decode jdk_29_method_69_code 1 = .ok (.iload_n 1, 1) := by decide +kernel
theorem d_jdk_29_method_69_code_2 : decode jdk_29_method_69_code 2 = .ok (.if_icmp .gt 7, 3) := by decide +kernel
theorem d_jdk_29_method_69_code_9 : decode jdk_29_method_69_code 9 = .ok (.iload_n 1, 1) := by decide +kernel
theorem d_jdk_29_method_69_code_10 : decode jdk_29_method_69_code 10 = .ok (.ireturn, 1) := by decide +kernel
set_option maxRecDepth 65536 in
set_option maxHeartbeats 40000000 in
theorem c_min (l : Launch) (Z : State) (a0 : Array Value) (hw : Tb a0 Z) (hEW : EW Z a0 EL0) (n0 : Nat) (i j : Int32) (h0 : Heap) (O : Old Z n0 h0) (h : j < i) :
    Ct l Z EL0 n0 (⟨"java/lang/Math", "min", "(II)I"⟩ : MethodName) jdk_29_method_69_code 2 (some .int) ({ frames := 0, cells := 0, slots := 0, locals := 0 } : Room) #[(.int i), (.int j)] h0 [] (Pu (some (.int j)) h0) := by
  refine Ct.of (a0 := a0) #[.val (.int i), .val (.int j)] hEW O (Jvm.Free.JP.mathPlain rfl (by decide +kernel)) (fun m => by first | (simp [entryFrame, mkF, argsToLocals, Value.category]; done) | rfl) ?_
  intro p_ e_ s_ m_ below_ meth_ c_ b_ T_ K hSP
  refine k_iloadN K d_jdk_29_method_69_code_0 (pc' := 1) rfl rfl ?_
  refine k_iloadN K d_jdk_29_method_69_code_1 (pc' := 2) rfl rfl ?_
  refine k_icmp_gt K d_jdk_29_method_69_code_2 (by decide) (pc' := 9) (pc2 := 5) (by decide) rfl (fun hc2 => ?_) (fun q => absurd h q)
  refine k_iloadN K d_jdk_29_method_69_code_9 (pc' := 10) rfl rfl ?_
  exact k_iret K d_jdk_29_method_69_code_10 rfl (fun sf ht => ⟨rfl, rfl⟩) (by decide) (by decide)
theorem own_range2 (xs : List Int32) (ys : List Value) {n : Nat} (h : n = xs.length) : xs.map Value.int = (List.range n).map (fun i => (xs.map Value.int ++ ys).getD ((0 : Int32).toNatClampNeg + i) (.int 0)) := by
  subst h
  have e := own_range1 xs rfl
  refine e.trans (List.map_congr_left fun i hi => ?_)
  have hi' : i < xs.length := List.mem_range.mp hi
  have e0 : (0 : Int32).toNatClampNeg + i = i := Nat.zero_add _
  rw [e0, List.getD_eq_getElem?_getD, List.getD_eq_getElem?_getD, List.getElem?_append_left (by simpa using hi')]
theorem d_jdk_65_method_133_code_0 : decode jdk_65_method_133_code 0 = .ok (.iload_n 1, 1) := by decide +kernel
theorem d_jdk_65_method_133_code_1 : decode jdk_65_method_133_code 1 = .ok (.iload_n 2, 1) := by decide +kernel
theorem d_jdk_65_method_133_code_2 : decode jdk_65_method_133_code 2 = .ok (.invokestatic 343, 3) := by decide +kernel
theorem w162 {Z : State} {a0 : Array Value} (hw : Tb a0 Z) : (Jvm.Cond.methodLink "java/util/Arrays" (343 : Nat) ({ cls := "java/util/Arrays", name := "checkLength", desc := "(II)V" } : Jvm.MethodName)).before a0 Z = true := hw _ (List.mem_of_getElem? (i := 162) rfl)
theorem w157 {Z : State} {a0 : Array Value} (hw : Tb a0 Z) : (Jvm.Cond.initialized "java/util/Arrays").before a0 Z = true := hw _ (List.mem_of_getElem? (i := 157) rfl)
theorem w164 {Z : State} {a0 : Array Value} (hw : Tb a0 Z) : (Jvm.Cond.code ({ cls := "java/util/Arrays", name := "checkLength", desc := "(II)V" } : Jvm.MethodName) jdk_65_method_131_code (2 : Nat) (Option.none : Option Jvm.ClassFile.FieldType)).before a0 Z = true := hw _ (List.mem_of_getElem? (i := 164) rfl)
theorem w163 {Z : State} {a0 : Array Value} (hw : Tb a0 Z) : (Jvm.Cond.static ({ cls := "java/util/Arrays", name := "checkLength", desc := "(II)V" } : Jvm.MethodName)).before a0 Z = true := hw _ (List.mem_of_getElem? (i := 163) rfl)
theorem pd__II_V_999 : parseMethodDescriptor "(II)V" = some ⟨[.int, .int], none⟩ := by decide +kernel
theorem d_jdk_65_method_133_code_5 : decode jdk_65_method_133_code 5 = .ok (.iload_n 2, 1) := by decide +kernel
theorem d_jdk_65_method_133_code_6 : decode jdk_65_method_133_code 6 = .ok (.iload_n 1, 1) := by decide +kernel
theorem d_jdk_65_method_133_code_7 : decode jdk_65_method_133_code 7 = .ok (.isub, 1) := by decide +kernel
theorem d_jdk_65_method_133_code_8 : decode jdk_65_method_133_code 8 = .ok (.istore_n 3, 1) := by decide +kernel
theorem d_jdk_65_method_133_code_9 : decode jdk_65_method_133_code 9 = .ok (.iload_n 3, 1) := by decide +kernel
theorem d_jdk_65_method_133_code_10 : decode jdk_65_method_133_code 10 = .ok (.newarray .byte, 2) := by decide +kernel
theorem d_jdk_65_method_133_code_12 : decode jdk_65_method_133_code 12 = .ok (.astore 4, 2) := by decide +kernel
theorem d_jdk_65_method_133_code_14 : decode jdk_65_method_133_code 14 = .ok (.aload_n 0, 1) := by decide +kernel
theorem d_jdk_65_method_133_code_15 : decode jdk_65_method_133_code 15 = .ok (.iload_n 1, 1) := by decide +kernel
theorem d_jdk_65_method_133_code_16 : decode jdk_65_method_133_code 16 = .ok (.aload 4, 2) := by decide +kernel
theorem d_jdk_65_method_133_code_18 : decode jdk_65_method_133_code 18 = .ok (.iconst 0, 1) := by decide +kernel
theorem d_jdk_65_method_133_code_19 : decode jdk_65_method_133_code 19 = .ok (.aload_n 0, 1) := by decide +kernel
theorem d_jdk_65_method_133_code_20 : decode jdk_65_method_133_code 20 = .ok (.arraylength, 1) := by decide +kernel
theorem d_jdk_65_method_133_code_21 : decode jdk_65_method_133_code 21 = .ok (.iload_n 1, 1) := by decide +kernel
theorem d_jdk_65_method_133_code_22 : decode jdk_65_method_133_code 22 = .ok (.isub, 1) := by decide +kernel
theorem d_jdk_65_method_133_code_23 : decode jdk_65_method_133_code 23 = .ok (.iload_n 3, 1) := by decide +kernel
theorem d_jdk_65_method_133_code_24 : decode jdk_65_method_133_code 24 = .ok (.invokestatic 304, 3) := by decide +kernel
theorem w165 {Z : State} {a0 : Array Value} (hw : Tb a0 Z) : (Jvm.Cond.methodLink "java/util/Arrays" (304 : Nat) ({ cls := "java/lang/Math", name := "min", desc := "(II)I" } : Jvm.MethodName)).before a0 Z = true := hw _ (List.mem_of_getElem? (i := 165) rfl)
theorem w167 {Z : State} {a0 : Array Value} (hw : Tb a0 Z) : (Jvm.Cond.initialized "java/lang/Math").before a0 Z = true := hw _ (List.mem_of_getElem? (i := 167) rfl)
theorem w168 {Z : State} {a0 : Array Value} (hw : Tb a0 Z) : (Jvm.Cond.code ({ cls := "java/lang/Math", name := "min", desc := "(II)I" } : Jvm.MethodName) jdk_29_method_69_code (2 : Nat) (Option.some Jvm.ClassFile.FieldType.int)).before a0 Z = true := hw _ (List.mem_of_getElem? (i := 168) rfl)
theorem w166 {Z : State} {a0 : Array Value} (hw : Tb a0 Z) : (Jvm.Cond.static ({ cls := "java/lang/Math", name := "min", desc := "(II)I" } : Jvm.MethodName)).before a0 Z = true := hw _ (List.mem_of_getElem? (i := 166) rfl)
theorem pd__II_I_934 : parseMethodDescriptor "(II)I" = some ⟨[.int, .int], some .int⟩ := by decide +kernel
theorem d_jdk_65_method_133_code_27 : decode jdk_65_method_133_code 27 = .ok (.invokestatic 150, 3) := by decide +kernel
theorem w169 {Z : State} {a0 : Array Value} (hw : Tb a0 Z) : (Jvm.Cond.methodLink "java/util/Arrays" (150 : Nat) ({ cls := "java/lang/System", name := "arraycopy", desc := "(Ljava/lang/Object;ILjava/lang/Object;II)V" } : Jvm.MethodName)).before a0 Z = true := hw _ (List.mem_of_getElem? (i := 169) rfl)
theorem d_jdk_65_method_133_code_30 : decode jdk_65_method_133_code 30 = .ok (.aload 4, 2) := by decide +kernel
theorem d_jdk_65_method_133_code_32 : decode jdk_65_method_133_code 32 = .ok (.areturn, 1) := by decide +kernel
set_option maxRecDepth 65536 in
set_option maxHeartbeats 40000000 in
theorem c_crb (l : Launch) (Z : State) (a0 : Array Value) (hw : Tb a0 Z) (hEW : EW Z a0 EL0) (n0 : Nat) (d : Addr) (kd : ClassId) (n : Int32) (xs : List Int32) (ys : List Value) (h0 : Heap) (O : Old Z n0 h0) (hn : n.toInt = xs.length) (hx : xs.length ≤ 4) (V_d : Arv Z h0 d kd .byte 16 (xs.map Value.int ++ ys) (.int 0)) :
    Ct l Z EL0 n0 (⟨"java/util/Arrays", "copyOfRangeByte", "([BII)[B"⟩ : MethodName) jdk_65_method_133_code 5 (some (.array .byte)) ({ frames := 1, cells := 1, slots := 4, locals := 18 } : Room) #[(.ref d), (.int (0 : Int32)), (.int n)] h0 [] (fun v h sf => ∃ t kt, v = some (.ref t) ∧ h0.size ≤ t ∧ Keep h0 h [] ∧ Arv Z h t kt .byte n (xs.map Value.int) (.int 0) ∧ sf t) := by
  refine Ct.of (a0 := a0) #[.val (.ref d), .val (.int (0 : Int32)), .val (.int n), .unset, .unset] hEW O (plainFor_of_name pl_java_util_Arrays) (fun m => by first | (simp [entryFrame, mkF, argsToLocals, Value.category]; done) | rfl) ?_
  intro p_ e_ s_ m_ below_ meth_ c_ b_ T_ K hSP
  have KP := Keep.refl h0 []
  have cn := own_clamp hn
  have hn0 : ¬ n < 0 := by rw [own_i32, hn, own_0]; omega
  refine k_iloadN K d_jdk_65_method_133_code_0 (pc' := 1) rfl rfl ?_
  refine k_iloadN K d_jdk_65_method_133_code_1 (pc' := 2) rfl rfl ?_
  refine k_staticP K [(.int (0 : Int32)), (.int n)] [] 0 (w162 hw) (w163 hw) (w157 hw) (w164 hw) (by decide) pd__II_V_999 (c_ckl l Z a0 hw hEW n0 0 n h0 K.old hn0) d_jdk_65_method_133_code_2 nofun (pc' := 5) rfl rfl rfl rfl (Nat.le_of_eq rfl) (by decide) (by decide) (by decide) (by decide) ?_
  intro b82 T82 L82 K82 tr82
  show Goes p_.tables e_ below_ _ (T82.setTop (mkF m_ 5 #[.val (.ref d), .val (.int (0 : Int32)), .val (.int n), .unset, .unset] []))
  refine k_iloadN K82 d_jdk_65_method_133_code_5 (pc' := 6) rfl rfl ?_
  refine k_iloadN K82 d_jdk_65_method_133_code_6 (pc' := 7) rfl rfl ?_
  refine k_isub K82 d_jdk_65_method_133_code_7 (pc' := 8) rfl ?_
  refine k_istoreN K82 d_jdk_65_method_133_code_8 (pc' := 9) (L' := #[.val (.ref d), .val (.int (0 : Int32)), .val (.int n), .val (.int (n - (0 : Int32))), .unset]) rfl rfl ?_
  refine k_iloadN K82 d_jdk_65_method_133_code_9 (pc' := 10) rfl rfl ?_
  rw [show n - 0 = n by simp]
  refine k_newarray K82 (aty := .byte) (z := n) (w26 hw) hn0 (cap := 4) (by rw [cn]; exact hx) (by decide) d_jdk_65_method_133_code_10 (pc' := 12) rfl (by decide) (by decide) ?_
  intro T83 h83 a83 ka83 g83 K83 E83 tr83 sf_a83 V_a83
  have ga_a83 : n0 ≤ a83 := own_old K82.old g83
  have sz_a83 : h0.size ≤ a83 := g83 ▸ KP.1
  have ne_d_a83 : d ≠ a83 := own_ne V_d.lt g83
  replace V_d := V_d.ext E83
  replace KP := KP.ext E83
  replace V_a83 : Arv Z h83 a83 ka83 .byte n (List.replicate xs.length (.int (0 : Int32))) (.int (0 : Int32)) := V_a83.pad (pad_rep [] (.int (0 : Int32)) xs.length)
  refine k_astore K83 d_jdk_65_method_133_code_12 (pc' := 14) (L' := #[.val (.ref d), .val (.int (0 : Int32)), .val (.int n), .val (.int n), .val (.ref a83)]) rfl rfl rfl ?_
  refine k_aloadN K83 d_jdk_65_method_133_code_14 (pc' := 15) rfl rfl rfl ?_
  refine k_iloadN K83 d_jdk_65_method_133_code_15 (pc' := 16) rfl rfl ?_
  refine k_aload K83 d_jdk_65_method_133_code_16 (pc' := 18) rfl rfl rfl ?_
  refine k_iconst K83 (0 : Int32) d_jdk_65_method_133_code_18 (pc' := 19) rfl rfl ?_
  refine k_aloadN K83 d_jdk_65_method_133_code_19 (pc' := 20) rfl rfl rfl ?_
  refine k_len K83 V_d d_jdk_65_method_133_code_20 (pc' := 21) rfl ?_
  refine k_iloadN K83 d_jdk_65_method_133_code_21 (pc' := 22) rfl rfl ?_
  refine k_isub K83 d_jdk_65_method_133_code_22 (pc' := 23) rfl ?_
  rw [show (16 : Int32) - 0 = 16 by decide]
  refine k_iloadN K83 d_jdk_65_method_133_code_23 (pc' := 24) rfl rfl ?_
  refine k_staticP K83 [(.int (16 : Int32)), (.int n)] [(.int (0 : Int32)), (.ref a83), (.int (0 : Int32)), (.ref d)] 4 (w165 hw) (w166 hw) (w167 hw) (w168 hw) (by decide) pd__II_I_934 (c_min l Z a0 hw hEW n0 16 n h83 K83.old (by rw [own_i32, hn, show (16 : Int32).toInt = 16 by decide]; omega)) d_jdk_65_method_133_code_24 nofun (pc' := 27) rfl rfl rfl rfl (Nat.le_of_eq rfl) (by decide) (by decide) (by decide) (by decide) ?_
  intro b84 T84 L84 K84 tr84
  show Goes p_.tables e_ below_ _ (T84.setTop (mkF m_ 27 #[.val (.ref d), .val (.int (0 : Int32)), .val (.int n), .val (.int n), .val (.ref a83)] [(.int n), (.int (0 : Int32)), (.ref a83), (.int (0 : Int32)), (.ref d)]))
  replace sf_a83 := tr84 a83 V_a83.lt sf_a83
  refine k_arraycopy K84 (sp := (0 : Int32)) (dp := (0 : Int32)) (nn := n) (us := (xs.map Value.int)) (w169 hw) (w124 hw) (w122 hw) (w123 hw) V_d V_a83 rfl (by decide) (by decide) hn0 (by rw [cn]; exact Nat.le_trans (Nat.le_of_eq (Nat.zero_add _)) (Nat.le_trans hx (by decide))) (by rw [cn]; exact Nat.le_of_eq (Nat.zero_add _)) (own_range2 xs ys cn) (by rw [cn, List.length_replicate]; exact Nat.le_of_eq (Nat.zero_add _)) ga_a83 sf_a83 d_jdk_65_method_133_code_27 (pc' := 30) rfl rfl (by decide) 0 (Nat.le_of_eq rfl) (by decide) ?_
  intro T85 h85 L85 K85 KQ85 tr85 V85
  replace sf_a83 := tr85 a83 V_a83.lt sf_a83
  replace V_d := V_d.keep KQ85 (ninS ne_d_a83 nin0)
  replace KP := KP.trans KQ85 (allS (Or.inr sz_a83) all0)
  replace V_a83 := V85
  show Goes p_.tables e_ below_ _ (T85.setTop (mkF m_ 30 #[.val (.ref d), .val (.int (0 : Int32)), .val (.int n), .val (.int n), .val (.ref a83)] []))
  replace V_a83 : Arv Z h85 a83 ka83 .byte n (xs.map Value.int) (.int 0) := by
    have e1 : List.take (0 : Int32).toNatClampNeg (List.replicate xs.length (Value.int 0)) ++ xs.map Value.int ++ List.drop ((0 : Int32).toNatClampNeg + n.toNatClampNeg) (List.replicate xs.length (Value.int 0)) = xs.map Value.int := by
      rw [cn, show (0 : Int32).toNatClampNeg = 0 by decide]; simp
    rw [e1] at V_a83; exact V_a83
  refine k_aload K85 d_jdk_65_method_133_code_30 (pc' := 32) rfl rfl rfl ?_
  exact k_aret K85 d_jdk_65_method_133_code_32 rfl rfl rfl (fun sf ht => ⟨a83, ka83, rfl, sz_a83, KP, V_a83, ht _ V_a83.lt sf_a83⟩) (by decide) (by decide)
theorem d_jdk_65_method_132_code_0 : decode jdk_65_method_132_code 0 = .ok (.iload_n 1, 1) := by decide +kernel
theorem d_jdk_65_method_132_code_1 : decode jdk_65_method_132_code 1 = .ok (.ifCond .ne 9, 3) := by decide +kernel
theorem d_jdk_65_method_132_code_4 : decode jdk_65_method_132_code 4 = .ok (.iload_n 2, 1) := by decide +kernel
theorem d_jdk_65_method_132_code_5 : decode jdk_65_method_132_code 5 = .ok (.aload_n 0, 1) := by decide +kernel
theorem d_jdk_65_method_132_code_6 : decode jdk_65_method_132_code 6 = .ok (.arraylength, 1) := by decide +kernel
theorem d_jdk_65_method_132_code_7 : decode jdk_65_method_132_code 7 = .ok (.if_icmp .eq 10, 3) := by decide +kernel
theorem d_jdk_65_method_132_code_10 : decode jdk_65_method_132_code 10 = .ok (.aload_n 0, 1) := by decide +kernel
theorem d_jdk_65_method_132_code_11 : decode jdk_65_method_132_code 11 = .ok (.iload_n 1, 1) := by decide +kernel
theorem d_jdk_65_method_132_code_12 : decode jdk_65_method_132_code 12 = .ok (.iload_n 2, 1) := by decide +kernel
theorem d_jdk_65_method_132_code_13 : decode jdk_65_method_132_code 13 = .ok (.invokestatic 339, 3) := by decide +kernel
theorem w159 {Z : State} {a0 : Array Value} (hw : Tb a0 Z) : (Jvm.Cond.methodLink "java/util/Arrays" (339 : Nat) ({ cls := "java/util/Arrays", name := "copyOfRangeByte", desc := "([BII)[B" } : Jvm.MethodName)).before a0 Z = true := hw _ (List.mem_of_getElem? (i := 159) rfl)
theorem w161 {Z : State} {a0 : Array Value} (hw : Tb a0 Z) : (Jvm.Cond.code ({ cls := "java/util/Arrays", name := "copyOfRangeByte", desc := "([BII)[B" } : Jvm.MethodName) jdk_65_method_133_code (5 : Nat) (Option.some (Jvm.ClassFile.FieldType.array Jvm.ClassFile.FieldType.byte))).before a0 Z = true := hw _ (List.mem_of_getElem? (i := 161) rfl)
theorem w160 {Z : State} {a0 : Array Value} (hw : Tb a0 Z) : (Jvm.Cond.static ({ cls := "java/util/Arrays", name := "copyOfRangeByte", desc := "([BII)[B" } : Jvm.MethodName)).before a0 Z = true := hw _ (List.mem_of_getElem? (i := 160) rfl)
theorem pd___BII__B_2488 : parseMethodDescriptor "([BII)[B" = some ⟨[(.array .byte), .int, .int], some (.array .byte)⟩ := by decide +kernel
theorem d_jdk_65_method_132_code_16 : decode jdk_65_method_132_code 16 = .ok (.areturn, 1) := by decide +kernel
set_option maxRecDepth 65536 in
set_option maxHeartbeats 40000000 in
theorem c_cr (l : Launch) (Z : State) (a0 : Array Value) (hw : Tb a0 Z) (hEW : EW Z a0 EL0) (n0 : Nat) (d : Addr) (kd : ClassId) (n : Int32) (xs : List Int32) (ys : List Value) (h0 : Heap) (O : Old Z n0 h0) (hn : n.toInt = xs.length) (hx : xs.length ≤ 4) (V_d : Arv Z h0 d kd .byte 16 (xs.map Value.int ++ ys) (.int 0)) :
    Ct l Z EL0 n0 (⟨"java/util/Arrays", "copyOfRange", "([BII)[B"⟩ : MethodName) jdk_65_method_132_code 3 (some (.array .byte)) ({ frames := 2, cells := 1, slots := 4, locals := 34 } : Room) #[(.ref d), (.int (0 : Int32)), (.int n)] h0 [] (fun v h sf => ∃ t kt, v = some (.ref t) ∧ h0.size ≤ t ∧ Keep h0 h [] ∧ Arv Z h t kt .byte n (xs.map Value.int) (.int 0) ∧ sf t) := by
  refine Ct.of (a0 := a0) #[.val (.ref d), .val (.int (0 : Int32)), .val (.int n)] hEW O (plainFor_of_name pl_java_util_Arrays) (fun m => by first | (simp [entryFrame, mkF, argsToLocals, Value.category]; done) | rfl) ?_
  intro p_ e_ s_ m_ below_ meth_ c_ b_ T_ K hSP
  refine k_iloadN K d_jdk_65_method_132_code_0 (pc' := 1) rfl rfl ?_
  refine k_if_ne K d_jdk_65_method_132_code_1 (by decide) (pc' := 10) (pc2 := 4) (by decide) rfl (fun q => absurd (by decide) q) (fun hc1 => ?_)
  refine k_iloadN K d_jdk_65_method_132_code_4 (pc' := 5) rfl rfl ?_
  refine k_aloadN K d_jdk_65_method_132_code_5 (pc' := 6) rfl rfl rfl ?_
  refine k_len K V_d d_jdk_65_method_132_code_6 (pc' := 7) rfl ?_
  refine k_icmp_eq K d_jdk_65_method_132_code_7 (by decide) (pc' := 17) (pc2 := 10) (by decide) rfl (fun q => absurd q (fun q => by have e := congrArg Int32.toInt q; rw [hn, show (16 : Int32).toInt = 16 by decide] at e; omega)) (fun hc7 => ?_)
  refine k_aloadN K d_jdk_65_method_132_code_10 (pc' := 11) rfl rfl rfl ?_
  refine k_iloadN K d_jdk_65_method_132_code_11 (pc' := 12) rfl rfl ?_
  refine k_iloadN K d_jdk_65_method_132_code_12 (pc' := 13) rfl rfl ?_
  refine k_static K [(.ref d), (.int (0 : Int32)), (.int n)] [] 0 (w159 hw) (w160 hw) (w157 hw) (w161 hw) (by decide) pd___BII__B_2488 (c_crb l Z a0 hw hEW n0 d kd n xs ys h0 K.old hn hx V_d) d_jdk_65_method_132_code_13 nofun (pc' := 16) rfl rfl rfl rfl (Nat.le_of_eq rfl) (by decide) (by decide) (by decide) (by decide) ?_
  intro b86 T86 h86 L86 v86 K86 tr86 q86
  obtain ⟨t, kt, rfl, r1, r2, r3, r4⟩ := q86
  show Goes p_.tables e_ below_ _ (T86.setTop (mkF m_ 16 #[.val (.ref d), .val (.int (0 : Int32)), .val (.int n)] [(.ref t)]))
  exact k_aret K86 d_jdk_65_method_132_code_16 rfl rfl rfl (fun sf ht => ⟨t, kt, rfl, r1, r2, r3, ht _ r3.lt r4⟩) (by decide) (by decide)
theorem d_jdk_42_method_150_code_0 : decode jdk_42_method_150_code 0 = .ok (.aload_n 0, 1) := by decide +kernel
theorem d_jdk_42_method_150_code_1 : decode jdk_42_method_150_code 1 = .ok (.invokespecial 1, 3) := by decide +kernel
theorem d_jdk_42_method_150_code_4 : decode jdk_42_method_150_code 4 = .ok (.aload_n 1, 1) := by decide +kernel
theorem d_jdk_42_method_150_code_5 : decode jdk_42_method_150_code 5 = .ok (.invokevirtual 552, 3) := by decide +kernel
theorem w137 {Z : State} {a0 : Array Value} (hw : Tb a0 Z) : (Jvm.Cond.methodLink "java/lang/String" (552 : Nat) ({ cls := "java/lang/AbstractStringBuilder", name := "getValue", desc := "()[B" } : Jvm.MethodName)).before a0 Z = true := hw _ (List.mem_of_getElem? (i := 137) rfl)
theorem w141 {Z : State} {a0 : Array Value} (hw : Tb a0 Z) : (Jvm.Cond.code ({ cls := "java/lang/AbstractStringBuilder", name := "getValue", desc := "()[B" } : Jvm.MethodName) jdk_68_method_64_code (1 : Nat) (Option.some (Jvm.ClassFile.FieldType.array Jvm.ClassFile.FieldType.byte))).before a0 Z = true := hw _ (List.mem_of_getElem? (i := 141) rfl)
theorem w140 {Z : State} {a0 : Array Value} (hw : Tb a0 Z) : (Jvm.Cond.selects "java/lang/StringBuilder" ({ cls := "java/lang/AbstractStringBuilder", name := "getValue", desc := "()[B" } : Jvm.MethodName) ({ cls := "java/lang/AbstractStringBuilder", name := "getValue", desc := "()[B" } : Jvm.MethodName)).before a0 Z = true := hw _ (List.mem_of_getElem? (i := 140) rfl)
theorem w138 {Z : State} {a0 : Array Value} (hw : Tb a0 Z) : (Jvm.Cond.declares ({ cls := "java/lang/AbstractStringBuilder", name := "getValue", desc := "()[B" } : Jvm.MethodName)).before a0 Z = true := hw _ (List.mem_of_getElem? (i := 138) rfl)
theorem w139 {Z : State} {a0 : Array Value} (hw : Tb a0 Z) : (Jvm.Cond.instanceMethod ({ cls := "java/lang/AbstractStringBuilder", name := "getValue", desc := "()[B" } : Jvm.MethodName)).before a0 Z = true := hw _ (List.mem_of_getElem? (i := 139) rfl)
theorem pd____B_659 : parseMethodDescriptor "()[B" = some ⟨[], some (.array .byte)⟩ := by decide +kernel
theorem d_jdk_42_method_150_code_8 : decode jdk_42_method_150_code 8 = .ok (.astore_n 3, 1) := by decide +kernel
theorem d_jdk_42_method_150_code_9 : decode jdk_42_method_150_code 9 = .ok (.aload_n 1, 1) := by decide +kernel
theorem d_jdk_42_method_150_code_10 : decode jdk_42_method_150_code 10 = .ok (.invokevirtual 549, 3) := by decide +kernel
theorem w142 {Z : State} {a0 : Array Value} (hw : Tb a0 Z) : (Jvm.Cond.methodLink "java/lang/String" (549 : Nat) ({ cls := "java/lang/AbstractStringBuilder", name := "length", desc := "()I" } : Jvm.MethodName)).before a0 Z = true := hw _ (List.mem_of_getElem? (i := 142) rfl)
theorem w70 {Z : State} {a0 : Array Value} (hw : Tb a0 Z) : (Jvm.Cond.initialized "java/lang/StringBuilder").before a0 Z = true := hw _ (List.mem_of_getElem? (i := 70) rfl)
theorem w147 {Z : State} {a0 : Array Value} (hw : Tb a0 Z) : (Jvm.Cond.code ({ cls := "java/lang/StringBuilder", name := "length", desc := "()I" } : Jvm.MethodName) jdk_67_method_93_code (1 : Nat) (Option.some Jvm.ClassFile.FieldType.int)).before a0 Z = true := hw _ (List.mem_of_getElem? (i := 147) rfl)
theorem w145 {Z : State} {a0 : Array Value} (hw : Tb a0 Z) : (Jvm.Cond.selects "java/lang/StringBuilder" ({ cls := "java/lang/AbstractStringBuilder", name := "length", desc := "()I" } : Jvm.MethodName) ({ cls := "java/lang/StringBuilder", name := "length", desc := "()I" } : Jvm.MethodName)).before a0 Z = true := hw _ (List.mem_of_getElem? (i := 145) rfl)
theorem w143 {Z : State} {a0 : Array Value} (hw : Tb a0 Z) : (Jvm.Cond.declares ({ cls := "java/lang/AbstractStringBuilder", name := "length", desc := "()I" } : Jvm.MethodName)).before a0 Z = true := hw _ (List.mem_of_getElem? (i := 143) rfl)
theorem w146 {Z : State} {a0 : Array Value} (hw : Tb a0 Z) : (Jvm.Cond.instanceMethod ({ cls := "java/lang/StringBuilder", name := "length", desc := "()I" } : Jvm.MethodName)).before a0 Z = true := hw _ (List.mem_of_getElem? (i := 146) rfl)
theorem d_jdk_42_method_150_code_13 : decode jdk_42_method_150_code 13 = .ok (.istore 4, 2) := by decide +kernel
theorem d_jdk_42_method_150_code_15 : decode jdk_42_method_150_code 15 = .ok (.aload_n 1, 1) := by decide +kernel
theorem d_jdk_42_method_150_code_16 : decode jdk_42_method_150_code 16 = .ok (.invokevirtual 1047, 3) := by decide +kernel
theorem w150 {Z : State} {a0 : Array Value} (hw : Tb a0 Z) : (Jvm.Cond.methodLink "java/lang/String" (1047 : Nat) ({ cls := "java/lang/AbstractStringBuilder", name := "isLatin1", desc := "()Z" } : Jvm.MethodName)).before a0 Z = true := hw _ (List.mem_of_getElem? (i := 150) rfl)
theorem w154 {Z : State} {a0 : Array Value} (hw : Tb a0 Z) : (Jvm.Cond.code ({ cls := "java/lang/AbstractStringBuilder", name := "isLatin1", desc := "()Z" } : Jvm.MethodName) jdk_68_method_68_code (1 : Nat) (Option.some Jvm.ClassFile.FieldType.boolean)).before a0 Z = true := hw _ (List.mem_of_getElem? (i := 154) rfl)
theorem w153 {Z : State} {a0 : Array Value} (hw : Tb a0 Z) : (Jvm.Cond.selects "java/lang/StringBuilder" ({ cls := "java/lang/AbstractStringBuilder", name := "isLatin1", desc := "()Z" } : Jvm.MethodName) ({ cls := "java/lang/AbstractStringBuilder", name := "isLatin1", desc := "()Z" } : Jvm.MethodName)).before a0 Z = true := hw _ (List.mem_of_getElem? (i := 153) rfl)
theorem w151 {Z : State} {a0 : Array Value} (hw : Tb a0 Z) : (Jvm.Cond.declares ({ cls := "java/lang/AbstractStringBuilder", name := "isLatin1", desc := "()Z" } : Jvm.MethodName)).before a0 Z = true := hw _ (List.mem_of_getElem? (i := 151) rfl)
theorem w152 {Z : State} {a0 : Array Value} (hw : Tb a0 Z) : (Jvm.Cond.instanceMethod ({ cls := "java/lang/AbstractStringBuilder", name := "isLatin1", desc := "()Z" } : Jvm.MethodName)).before a0 Z = true := hw _ (List.mem_of_getElem? (i := 152) rfl)
theorem pd___Z_392 : parseMethodDescriptor "()Z" = some ⟨[], some .boolean⟩ := by decide +kernel
theorem d_jdk_42_method_150_code_19 : decode jdk_42_method_150_code 19 = .ok (.ifCond .eq 22, 3) := by decide +kernel
theorem d_jdk_42_method_150_code_22 : decode jdk_42_method_150_code 22 = .ok (.aload_n 0, 1) := by decide +kernel
theorem d_jdk_42_method_150_code_23 : decode jdk_42_method_150_code 23 = .ok (.iconst 0, 1) := by decide +kernel
theorem d_jdk_42_method_150_code_24 : decode jdk_42_method_150_code 24 = .ok (.putfield 15, 3) := by decide +kernel
theorem d_jdk_42_method_150_code_27 : decode jdk_42_method_150_code 27 = .ok (.aload_n 0, 1) := by decide +kernel
theorem d_jdk_42_method_150_code_28 : decode jdk_42_method_150_code 28 = .ok (.aload_n 3, 1) := by decide +kernel
theorem d_jdk_42_method_150_code_29 : decode jdk_42_method_150_code 29 = .ok (.iconst 0, 1) := by decide +kernel
theorem d_jdk_42_method_150_code_30 : decode jdk_42_method_150_code 30 = .ok (.iload 4, 2) := by decide +kernel
theorem d_jdk_42_method_150_code_32 : decode jdk_42_method_150_code 32 = .ok (.invokestatic 54, 3) := by decide +kernel
theorem w155 {Z : State} {a0 : Array Value} (hw : Tb a0 Z) : (Jvm.Cond.methodLink "java/lang/String" (54 : Nat) ({ cls := "java/util/Arrays", name := "copyOfRange", desc := "([BII)[B" } : Jvm.MethodName)).before a0 Z = true := hw _ (List.mem_of_getElem? (i := 155) rfl)
theorem w158 {Z : State} {a0 : Array Value} (hw : Tb a0 Z) : (Jvm.Cond.code ({ cls := "java/util/Arrays", name := "copyOfRange", desc := "([BII)[B" } : Jvm.MethodName) jdk_65_method_132_code (3 : Nat) (Option.some (Jvm.ClassFile.FieldType.array Jvm.ClassFile.FieldType.byte))).before a0 Z = true := hw _ (List.mem_of_getElem? (i := 158) rfl)
theorem w156 {Z : State} {a0 : Array Value} (hw : Tb a0 Z) : (Jvm.Cond.static ({ cls := "java/util/Arrays", name := "copyOfRange", desc := "([BII)[B" } : Jvm.MethodName)).before a0 Z = true := hw _ (List.mem_of_getElem? (i := 156) rfl)
theorem d_jdk_42_method_150_code_35 : decode jdk_42_method_150_code 35 = .ok (.putfield 9, 3) := by decide +kernel
theorem d_jdk_42_method_150_code_38 : decode jdk_42_method_150_code 38 = .ok (.goto 59, 3) := by decide +kernel
theorem d_jdk_42_method_150_code_97 : decode jdk_42_method_150_code 97 = .ok (.return_, 1) := by decide +kernel
set_option maxRecDepth 65536 in
set_option maxHeartbeats 40000000 in
theorem c_si (l : Launch) (Z : State) (a0 : Array Value) (hw : Tb a0 Z) (hEW : EW Z a0 EL0) (n0 : Nat) (sb d a : Addr) (kd : ClassId) (n : Int32) (xs : List Int32) (ys : List Value) (u1 u2 : Value) (cs0 : Int32) (h0 : Heap) (O : Old Z n0 h0) (hn : n.toInt = xs.length) (hx : xs.length ≤ 4) (V_d : Arv Z h0 d kd .byte 16 (xs.map Value.int ++ ys) (.int 0)) (X_sb : Exa Z h0 sb "java/lang/StringBuilder") (F_sb_value : Fld Z h0 sb "java/lang/AbstractStringBuilder" "value" "[B" (.ref d)) (F_sb_coder : Fld Z h0 sb "java/lang/AbstractStringBuilder" "coder" "B" (.int 0)) (F_sb_count : Fld Z h0 sb "java/lang/AbstractStringBuilder" "count" "I" (.int n)) (X_a : Exa Z h0 a "java/lang/String") (F_a_value : Fld Z h0 a "java/lang/String" "value" "[B" u1) (F_a_coder : Fld Z h0 a "java/lang/String" "coder" "B" u2) (ga_a : n0 ≤ a) (ne_sb_a : sb ≠ a) (ne_d_a : d ≠ a) (SC : Sta Z Z.heap "java/lang/String" "COMPACT_STRINGS" "Z" (.int cs0)) (hcs : ¬ cs0 = 0) :
    Ct l Z EL0 n0 (⟨"java/lang/String", "<init>", "(Ljava/lang/AbstractStringBuilder;Ljava/lang/Void;)V"⟩ : MethodName) jdk_42_method_150_code 5 none ({ frames := 3, cells := 1, slots := 4, locals := 49 } : Room) #[(.ref a), (.ref sb), .null] h0 [a] (fun v h sf => v = none ∧ Keep h0 h [a] ∧ ∃ t kt, Str Z h a t kt 0 n (xs.map Value.int)) := by
  refine Ct.of (a0 := a0) #[.val (.ref a), .val (.ref sb), .val .null, .unset, .unset] hEW O (plainFor_of_name pl_java_lang_String) (fun m => by first | (simp [entryFrame, mkF, argsToLocals, Value.category]; done) | rfl) ?_
  intro p_ e_ s_ m_ below_ meth_ c_ b_ T_ K hSP
  have KP := Keep.refl h0 [a]
  have sf_a := hSP a (by simp)
  refine k_aloadN K d_jdk_42_method_150_code_0 (pc' := 1) rfl rfl rfl ?_
  refine k_initO K (w18 hw) (w19 hw) (w20 hw) d_jdk_42_method_150_code_1 (pc' := 4) rfl rfl (by decide) 0 (Nat.le_of_eq rfl) (by decide) ?_
  intro T87 K87
  refine k_aloadN K87 d_jdk_42_method_150_code_4 (pc' := 5) rfl rfl rfl ?_
  refine k_virtualP K87 [] [] 0 (w137 hw) (w138 hw) (w139 hw) (w140 hw) (w78 hw) (w141 hw) (notFace_of_selects (args := #[]) (mvT K87.hZ (w140 hw))) rfl (by decide) X_sb (by decide) pd____B_659 (c_gv l Z a0 hw hEW n0 sb d h0 K87.old F_sb_value) d_jdk_42_method_150_code_5 nofun (pc' := 8) rfl rfl rfl rfl (Nat.le_of_eq rfl) (by decide) (by decide) (by decide) (by decide) ?_
  intro b88 T88 L88 K88 tr88
  show Goes p_.tables e_ below_ _ (T88.setTop (mkF m_ 8 #[.val (.ref a), .val (.ref sb), .val .null, .unset, .unset] [(.ref d)]))
  replace sf_a := tr88 a X_a.lt sf_a
  refine k_astoreN K88 d_jdk_42_method_150_code_8 (pc' := 9) (L' := #[.val (.ref a), .val (.ref sb), .val .null, .val (.ref d), .unset]) rfl rfl rfl ?_
  refine k_aloadN K88 d_jdk_42_method_150_code_9 (pc' := 10) rfl rfl rfl ?_
  refine k_virtualP K88 [] [] 0 (w142 hw) (w143 hw) (w146 hw) (w145 hw) (w70 hw) (w147 hw) (own_nf (args := #[]) (y' := ({ cls := "java/lang/AbstractStringBuilder", name := "ensureCapacityInternal", desc := "(I)V" } : Jvm.MethodName)) rfl (mvT K88.hZ (w103 hw))) rfl (by decide) X_sb (by decide) pd___I_341 (c_sl l Z a0 hw hEW n0 sb n h0 K88.old X_sb F_sb_count) d_jdk_42_method_150_code_10 nofun (pc' := 13) rfl rfl rfl rfl (Nat.le_of_eq rfl) (by decide) (by decide) (by decide) (by decide) ?_
  intro b89 T89 L89 K89 tr89
  show Goes p_.tables e_ below_ _ (T89.setTop (mkF m_ 13 #[.val (.ref a), .val (.ref sb), .val .null, .val (.ref d), .unset] [(.int n)]))
  replace sf_a := tr89 a X_a.lt sf_a
  refine k_istore K89 d_jdk_42_method_150_code_13 (pc' := 15) (L' := #[.val (.ref a), .val (.ref sb), .val .null, .val (.ref d), .val (.int n)]) rfl rfl ?_
  refine k_aloadN K89 d_jdk_42_method_150_code_15 (pc' := 16) rfl rfl rfl ?_
  refine k_virtualP K89 [] [] 0 (w150 hw) (w151 hw) (w152 hw) (w153 hw) (w78 hw) (w154 hw) (notFace_of_selects (args := #[]) (mvT K89.hZ (w153 hw))) rfl (by decide) X_sb (by decide) pd___Z_392 (c_ail l Z a0 hw hEW n0 sb cs0 h0 K89.old F_sb_coder SC hcs) d_jdk_42_method_150_code_16 nofun (pc' := 19) rfl rfl rfl rfl (Nat.le_of_eq rfl) (by decide) (by decide) (by decide) (by decide) ?_
  intro b90 T90 L90 K90 tr90
  show Goes p_.tables e_ below_ _ (T90.setTop (mkF m_ 19 #[.val (.ref a), .val (.ref sb), .val .null, .val (.ref d), .val (.int n)] [(.int (1 : Int32))]))
  replace sf_a := tr90 a X_a.lt sf_a
  refine k_if_eq K90 d_jdk_42_method_150_code_19 (by decide) (pc' := 41) (pc2 := 22) (by decide) rfl (fun q => absurd q (by decide)) (fun hc19 => ?_)
  refine k_aloadN K90 d_jdk_42_method_150_code_22 (pc' := 23) rfl rfl rfl ?_
  refine k_iconst K90 (0 : Int32) d_jdk_42_method_150_code_23 (pc' := 24) rfl rfl ?_
  refine k_putF K90 (w33 hw) Via.refl F_a_coder X_a (Or.inr ⟨(w34 hw), rfl, rfl⟩) (w9 hw) (ty := .byte) (by decide) rfl rfl ga_a sf_a d_jdk_42_method_150_code_24 (pc' := 27) rfl ?_
  intro T91 h91 K91 W91 tr91
  have F91 := F_a_coder.same W91
  replace sf_a := tr91 a X_a.lt sf_a
  replace X_a := X_a.wr W91
  replace F_a_value := F_a_value.other W91 (Or.inr (slot_ne (Or.inr (w36 hw)) (Or.inr (w34 hw)) (by decide) (t := (.array .byte)) (t' := .byte) (by decide) (by decide)))
  replace V_d := V_d.other W91 ne_d_a
  replace KP := KP.wr W91 (Or.inl (by simp))
  replace F_a_coder := F91
  refine k_aloadN K91 d_jdk_42_method_150_code_27 (pc' := 28) rfl rfl rfl ?_
  refine k_aloadN K91 d_jdk_42_method_150_code_28 (pc' := 29) rfl rfl rfl ?_
  refine k_iconst K91 (0 : Int32) d_jdk_42_method_150_code_29 (pc' := 30) rfl rfl ?_
  refine k_iload K91 d_jdk_42_method_150_code_30 (pc' := 32) rfl rfl ?_
  refine k_static K91 [(.ref d), (.int (0 : Int32)), (.int n)] [(.ref a)] 1 (w155 hw) (w156 hw) (w157 hw) (w158 hw) (by decide) pd___BII__B_2488 (c_cr l Z a0 hw hEW n0 d kd n xs ys h91 K91.old hn hx V_d) d_jdk_42_method_150_code_32 nofun (pc' := 35) rfl rfl rfl rfl (Nat.le_of_eq rfl) (by decide) (by decide) (by decide) (by decide) ?_
  intro b92 T92 h92 L92 v92 K92 tr92 q92
  obtain ⟨t, kt, rfl, r1, KQ, V_t, sf_t⟩ := q92
  have ga_t : n0 ≤ t := Nat.le_trans (own_n0 K91.old) r1
  have sz_t : h0.size ≤ t := Nat.le_trans KP.1 r1
  have ne_a_t : a ≠ t := own_ne2 X_a.lt r1
  have ne_d_t : d ≠ t := own_ne2 V_d.lt r1
  replace sf_a := tr92 a X_a.lt sf_a
  replace X_a := X_a.keep KQ
  replace F_a_value := F_a_value.keep KQ nin0
  replace F_a_coder := F_a_coder.keep KQ nin0
  replace V_d := V_d.keep KQ nin0
  replace KP := KP.trans KQ all0
  show Goes p_.tables e_ below_ _ (T92.setTop (mkF m_ 35 #[.val (.ref a), .val (.ref sb), .val .null, .val (.ref d), .val (.int n)] [(.ref t), (.ref a)]))
  refine k_putF K92 (w35 hw) Via.refl F_a_value X_a (Or.inr ⟨(w36 hw), rfl, rfl⟩) (w9 hw) (ty := (.array .byte)) (by decide) rfl rfl ga_a sf_a d_jdk_42_method_150_code_35 (pc' := 38) rfl ?_
  intro T93 h93 K93 W93 tr93
  have F93 := F_a_value.same W93
  replace sf_a := tr93 a X_a.lt sf_a
  replace X_a := X_a.wr W93
  replace F_a_coder := F_a_coder.other W93 (Or.inr (slot_ne (Or.inr (w34 hw)) (Or.inr (w36 hw)) (by decide) (t := .byte) (t' := (.array .byte)) (by decide) (by decide)))
  replace V_d := V_d.other W93 ne_d_a
  replace V_t := V_t.other W93 (Ne.symm ne_a_t)
  replace KP := KP.wr W93 (Or.inl (by simp))
  replace F_a_value := F93
  refine k_goto K93 d_jdk_42_method_150_code_38 (by decide) (pc' := 97) (by decide) ?_
  exact k_return K93 d_jdk_42_method_150_code_97 rfl (fun sf ht => ⟨rfl, KP, t, kt, X_a, F_a_coder, F_a_value, V_t⟩) (by decide) (by decide)
theorem d_jdk_42_method_53_code_0 : decode jdk_42_method_53_code 0 = .ok (.aload_n 0, 1) := by decide +kernel
theorem d_jdk_42_method_53_code_1 : decode jdk_42_method_53_code 1 = .ok (.aload_n 1, 1) := by decide +kernel
theorem d_jdk_42_method_53_code_2 : decode jdk_42_method_53_code 2 = .ok (.aconst_null, 1) := by decide +kernel
theorem d_jdk_42_method_53_code_3 : decode jdk_42_method_53_code 3 = .ok (.invokespecial 489, 3) := by decide +kernel
theorem w134 {Z : State} {a0 : Array Value} (hw : Tb a0 Z) : (Jvm.Cond.methodLink "java/lang/String" (489 : Nat) ({ cls := "java/lang/String", name := "<init>", desc := "(Ljava/lang/AbstractStringBuilder;Ljava/lang/Void;)V" } : Jvm.MethodName)).before a0 Z = true := hw _ (List.mem_of_getElem? (i := 134) rfl)
theorem w136 {Z : State} {a0 : Array Value} (hw : Tb a0 Z) : (Jvm.Cond.code ({ cls := "java/lang/String", name := "<init>", desc := "(Ljava/lang/AbstractStringBuilder;Ljava/lang/Void;)V" } : Jvm.MethodName) jdk_42_method_150_code (5 : Nat) (Option.none : Option Jvm.ClassFile.FieldType)).before a0 Z = true := hw _ (List.mem_of_getElem? (i := 136) rfl)
theorem w135 {Z : State} {a0 : Array Value} (hw : Tb a0 Z) : (Jvm.Cond.instanceMethod ({ cls := "java/lang/String", name := "<init>", desc := "(Ljava/lang/AbstractStringBuilder;Ljava/lang/Void;)V" } : Jvm.MethodName)).before a0 Z = true := hw _ (List.mem_of_getElem? (i := 135) rfl)
theorem pd__Ljava_lang_AbstractStringBuilder_Ljava_lang_Void__V_7965 : parseMethodDescriptor "(Ljava/lang/AbstractStringBuilder;Ljava/lang/Void;)V" = some ⟨[(.object "java/lang/AbstractStringBuilder"), (.object "java/lang/Void")], none⟩ := by decide +kernel
theorem d_jdk_42_method_53_code_6 : decode jdk_42_method_53_code 6 = .ok (.return_, 1) := by decide +kernel
set_option maxRecDepth 65536 in
set_option maxHeartbeats 40000000 in
theorem c_si2 (l : Launch) (Z : State) (a0 : Array Value) (hw : Tb a0 Z) (hEW : EW Z a0 EL0) (n0 : Nat) (sb d a : Addr) (kd : ClassId) (n : Int32) (xs : List Int32) (ys : List Value) (u1 u2 : Value) (cs0 : Int32) (h0 : Heap) (O : Old Z n0 h0) (hn : n.toInt = xs.length) (hx : xs.length ≤ 4) (V_d : Arv Z h0 d kd .byte 16 (xs.map Value.int ++ ys) (.int 0)) (X_sb : Exa Z h0 sb "java/lang/StringBuilder") (F_sb_value : Fld Z h0 sb "java/lang/AbstractStringBuilder" "value" "[B" (.ref d)) (F_sb_coder : Fld Z h0 sb "java/lang/AbstractStringBuilder" "coder" "B" (.int 0)) (F_sb_count : Fld Z h0 sb "java/lang/AbstractStringBuilder" "count" "I" (.int n)) (X_a : Exa Z h0 a "java/lang/String") (F_a_value : Fld Z h0 a "java/lang/String" "value" "[B" u1) (F_a_coder : Fld Z h0 a "java/lang/String" "coder" "B" u2) (ga_a : n0 ≤ a) (ne_sb_a : sb ≠ a) (ne_d_a : d ≠ a) (SC : Sta Z Z.heap "java/lang/String" "COMPACT_STRINGS" "Z" (.int cs0)) (hcs : ¬ cs0 = 0) :
    Ct l Z EL0 n0 (⟨"java/lang/String", "<init>", "(Ljava/lang/StringBuilder;)V"⟩ : MethodName) jdk_42_method_53_code 2 none ({ frames := 4, cells := 1, slots := 4, locals := 65 } : Room) #[(.ref a), (.ref sb)] h0 [a] (fun v h sf => v = none ∧ Keep h0 h [a] ∧ ∃ t kt, Str Z h a t kt 0 n (xs.map Value.int)) := by
  refine Ct.of (a0 := a0) #[.val (.ref a), .val (.ref sb)] hEW O (plainFor_of_name pl_java_lang_String) (fun m => by first | (simp [entryFrame, mkF, argsToLocals, Value.category]; done) | rfl) ?_
  intro p_ e_ s_ m_ below_ meth_ c_ b_ T_ K hSP
  refine k_aloadN K d_jdk_42_method_53_code_0 (pc' := 1) rfl rfl rfl ?_
  refine k_aloadN K d_jdk_42_method_53_code_1 (pc' := 2) rfl rfl rfl ?_
  refine k_aconst_null K d_jdk_42_method_53_code_2 (pc' := 3) rfl ?_
  refine k_special K [(.ref sb), .null] [] 0 (w134 hw) (w135 hw) (w10 hw) (w136 hw) rfl rfl (by decide) pd__Ljava_lang_AbstractStringBuilder_Ljava_lang_Void__V_7965 (c_si l Z a0 hw hEW n0 sb d a kd n xs ys u1 u2 cs0 h0 K.old hn hx V_d X_sb F_sb_value F_sb_coder F_sb_count X_a F_a_value F_a_coder ga_a ne_sb_a ne_d_a SC hcs) d_jdk_42_method_53_code_3 (fun x hx => by cases List.mem_singleton.mp hx; exact ⟨X_a.lt, hSP _ (by simp)⟩) (pc' := 6) rfl rfl rfl rfl (Nat.le_of_eq rfl) (by decide) (by decide) (by decide) (by decide) ?_
  intro b94 T94 h94 L94 v94 K94 tr94 q94
  obtain ⟨rfl, KQ, t, kt, S⟩ := q94
  show Goes p_.tables e_ below_ _ (T94.setTop (mkF m_ 6 #[.val (.ref a), .val (.ref sb)] []))
  exact k_return K94 d_jdk_42_method_53_code_6 rfl (fun sf ht => ⟨rfl, KQ, t, kt, S⟩) (by decide) (by decide)
theorem d_jdk_67_method_42_code_0 : decode jdk_67_method_42_code 0 = .ok (.new 18, 3) := by decide +kernel
theorem w130 {Z : State} {a0 : Array Value} (hw : Tb a0 Z) : (Jvm.Cond.classLink "java/lang/StringBuilder" (18 : Nat) "java/lang/String").before a0 Z = true := hw _ (List.mem_of_getElem? (i := 130) rfl)
theorem d_jdk_67_method_42_code_3 : decode jdk_67_method_42_code 3 = .ok (.dup, 1) := by decide +kernel
theorem d_jdk_67_method_42_code_4 : decode jdk_67_method_42_code 4 = .ok (.aload_n 0, 1) := by decide +kernel
theorem d_jdk_67_method_42_code_5 : decode jdk_67_method_42_code 5 = .ok (.invokespecial 137, 3) := by decide +kernel
theorem w131 {Z : State} {a0 : Array Value} (hw : Tb a0 Z) : (Jvm.Cond.methodLink "java/lang/StringBuilder" (137 : Nat) ({ cls := "java/lang/String", name := "<init>", desc := "(Ljava/lang/StringBuilder;)V" } : Jvm.MethodName)).before a0 Z = true := hw _ (List.mem_of_getElem? (i := 131) rfl)
theorem w133 {Z : State} {a0 : Array Value} (hw : Tb a0 Z) : (Jvm.Cond.code ({ cls := "java/lang/String", name := "<init>", desc := "(Ljava/lang/StringBuilder;)V" } : Jvm.MethodName) jdk_42_method_53_code (2 : Nat) (Option.none : Option Jvm.ClassFile.FieldType)).before a0 Z = true := hw _ (List.mem_of_getElem? (i := 133) rfl)
theorem w132 {Z : State} {a0 : Array Value} (hw : Tb a0 Z) : (Jvm.Cond.instanceMethod ({ cls := "java/lang/String", name := "<init>", desc := "(Ljava/lang/StringBuilder;)V" } : Jvm.MethodName)).before a0 Z = true := hw _ (List.mem_of_getElem? (i := 132) rfl)
theorem pd__Ljava_lang_StringBuilder__V_7629 : parseMethodDescriptor "(Ljava/lang/StringBuilder;)V" = some ⟨[(.object "java/lang/StringBuilder")], none⟩ := by decide +kernel
theorem d_jdk_67_method_42_code_8 : decode jdk_67_method_42_code 8 = .ok (.areturn, 1) := by decide +kernel
set_option maxRecDepth 65536 in
set_option maxHeartbeats 40000000 in
theorem c_ts (l : Launch) (Z : State) (a0 : Array Value) (hw : Tb a0 Z) (hEW : EW Z a0 EL0) (n0 : Nat) (sb d : Addr) (kd : ClassId) (n : Int32) (xs : List Int32) (ys : List Value) (cs0 : Int32) (h0 : Heap) (O : Old Z n0 h0) (hn : n.toInt = xs.length) (hx : xs.length ≤ 4) (V_d : Arv Z h0 d kd .byte 16 (xs.map Value.int ++ ys) (.int 0)) (X_sb : Exa Z h0 sb "java/lang/StringBuilder") (F_sb_value : Fld Z h0 sb "java/lang/AbstractStringBuilder" "value" "[B" (.ref d)) (F_sb_coder : Fld Z h0 sb "java/lang/AbstractStringBuilder" "coder" "B" (.int 0)) (F_sb_count : Fld Z h0 sb "java/lang/AbstractStringBuilder" "count" "I" (.int n)) (SC : Sta Z Z.heap "java/lang/String" "COMPACT_STRINGS" "Z" (.int cs0)) (hcs : ¬ cs0 = 0) :
    Ct l Z EL0 n0 (⟨"java/lang/StringBuilder", "toString", "()Ljava/lang/String;"⟩ : MethodName) jdk_67_method_42_code 1 (some (.object "java/lang/String")) ({ frames := 5, cells := 2, slots := 8, locals := 79 } : Room) #[(.ref sb)] h0 [] (fun v h sf => ∃ a t kt, v = some (.ref a) ∧ Str Z h a t kt 0 n (xs.map Value.int)) := by
  refine Ct.of (a0 := a0) #[.val (.ref sb)] hEW O (plainFor_of_name pl_java_lang_StringBuilder) (fun m => by first | (simp [entryFrame, mkF, argsToLocals, Value.category]; done) | rfl) ?_
  intro p_ e_ s_ m_ below_ meth_ c_ b_ T_ K hSP
  refine k_new K (w130 hw) (w9 hw) (w10 hw) d_jdk_67_method_42_code_0 (pc' := 3) rfl (by decide) (by decide) ?_
  intro T95 h95 a95 g95 K95 E95 tr95 sf_a95 X_a95 D95 U95
  have ga_a95 : n0 ≤ a95 := own_old K.old g95
  have ne_sb_a95 : sb ≠ a95 := own_ne X_sb.lt g95
  have ne_d_a95 : d ≠ a95 := own_ne V_d.lt g95
  replace X_sb := X_sb.ext E95
  replace F_sb_value := F_sb_value.ext E95
  replace F_sb_coder := F_sb_coder.ext E95
  replace F_sb_count := F_sb_count.ext E95
  replace V_d := V_d.ext E95
  have F_a95_coder : Fld Z h95 a95 "java/lang/String" "coder" "B" (.int (0 : Int32)) := D95 (Or.inr (w34 hw)) (ty := .byte) (by decide)
  have F_a95_value : Fld Z h95 a95 "java/lang/String" "value" "[B" .null := D95 (Or.inr (w36 hw)) (ty := (.array .byte)) (by decide)
  refine k_dup K95 d_jdk_67_method_42_code_3 (pc' := 4) rfl rfl ?_
  refine k_aloadN K95 d_jdk_67_method_42_code_4 (pc' := 5) rfl rfl rfl ?_
  refine k_special K95 [(.ref sb)] [(.ref a95)] 1 (w131 hw) (w132 hw) (w10 hw) (w133 hw) rfl rfl (by decide) pd__Ljava_lang_StringBuilder__V_7629 (c_si2 l Z a0 hw hEW n0 sb d a95 kd n xs ys _ _ cs0 h95 K95.old hn hx V_d X_sb F_sb_value F_sb_coder F_sb_count X_a95 F_a95_value F_a95_coder ga_a95 ne_sb_a95 ne_d_a95 SC hcs) d_jdk_67_method_42_code_5 (fun x hx => by cases List.mem_singleton.mp hx; exact ⟨X_a95.lt, sf_a95⟩) (pc' := 8) rfl rfl rfl rfl (Nat.le_of_eq rfl) (by decide) (by decide) (by decide) (by decide) ?_
  intro b96 T96 h96 L96 v96 K96 tr96 q96
  obtain ⟨rfl, KQ, t, kt, S⟩ := q96
  show Goes p_.tables e_ below_ _ (T96.setTop (mkF m_ 8 #[.val (.ref sb)] [(.ref a95)]))
  exact k_aret K96 d_jdk_67_method_42_code_8 rfl rfl rfl (fun sf ht => ⟨a95, t, kt, rfl, S⟩) (by decide) (by decide)
theorem own_app1 (xs : List Int32) : ((List.replicate 16 (Value.int 0)).take 0 ++ ([43] : List Int32).map Value.int ++ (List.replicate 16 (Value.int 0)).drop (0 + 1)) = Value.int 43 :: List.replicate 15 (Value.int 0) := rfl
theorem own_app2 (xs : List Int32) (h : xs.length ≤ 3) : ((Value.int 43 :: List.replicate 15 (Value.int 0)).take 1 ++ xs.map Value.int ++ (Value.int 43 :: List.replicate 15 (Value.int 0)).drop (1 + xs.length)) = (43 :: xs).map Value.int ++ List.replicate (15 - xs.length) (Value.int 0) := by
  match xs, h with
  | [], _ => rfl
  | [_], _ => rfl
  | [_, _], _ => rfl
  | [_, _, _], _ => rfl
theorem d_prog_10_method_6_code_0 : decode prog_10_method_6_code 0 = .ok (.aload_n 0, 1) := by decide +kernel
theorem d_prog_10_method_6_code_1 : decode prog_10_method_6_code 1 = .ok (.ldc 37, 2) := by decide +kernel
theorem w41 {Z : State} {a0 : Array Value} (hw : Tb a0 Z) : (Jvm.Cond.stringLink "com/example/warm_tariff/warmtariff/Figures" (37 : Nat) "-").before a0 Z = true := hw _ (List.mem_of_getElem? (i := 41) rfl)
theorem d_prog_10_method_6_code_3 : decode prog_10_method_6_code 3 = .ok (.invokevirtual 39, 3) := by decide +kernel
theorem w44 {Z : State} {a0 : Array Value} (hw : Tb a0 Z) : (Jvm.Cond.methodLink "com/example/warm_tariff/warmtariff/Figures" (39 : Nat) ({ cls := "java/lang/String", name := "startsWith", desc := "(Ljava/lang/String;)Z" } : Jvm.MethodName)).before a0 Z = true := hw _ (List.mem_of_getElem? (i := 44) rfl)
theorem w48 {Z : State} {a0 : Array Value} (hw : Tb a0 Z) : (Jvm.Cond.code ({ cls := "java/lang/String", name := "startsWith", desc := "(Ljava/lang/String;)Z" } : Jvm.MethodName) jdk_42_method_76_code (2 : Nat) (Option.some Jvm.ClassFile.FieldType.boolean)).before a0 Z = true := hw _ (List.mem_of_getElem? (i := 48) rfl)
theorem w47 {Z : State} {a0 : Array Value} (hw : Tb a0 Z) : (Jvm.Cond.selects "java/lang/String" ({ cls := "java/lang/String", name := "startsWith", desc := "(Ljava/lang/String;)Z" } : Jvm.MethodName) ({ cls := "java/lang/String", name := "startsWith", desc := "(Ljava/lang/String;)Z" } : Jvm.MethodName)).before a0 Z = true := hw _ (List.mem_of_getElem? (i := 47) rfl)
theorem w45 {Z : State} {a0 : Array Value} (hw : Tb a0 Z) : (Jvm.Cond.declares ({ cls := "java/lang/String", name := "startsWith", desc := "(Ljava/lang/String;)Z" } : Jvm.MethodName)).before a0 Z = true := hw _ (List.mem_of_getElem? (i := 45) rfl)
theorem w46 {Z : State} {a0 : Array Value} (hw : Tb a0 Z) : (Jvm.Cond.instanceMethod ({ cls := "java/lang/String", name := "startsWith", desc := "(Ljava/lang/String;)Z" } : Jvm.MethodName)).before a0 Z = true := hw _ (List.mem_of_getElem? (i := 46) rfl)
theorem pd__Ljava_lang_String__Z_635 : parseMethodDescriptor "(Ljava/lang/String;)Z" = some ⟨[(.object "java/lang/String")], some .boolean⟩ := by decide +kernel
theorem d_prog_10_method_6_code_6 : decode prog_10_method_6_code 6 = .ok (.ifCond .eq 7, 3) := by decide +kernel
theorem d_prog_10_method_6_code_13 : decode prog_10_method_6_code 13 = .ok (.new 45, 3) := by decide +kernel
theorem w68 {Z : State} {a0 : Array Value} (hw : Tb a0 Z) : (Jvm.Cond.classLink "com/example/warm_tariff/warmtariff/Figures" (45 : Nat) "java/lang/StringBuilder").before a0 Z = true := hw _ (List.mem_of_getElem? (i := 68) rfl)
theorem d_prog_10_method_6_code_16 : decode prog_10_method_6_code 16 = .ok (.dup, 1) := by decide +kernel
theorem d_prog_10_method_6_code_17 : decode prog_10_method_6_code 17 = .ok (.invokespecial 47, 3) := by decide +kernel
theorem w71 {Z : State} {a0 : Array Value} (hw : Tb a0 Z) : (Jvm.Cond.methodLink "com/example/warm_tariff/warmtariff/Figures" (47 : Nat) ({ cls := "java/lang/StringBuilder", name := "<init>", desc := "()V" } : Jvm.MethodName)).before a0 Z = true := hw _ (List.mem_of_getElem? (i := 71) rfl)
theorem w73 {Z : State} {a0 : Array Value} (hw : Tb a0 Z) : (Jvm.Cond.code ({ cls := "java/lang/StringBuilder", name := "<init>", desc := "()V" } : Jvm.MethodName) jdk_67_method_1_code (1 : Nat) (Option.none : Option Jvm.ClassFile.FieldType)).before a0 Z = true := hw _ (List.mem_of_getElem? (i := 73) rfl)
theorem w72 {Z : State} {a0 : Array Value} (hw : Tb a0 Z) : (Jvm.Cond.instanceMethod ({ cls := "java/lang/StringBuilder", name := "<init>", desc := "()V" } : Jvm.MethodName)).before a0 Z = true := hw _ (List.mem_of_getElem? (i := 72) rfl)
theorem pd___V_380 : parseMethodDescriptor "()V" = some ⟨[], none⟩ := by decide +kernel
theorem d_prog_10_method_6_code_20 : decode prog_10_method_6_code 20 = .ok (.ldc 48, 2) := by decide +kernel
theorem w86 {Z : State} {a0 : Array Value} (hw : Tb a0 Z) : (Jvm.Cond.stringLink "com/example/warm_tariff/warmtariff/Figures" (48 : Nat) "+").before a0 Z = true := hw _ (List.mem_of_getElem? (i := 86) rfl)
theorem d_prog_10_method_6_code_22 : decode prog_10_method_6_code 22 = .ok (.invokevirtual 50, 3) := by decide +kernel
theorem w87 {Z : State} {a0 : Array Value} (hw : Tb a0 Z) : (Jvm.Cond.methodLink "com/example/warm_tariff/warmtariff/Figures" (50 : Nat) ({ cls := "java/lang/StringBuilder", name := "append", desc := "(Ljava/lang/String;)Ljava/lang/StringBuilder;" } : Jvm.MethodName)).before a0 Z = true := hw _ (List.mem_of_getElem? (i := 87) rfl)
theorem w91 {Z : State} {a0 : Array Value} (hw : Tb a0 Z) : (Jvm.Cond.code ({ cls := "java/lang/StringBuilder", name := "append", desc := "(Ljava/lang/String;)Ljava/lang/StringBuilder;" } : Jvm.MethodName) jdk_67_method_7_code (2 : Nat) (Option.some (Jvm.ClassFile.FieldType.object "java/lang/StringBuilder"))).before a0 Z = true := hw _ (List.mem_of_getElem? (i := 91) rfl)
theorem w90 {Z : State} {a0 : Array Value} (hw : Tb a0 Z) : (Jvm.Cond.selects "java/lang/StringBuilder" ({ cls := "java/lang/StringBuilder", name := "append", desc := "(Ljava/lang/String;)Ljava/lang/StringBuilder;" } : Jvm.MethodName) ({ cls := "java/lang/StringBuilder", name := "append", desc := "(Ljava/lang/String;)Ljava/lang/StringBuilder;" } : Jvm.MethodName)).before a0 Z = true := hw _ (List.mem_of_getElem? (i := 90) rfl)
theorem w88 {Z : State} {a0 : Array Value} (hw : Tb a0 Z) : (Jvm.Cond.declares ({ cls := "java/lang/StringBuilder", name := "append", desc := "(Ljava/lang/String;)Ljava/lang/StringBuilder;" } : Jvm.MethodName)).before a0 Z = true := hw _ (List.mem_of_getElem? (i := 88) rfl)
theorem w89 {Z : State} {a0 : Array Value} (hw : Tb a0 Z) : (Jvm.Cond.instanceMethod ({ cls := "java/lang/StringBuilder", name := "append", desc := "(Ljava/lang/String;)Ljava/lang/StringBuilder;" } : Jvm.MethodName)).before a0 Z = true := hw _ (List.mem_of_getElem? (i := 89) rfl)
theorem pd__Ljava_lang_String__Ljava_lang_StringBuilder__8660 : parseMethodDescriptor "(Ljava/lang/String;)Ljava/lang/StringBuilder;" = some ⟨[(.object "java/lang/String")], some (.object "java/lang/StringBuilder")⟩ := by decide +kernel
theorem d_prog_10_method_6_code_25 : decode prog_10_method_6_code 25 = .ok (.aload_n 0, 1) := by decide +kernel
theorem d_prog_10_method_6_code_26 : decode prog_10_method_6_code 26 = .ok (.invokevirtual 50, 3) := by decide +kernel
theorem d_prog_10_method_6_code_29 : decode prog_10_method_6_code 29 = .ok (.invokevirtual 54, 3) := by decide +kernel
theorem w125 {Z : State} {a0 : Array Value} (hw : Tb a0 Z) : (Jvm.Cond.methodLink "com/example/warm_tariff/warmtariff/Figures" (54 : Nat) ({ cls := "java/lang/StringBuilder", name := "toString", desc := "()Ljava/lang/String;" } : Jvm.MethodName)).before a0 Z = true := hw _ (List.mem_of_getElem? (i := 125) rfl)
theorem w129 {Z : State} {a0 : Array Value} (hw : Tb a0 Z) : (Jvm.Cond.code ({ cls := "java/lang/StringBuilder", name := "toString", desc := "()Ljava/lang/String;" } : Jvm.MethodName) jdk_67_method_42_code (1 : Nat) (Option.some (Jvm.ClassFile.FieldType.object "java/lang/String"))).before a0 Z = true := hw _ (List.mem_of_getElem? (i := 129) rfl)
theorem w128 {Z : State} {a0 : Array Value} (hw : Tb a0 Z) : (Jvm.Cond.selects "java/lang/StringBuilder" ({ cls := "java/lang/StringBuilder", name := "toString", desc := "()Ljava/lang/String;" } : Jvm.MethodName) ({ cls := "java/lang/StringBuilder", name := "toString", desc := "()Ljava/lang/String;" } : Jvm.MethodName)).before a0 Z = true := hw _ (List.mem_of_getElem? (i := 128) rfl)
theorem w126 {Z : State} {a0 : Array Value} (hw : Tb a0 Z) : (Jvm.Cond.declares ({ cls := "java/lang/StringBuilder", name := "toString", desc := "()Ljava/lang/String;" } : Jvm.MethodName)).before a0 Z = true := hw _ (List.mem_of_getElem? (i := 126) rfl)
theorem w127 {Z : State} {a0 : Array Value} (hw : Tb a0 Z) : (Jvm.Cond.instanceMethod ({ cls := "java/lang/StringBuilder", name := "toString", desc := "()Ljava/lang/String;" } : Jvm.MethodName)).before a0 Z = true := hw _ (List.mem_of_getElem? (i := 127) rfl)
theorem pd___Ljava_lang_String__9676 : parseMethodDescriptor "()Ljava/lang/String;" = some ⟨[], some (.object "java/lang/String")⟩ := by decide +kernel
theorem d_prog_10_method_6_code_32 : decode prog_10_method_6_code 32 = .ok (.areturn, 1) := by decide +kernel
theorem d_prog_10_method_6_code_9 : decode prog_10_method_6_code 9 = .ok (.aload_n 0, 1) := by decide +kernel
theorem d_prog_10_method_6_code_10 : decode prog_10_method_6_code 10 = .ok (.goto 22, 3) := by decide +kernel
theorem pl_com_example_warm_tariff_warmtariff_Figures : plainName "com/example/warm_tariff/warmtariff/Figures" = true := by first | (simp [plainName, overriddenIn]; done) | decide +kernel
set_option maxRecDepth 65536 in
set_option maxHeartbeats 40000000 in
theorem c_signed (l : Launch) (Z : State) (a0 : Array Value) (hw : Tb a0 Z) (hEW : EW Z a0 EL0) (n0 : Nat) (s e : Addr) (ke : ClassId) (z : Int32) (xs : List Int32) (cs0 : Int32) (h0 : Heap) (O : Old Z n0 h0) (hz : z.toInt = xs.length) (hb : xs.length ≤ 3) (S_s : Str Z h0 s e ke 0 z (xs.map Value.int)) (SC : Sta Z Z.heap "java/lang/String" "COMPACT_STRINGS" "Z" (.int cs0)) (hcs : ¬ cs0 = 0) :
    Ct l Z EL0 n0 (⟨"com/example/warm_tariff/warmtariff/Figures", "signed", "(Ljava/lang/String;)Ljava/lang/String;"⟩ : MethodName) prog_10_method_6_code 1 (some (.object "java/lang/String")) ({ frames := 6, cells := 8, slots := 44, locals := 91 } : Room) #[(.ref s)] h0 [] (fun v h sf => (xs.head? = some 45 ∧ v = some (.ref s) ∧ Str Z h s e ke 0 z (xs.map Value.int)) ∨ (xs.head? ≠ some 45 ∧ ∃ a t kt, v = some (.ref a) ∧ Str Z h a t kt 0 (1 + z) ((43 :: xs).map Value.int))) := by
  refine Ct.of (a0 := a0) #[.val (.ref s)] hEW O (plainFor_of_name pl_com_example_warm_tariff_warmtariff_Figures) (fun m => by first | (simp [entryFrame, mkF, argsToLocals, Value.category]; done) | rfl) ?_
  intro p_ e_ s_ m_ below_ meth_ c_ b_ T_ K hSP
  refine k_aloadN K d_prog_10_method_6_code_0 (pc' := 1) rfl rfl rfl ?_
  refine k_ldcS K (vs := ([45] : List Int32).map Value.int) (z := 1) (w41 hw) (own_wS hw) (by decide) ⟨by decide, by decide⟩ (by decide) (by decide) 4 (by decide) (by decide) d_prog_10_method_6_code_1 (pc' := 3) rfl (by decide) (by decide) ?_
  intro b97 T97 h97 s97 e97 ke97 K97 E97 tr97 X1 X2 X3 X4 nd97
  replace S_s := S_s.ext E97
  have S_s97 : Str Z h97 s97 e97 ke97 0 1 (([45] : List Int32).map Value.int) := ⟨X1, X2, X3, X4⟩
  show Goes p_.tables e_ below_ _ (T97.setTop (mkF m_ 3 #[.val (.ref s)] [(.ref s97), (.ref s)]))
  refine k_virtualP K97 [(.ref s97)] [] 0 (w44 hw) (w45 hw) (w46 hw) (w47 hw) (w10 hw) (w48 hw) (notFace_of_selects (args := #[]) (mvT K97.hZ (w47 hw))) rfl (by decide) S_s.1 (by decide) pd__Ljava_lang_String__Z_635 (c_sw2 l Z a0 hw hEW n0 s e s97 e97 ke ke97 z xs cs0 h97 K97.old S_s hz hb S_s97 SC hcs) d_prog_10_method_6_code_3 nofun (pc' := 6) rfl rfl rfl rfl (Nat.le_of_eq rfl) (by decide) (by decide) (by decide) (by decide) ?_
  intro b98 T98 L98 K98 tr98
  show Goes p_.tables e_ below_ _ (T98.setTop (mkF m_ 6 #[.val (.ref s)] [(.int (if xs.head? = some 45 then 1 else 0))]))
  refine k_if_eq K98 d_prog_10_method_6_code_6 (by decide) (pc' := 13) (pc2 := 9) (by decide) rfl (fun hc6 => ?_) (fun hc6 => ?_)
  · have hq : ¬ xs.head? = some 45 := fun q => by rw [if_pos q] at hc6; exact absurd hc6 (by decide)
    refine k_new K98 (w68 hw) (w69 hw) (w70 hw) d_prog_10_method_6_code_13 (pc' := 16) rfl (by decide) (by decide) ?_
    intro T99 h99 a99 g99 K99 E99 tr99 sf_a99 X_a99 D99 U99
    have ga_a99 : n0 ≤ a99 := own_old K98.old g99
    have ne_s_a99 : s ≠ a99 := own_ne S_s.lt g99
    have ne_e_a99 : e ≠ a99 := own_ne S_s.blt g99
    replace S_s := S_s.ext E99
    have F_a99_value : Fld Z h99 a99 "java/lang/AbstractStringBuilder" "value" "[B" .null := D99 (Or.inl (w83 hw)) (ty := (.array .byte)) (by decide)
    have F_a99_coder : Fld Z h99 a99 "java/lang/AbstractStringBuilder" "coder" "B" (.int (0 : Int32)) := D99 (Or.inl (w85 hw)) (ty := .byte) (by decide)
    have F_a99_count : Fld Z h99 a99 "java/lang/AbstractStringBuilder" "count" "I" (.int (0 : Int32)) := D99 (Or.inl (w99 hw)) (ty := .int) (by decide)
    refine k_dup K99 d_prog_10_method_6_code_16 (pc' := 17) rfl rfl ?_
    refine k_special K99 [] [(.ref a99)] 1 (w71 hw) (w72 hw) (w70 hw) (w73 hw) rfl rfl (by decide) pd___V_380 (c_sbinit l Z a0 hw hEW n0 a99 _ cs0 h99 K99.old X_a99 F_a99_value F_a99_coder F_a99_count ga_a99 SC hcs) d_prog_10_method_6_code_17 (fun x hx => by cases List.mem_singleton.mp hx; exact ⟨X_a99.lt, sf_a99⟩) (pc' := 20) rfl rfl rfl rfl (Nat.le_of_eq rfl) (by decide) (by decide) (by decide) (by decide) ?_
    intro b100 T100 h100 L100 v100 K100 tr100 q100
    obtain ⟨d, kd, rfl, hd, KQ, ⟨q1, q2, q3, q4⟩, V_d, sf_d⟩ := q100
    have ga_d : n0 ≤ d := Nat.le_trans (own_n0 K99.old) hd
    have ne_s_d : s ≠ d := own_ne2 S_s.lt hd
    have ne_e_d : e ≠ d := own_ne2 S_s.blt hd
    have ne_a99_d : a99 ≠ d := own_ne2 X_a99.lt hd
    replace sf_a99 := tr100 a99 X_a99.lt sf_a99
    replace S_s := S_s.keep KQ (ninS ne_s_a99 nin0) (ninS ne_e_a99 nin0)
    replace X_a99 := q1
    replace F_a99_value := q2
    replace F_a99_coder := q3
    replace F_a99_count := q4
    show Goes p_.tables e_ below_ _ (T100.setTop (mkF m_ 20 #[.val (.ref s)] [(.ref a99)]))
    refine k_ldcS K100 (vs := ([43] : List Int32).map Value.int) (z := 1) (w86 hw) (own_wS hw) (by decide) ⟨by decide, by decide⟩ (by decide) (by decide) 4 (by decide) (by decide) d_prog_10_method_6_code_20 (pc' := 22) rfl (by decide) (by decide) ?_
    intro b101 T101 h101 s101 e101 ke101 K101 E101 tr101 X1 X2 X3 X4 nd101
    replace sf_a99 := tr101 a99 X_a99.lt sf_a99
    replace sf_d := tr101 d V_d.lt sf_d
    replace S_s := S_s.ext E101
    replace X_a99 := X_a99.ext E101
    replace F_a99_value := F_a99_value.ext E101
    replace F_a99_coder := F_a99_coder.ext E101
    replace F_a99_count := F_a99_count.ext E101
    replace V_d := V_d.ext E101
    have S_s101 : Str Z h101 s101 e101 ke101 0 1 (([43] : List Int32).map Value.int) := ⟨X1, X2, X3, X4⟩
    have ne_a99_s101 : a99 ≠ s101 := (nd101 a99 sf_a99).1
    have ne_a99_e101 : a99 ≠ e101 := (nd101 a99 sf_a99).2
    have ne_d_s101 : d ≠ s101 := (nd101 d sf_d).1
    have ne_d_e101 : d ≠ e101 := (nd101 d sf_d).2
    show Goes p_.tables e_ below_ _ (T101.setTop (mkF m_ 22 #[.val (.ref s)] [(.ref s101), (.ref a99)]))
    refine k_virtual K101 [(.ref s101)] [] 0 (w87 hw) (w88 hw) (w89 hw) (w90 hw) (w70 hw) (w91 hw) (notFace_of_selects (args := #[]) (mvT K101.hZ (w90 hw))) rfl (by decide) X_a99 (by decide) pd__Ljava_lang_String__Ljava_lang_StringBuilder__8660 (c_sapp l Z a0 hw hEW n0 a99 d s101 e101 kd ke101 0 1 0 _ [43] cs0 h101 K101.old X_a99 F_a99_value F_a99_coder F_a99_count ga_a99 rfl rfl (by decide) (by simp) V_d ga_d S_s101 (Ne.symm ne_d_e101) SC hcs ne_a99_d (Ne.symm ne_a99_s101) (Ne.symm ne_a99_e101)) d_prog_10_method_6_code_22 (fun x hx => by
      simp only [List.mem_cons, List.not_mem_nil, or_false] at hx
      rcases hx with rfl | rfl
      · exact ⟨X_a99.lt, sf_a99⟩
      · exact ⟨V_d.lt, sf_d⟩) (pc' := 25) rfl rfl rfl rfl (Nat.le_of_eq rfl) (by decide) (by decide) (by decide) (by decide) ?_
    intro b102 T102 h102 L102 v102 K102 tr102 q102
    obtain ⟨rfl, KQ2, ⟨q1, q2, q3, q4⟩, V2⟩ := q102
    replace sf_a99 := tr102 a99 X_a99.lt sf_a99
    replace sf_d := tr102 d V_d.lt sf_d
    replace S_s := S_s.keep KQ2 (ninS ne_s_a99 (ninS ne_s_d nin0)) (ninS ne_e_a99 (ninS ne_e_d nin0))
    replace X_a99 := q1
    replace F_a99_value := q2
    replace F_a99_coder := q3
    have F_a99_count : Fld Z h102 a99 "java/lang/AbstractStringBuilder" "count" "I" (.int 1) := q4
    have V_d : Arv Z h102 d kd .byte 16 (Value.int 43 :: List.replicate 15 (Value.int 0)) (.int 0) := V2
    show Goes p_.tables e_ below_ _ (T102.setTop (mkF m_ 25 #[.val (.ref s)] [(.ref a99)]))
    refine k_aloadN K102 d_prog_10_method_6_code_25 (pc' := 26) rfl rfl rfl ?_
    refine k_virtual K102 [(.ref s)] [] 0 (w87 hw) (w88 hw) (w89 hw) (w90 hw) (w70 hw) (w91 hw) (notFace_of_selects (args := #[]) (mvT K102.hZ (w90 hw))) rfl (by decide) X_a99 (by decide) pd__Ljava_lang_String__Ljava_lang_StringBuilder__8660 (c_sapp l Z a0 hw hEW n0 a99 d s e kd ke 1 z 1 _ xs cs0 h102 K102.old X_a99 F_a99_value F_a99_coder F_a99_count ga_a99 rfl hz (by omega) (by simp) V_d ga_d S_s ne_e_d SC hcs ne_a99_d ne_s_a99 ne_e_a99) d_prog_10_method_6_code_26 (fun x hx => by
      simp only [List.mem_cons, List.not_mem_nil, or_false] at hx
      rcases hx with rfl | rfl
      · exact ⟨X_a99.lt, sf_a99⟩
      · exact ⟨V_d.lt, sf_d⟩) (pc' := 29) rfl rfl rfl rfl (Nat.le_of_eq rfl) (by decide) (by decide) (by decide) (by decide) ?_
    intro b103 T103 h103 L103 v103 K103 tr103 q103
    obtain ⟨rfl, KQ3, ⟨X3, q2, q3, q4⟩, V3⟩ := q103
    rw [own_app2 xs hb] at V3
    show Goes p_.tables e_ below_ _ (T103.setTop (mkF m_ 29 #[.val (.ref s)] [(.ref a99)]))
    have hz1 : (1 + z).toInt = ((43 :: xs : List Int32).length : Nat) := by rw [own_sum (i := 1) rfl hz (by omega), List.length_cons]; omega
    refine k_virtual K103 [] [] 0 (w125 hw) (w126 hw) (w127 hw) (w128 hw) (w70 hw) (w129 hw) (notFace_of_selects (args := #[]) (mvT K103.hZ (w128 hw))) rfl (by decide) X3 (by decide) pd___Ljava_lang_String__9676 (c_ts l Z a0 hw hEW n0 a99 d kd (1 + z) (43 :: xs) _ cs0 h103 K103.old hz1 (by simp only [List.length_cons]; omega) V3 X3 q2 q3 q4 SC hcs) d_prog_10_method_6_code_29 nofun (pc' := 32) rfl rfl rfl rfl (Nat.le_of_eq rfl) (by decide) (by decide) (by decide) (by decide) ?_
    intro b104 T104 h104 L104 v104 K104 tr104 q104
    obtain ⟨r, t, kt, rfl, S⟩ := q104
    show Goes p_.tables e_ below_ _ (T104.setTop (mkF m_ 32 #[.val (.ref s)] [(.ref r)]))
    exact k_aret K104 d_prog_10_method_6_code_32 rfl rfl rfl (fun sf ht => Or.inr ⟨hq, r, t, kt, rfl, S⟩) (by decide) (by decide)
  · have hq : xs.head? = some 45 := Classical.byContradiction fun q => by rw [if_neg q] at hc6; exact hc6 rfl
    refine k_aloadN K98 d_prog_10_method_6_code_9 (pc' := 10) rfl rfl rfl ?_
    refine k_goto K98 d_prog_10_method_6_code_10 (by decide) (pc' := 32) (by decide) ?_
    exact k_aret K98 d_prog_10_method_6_code_32 rfl rfl rfl (fun sf ht => Or.inl ⟨hq, rfl, S_s⟩) (by decide) (by decide)
theorem d_jdk_42_method_66_code_0 : decode jdk_42_method_66_code 0 = .ok (.aload_n 0, 1) := by decide +kernel
theorem d_jdk_42_method_66_code_1 : decode jdk_42_method_66_code 1 = .ok (.aload_n 1, 1) := by decide +kernel
theorem d_jdk_42_method_66_code_2 : decode jdk_42_method_66_code 2 = .ok (.if_acmp .ne 5, 3) := by decide +kernel
theorem d_jdk_42_method_66_code_5 : decode jdk_42_method_66_code 5 = .ok (.iconst 1, 1) := by decide +kernel
theorem d_jdk_42_method_66_code_6 : decode jdk_42_method_66_code 6 = .ok (.ireturn, 1) := by decide +kernel
set_option maxRecDepth 65536 in
set_option maxHeartbeats 40000000 in
theorem c_eqs (l : Launch) (Z : State) (a0 : Array Value) (hw : Tb a0 Z) (hEW : EW Z a0 EL0) (n0 : Nat) (a : Addr) (h0 : Heap) (O : Old Z n0 h0)  :
    Ct l Z EL0 n0 (⟨"java/lang/String", "equals", "(Ljava/lang/Object;)Z"⟩ : MethodName) jdk_42_method_66_code 3 (some .boolean) ({ frames := 0, cells := 0, slots := 0, locals := 0 } : Room) #[(.ref a), (.ref a)] h0 [] (Pu (some (.int 1)) h0) := by
  refine Ct.of (a0 := a0) #[.val (.ref a), .val (.ref a), .unset] hEW O (plainFor_of_name pl_java_lang_String) (fun m => by first | (simp [entryFrame, mkF, argsToLocals, Value.category]; done) | rfl) ?_
  intro p_ e_ s_ m_ below_ meth_ c_ b_ T_ K hSP
  refine k_aloadN K d_jdk_42_method_66_code_0 (pc' := 1) rfl rfl rfl ?_
  refine k_aloadN K d_jdk_42_method_66_code_1 (pc' := 2) rfl rfl rfl ?_
  refine k_acmp_ne K rfl rfl d_jdk_42_method_66_code_2 (by decide) (pc' := 7) (pc2 := 5) (by decide) rfl (fun hc2 => ?_) (fun q => absurd rfl q)
  refine k_iconst K (1 : Int32) d_jdk_42_method_66_code_5 (pc' := 6) rfl rfl ?_
  exact k_nret K d_jdk_42_method_66_code_6 rfl (by simp) rfl (fun sf ht => ⟨rfl, rfl⟩) (by decide) (by decide)
theorem d_jdk_42_method_154_code_0 : decode jdk_42_method_154_code 0 = .ok (.getstatic 38, 3) := by decide +kernel
theorem d_jdk_42_method_154_code_3 : decode jdk_42_method_154_code 3 = .ok (.ifCond .eq 14, 3) := by decide +kernel
theorem d_jdk_42_method_154_code_6 : decode jdk_42_method_154_code 6 = .ok (.aload_n 0, 1) := by decide +kernel
theorem d_jdk_42_method_154_code_7 : decode jdk_42_method_154_code 7 = .ok (.getfield 15, 3) := by decide +kernel
theorem d_jdk_42_method_154_code_10 : decode jdk_42_method_154_code 10 = .ok (.ifCond .ne 7, 3) := by decide +kernel
theorem d_jdk_42_method_154_code_13 : decode jdk_42_method_154_code 13 = .ok (.iconst 1, 1) := by decide +kernel
theorem d_jdk_42_method_154_code_14 : decode jdk_42_method_154_code 14 = .ok (.goto 4, 3) := by decide +kernel
theorem d_jdk_42_method_154_code_18 : decode jdk_42_method_154_code 18 = .ok (.ireturn, 1) := by decide +kernel
set_option maxRecDepth 65536 in
set_option maxHeartbeats 40000000 in
theorem c_isl (l : Launch) (Z : State) (a0 : Array Value) (hw : Tb a0 Z) (hEW : EW Z a0 EL0) (n0 : Nat) (a b : Addr) (k : ClassId) (cd z : Int32) (vs : List Value) (cs0 : Int32) (h0 : Heap) (O : Old Z n0 h0) (S : Str Z h0 a b k cd z vs) (hcd : cd = 0) (SC : Sta Z Z.heap "java/lang/String" "COMPACT_STRINGS" "Z" (.int cs0)) (hcs : ¬ cs0 = 0) :
    Ct l Z EL0 n0 (⟨"java/lang/String", "isLatin1", "()Z"⟩ : MethodName) jdk_42_method_154_code 1 (some .boolean) ({ frames := 0, cells := 0, slots := 0, locals := 0 } : Room) #[(.ref a)] h0 [] (Pu (some (.int 1)) h0) := by
  refine Ct.of (a0 := a0) #[.val (.ref a)] hEW O (plainFor_of_name pl_java_lang_String) (fun m => by first | (simp [entryFrame, mkF, argsToLocals, Value.category]; done) | rfl) ?_
  intro p_ e_ s_ m_ below_ meth_ c_ b_ T_ K hSP
  subst hcd
  refine k_getS K (w21 hw) Via.refl SC d_jdk_42_method_154_code_0 (pc' := 3) rfl ?_
  intro T105 K105
  refine k_if_eq K105 d_jdk_42_method_154_code_3 (by decide) (pc' := 17) (pc2 := 6) (by decide) rfl (fun q => absurd q hcs) (fun hc3 => ?_)
  refine k_aloadN K105 d_jdk_42_method_154_code_6 (pc' := 7) rfl rfl rfl ?_
  refine k_getF K105 (w33 hw) Via.refl S.2.1 d_jdk_42_method_154_code_7 (pc' := 10) rfl ?_
  intro T106 K106
  refine k_if_ne K106 d_jdk_42_method_154_code_10 (by decide) (pc' := 17) (pc2 := 13) (by decide) rfl (fun q => absurd (by decide) q) (fun hc10 => ?_)
  refine k_iconst K106 (1 : Int32) d_jdk_42_method_154_code_13 (pc' := 14) rfl rfl ?_
  refine k_goto K106 d_jdk_42_method_154_code_14 (by decide) (pc' := 18) (by decide) ?_
  exact k_nret K106 d_jdk_42_method_154_code_18 rfl (by simp) rfl (fun sf ht => ⟨rfl, rfl⟩) (by decide) (by decide)
theorem d_jdk_41_method_11_code_0 : decode jdk_41_method_11_code 0 = .ok (.iload_n 0, 1) := by decide +kernel
theorem d_jdk_41_method_11_code_1 : decode jdk_41_method_11_code 1 = .ok (.ifCond .lt 8, 3) := by decide +kernel
theorem d_jdk_41_method_11_code_4 : decode jdk_41_method_11_code 4 = .ok (.iload_n 0, 1) := by decide +kernel
theorem d_jdk_41_method_11_code_5 : decode jdk_41_method_11_code 5 = .ok (.iload_n 1, 1) := by decide +kernel
theorem d_jdk_41_method_11_code_6 : decode jdk_41_method_11_code 6 = .ok (.if_icmp .lt 10, 3) := by decide +kernel
theorem d_jdk_41_method_11_code_16 : decode jdk_41_method_11_code 16 = .ok (.iload_n 0, 1) := by decide +kernel
theorem d_jdk_41_method_11_code_17 : decode jdk_41_method_11_code 17 = .ok (.ireturn, 1) := by decide +kernel
theorem pl_jdk_internal_util_Preconditions : plainName "jdk/internal/util/Preconditions" = true := by first | (simp [plainName, overriddenIn]; done) | decide +kernel
set_option maxRecDepth 65536 in
set_option maxHeartbeats 40000000 in
theorem c_pci (l : Launch) (Z : State) (a0 : Array Value) (hw : Tb a0 Z) (hEW : EW Z a0 EL0) (n0 : Nat) (i n : Int32) (ff : Value) (h0 : Heap) (O : Old Z n0 h0) (hff : ff.isRef = true) (h1 : ¬ i < 0) (h2 : i < n) :
    Ct l Z EL0 n0 (⟨"jdk/internal/util/Preconditions", "checkIndex", "(IILjava/util/function/BiFunction;)I"⟩ : MethodName) jdk_41_method_11_code 3 (some .int) ({ frames := 0, cells := 0, slots := 0, locals := 0 } : Room) #[(.int i), (.int n), ff] h0 [] (Pu (some (.int i)) h0) := by
  refine Ct.of (a0 := a0) #[.val (.int i), .val (.int n), .val ff] hEW O (plainFor_of_name pl_jdk_internal_util_Preconditions) (fun m => by rcases own_refc hff with rfl | ⟨r, rfl⟩ <;> first | (simp [entryFrame, mkF, argsToLocals, Value.category]; done) | rfl) ?_
  intro p_ e_ s_ m_ below_ meth_ c_ b_ T_ K hSP
  refine k_iloadN K d_jdk_41_method_11_code_0 (pc' := 1) rfl rfl ?_
  refine k_if_lt K d_jdk_41_method_11_code_1 (by decide) (pc' := 9) (pc2 := 4) (by decide) rfl (fun q => absurd q h1) (fun hc1 => ?_)
  refine k_iloadN K d_jdk_41_method_11_code_4 (pc' := 5) rfl rfl ?_
  refine k_iloadN K d_jdk_41_method_11_code_5 (pc' := 6) rfl rfl ?_
  refine k_icmp_lt K d_jdk_41_method_11_code_6 (by decide) (pc' := 16) (pc2 := 9) (by decide) rfl (fun hc6 => ?_) (fun q => absurd h2 q)
  refine k_iloadN K d_jdk_41_method_11_code_16 (pc' := 17) rfl rfl ?_
  exact k_iret K d_jdk_41_method_11_code_17 rfl (fun sf ht => ⟨rfl, rfl⟩) (by decide) (by decide)
theorem d_jdk_42_method_155_code_0 : decode jdk_42_method_155_code 0 = .ok (.iload_n 0, 1) := by decide +kernel
theorem d_jdk_42_method_155_code_1 : decode jdk_42_method_155_code 1 = .ok (.iload_n 1, 1) := by decide +kernel
theorem d_jdk_42_method_155_code_2 : decode jdk_42_method_155_code 2 = .ok (.getstatic 1053, 3) := by decide +kernel
theorem w188 {Z : State} {a0 : Array Value} (hw : Tb a0 Z) : (Jvm.Cond.fieldLink "java/lang/String" (1053 : Nat) "jdk/internal/util/Preconditions" "SIOOBE_FORMATTER" "Ljava/util/function/BiFunction;").before a0 Z = true := hw _ (List.mem_of_getElem? (i := 188) rfl)
theorem d_jdk_42_method_155_code_5 : decode jdk_42_method_155_code 5 = .ok (.invokestatic 1059, 3) := by decide +kernel
theorem w190 {Z : State} {a0 : Array Value} (hw : Tb a0 Z) : (Jvm.Cond.methodLink "java/lang/String" (1059 : Nat) ({ cls := "jdk/internal/util/Preconditions", name := "checkIndex", desc := "(IILjava/util/function/BiFunction;)I" } : Jvm.MethodName)).before a0 Z = true := hw _ (List.mem_of_getElem? (i := 190) rfl)
theorem w189 {Z : State} {a0 : Array Value} (hw : Tb a0 Z) : (Jvm.Cond.initialized "jdk/internal/util/Preconditions").before a0 Z = true := hw _ (List.mem_of_getElem? (i := 189) rfl)
theorem w192 {Z : State} {a0 : Array Value} (hw : Tb a0 Z) : (Jvm.Cond.code ({ cls := "jdk/internal/util/Preconditions", name := "checkIndex", desc := "(IILjava/util/function/BiFunction;)I" } : Jvm.MethodName) jdk_41_method_11_code (3 : Nat) (Option.some Jvm.ClassFile.FieldType.int)).before a0 Z = true := hw _ (List.mem_of_getElem? (i := 192) rfl)
theorem w191 {Z : State} {a0 : Array Value} (hw : Tb a0 Z) : (Jvm.Cond.static ({ cls := "jdk/internal/util/Preconditions", name := "checkIndex", desc := "(IILjava/util/function/BiFunction;)I" } : Jvm.MethodName)).before a0 Z = true := hw _ (List.mem_of_getElem? (i := 191) rfl)
theorem pd__IILjava_util_function_BiFunction__I_2091 : parseMethodDescriptor "(IILjava/util/function/BiFunction;)I" = some ⟨[.int, .int, (.object "java/util/function/BiFunction")], some .int⟩ := by decide +kernel
theorem d_jdk_42_method_155_code_8 : decode jdk_42_method_155_code 8 = .ok (.pop, 1) := by decide +kernel
theorem d_jdk_42_method_155_code_9 : decode jdk_42_method_155_code 9 = .ok (.return_, 1) := by decide +kernel
set_option maxRecDepth 65536 in
set_option maxHeartbeats 40000000 in
theorem c_sci (l : Launch) (Z : State) (a0 : Array Value) (hw : Tb a0 Z) (hEW : EW Z a0 EL0) (n0 : Nat) (i n : Int32) (ff : Value) (h0 : Heap) (O : Old Z n0 h0) (SF : Sta Z Z.heap "jdk/internal/util/Preconditions" "SIOOBE_FORMATTER" "Ljava/util/function/BiFunction;" ff) (hff : ff.isRef = true) (h1 : ¬ i < 0) (h2 : i < n) :
    Ct l Z EL0 n0 (⟨"java/lang/String", "checkIndex", "(II)V"⟩ : MethodName) jdk_42_method_155_code 2 none ({ frames := 1, cells := 0, slots := 0, locals := 14 } : Room) #[(.int i), (.int n)] h0 [] (Pu none h0) := by
  refine Ct.of (a0 := a0) #[.val (.int i), .val (.int n)] hEW O (plainFor_of_name pl_java_lang_String) (fun m => by first | (simp [entryFrame, mkF, argsToLocals, Value.category]; done) | rfl) ?_
  intro p_ e_ s_ m_ below_ meth_ c_ b_ T_ K hSP
  refine k_iloadN K d_jdk_42_method_155_code_0 (pc' := 1) rfl rfl ?_
  refine k_iloadN K d_jdk_42_method_155_code_1 (pc' := 2) rfl rfl ?_
  refine k_getS K (w188 hw) Via.refl SF d_jdk_42_method_155_code_2 (pc' := 5) rfl ?_
  intro T107 K107
  refine k_staticP K107 [(.int i), (.int n), ff] [] 0 (w190 hw) (w191 hw) (w189 hw) (w192 hw) (by decide) pd__IILjava_util_function_BiFunction__I_2091 (c_pci l Z a0 hw hEW n0 i n ff h0 K107.old hff h1 h2) d_jdk_42_method_155_code_5 nofun (pc' := 8) rfl rfl rfl rfl (Nat.le_of_eq rfl) (by decide) (by decide) (by decide) (by decide) ?_
  intro b108 T108 L108 K108 tr108
  show Goes p_.tables e_ below_ _ (T108.setTop (mkF m_ 8 #[.val (.int i), .val (.int n)] [(.int i)]))
  refine k_pop K108 d_jdk_42_method_155_code_8 (pc' := 9) rfl rfl ?_
  exact k_return K108 d_jdk_42_method_155_code_9 rfl (fun sf ht => ⟨rfl, rfl⟩) (by decide) (by decide)
theorem d_jdk_43_method_2_code_0 : decode jdk_43_method_2_code 0 = .ok (.iload_n 1, 1) := by decide +kernel
theorem d_jdk_43_method_2_code_1 : decode jdk_43_method_2_code 1 = .ok (.aload_n 0, 1) := by decide +kernel
theorem d_jdk_43_method_2_code_2 : decode jdk_43_method_2_code 2 = .ok (.arraylength, 1) := by decide +kernel
theorem d_jdk_43_method_2_code_3 : decode jdk_43_method_2_code 3 = .ok (.invokestatic 9, 3) := by decide +kernel
theorem w185 {Z : State} {a0 : Array Value} (hw : Tb a0 Z) : (Jvm.Cond.methodLink "java/lang/StringLatin1" (9 : Nat) ({ cls := "java/lang/String", name := "checkIndex", desc := "(II)V" } : Jvm.MethodName)).before a0 Z = true := hw _ (List.mem_of_getElem? (i := 185) rfl)
theorem w187 {Z : State} {a0 : Array Value} (hw : Tb a0 Z) : (Jvm.Cond.code ({ cls := "java/lang/String", name := "checkIndex", desc := "(II)V" } : Jvm.MethodName) jdk_42_method_155_code (2 : Nat) (Option.none : Option Jvm.ClassFile.FieldType)).before a0 Z = true := hw _ (List.mem_of_getElem? (i := 187) rfl)
theorem w186 {Z : State} {a0 : Array Value} (hw : Tb a0 Z) : (Jvm.Cond.static ({ cls := "java/lang/String", name := "checkIndex", desc := "(II)V" } : Jvm.MethodName)).before a0 Z = true := hw _ (List.mem_of_getElem? (i := 186) rfl)
theorem d_jdk_43_method_2_code_6 : decode jdk_43_method_2_code 6 = .ok (.aload_n 0, 1) := by decide +kernel
theorem d_jdk_43_method_2_code_7 : decode jdk_43_method_2_code 7 = .ok (.iload_n 1, 1) := by decide +kernel
theorem d_jdk_43_method_2_code_8 : decode jdk_43_method_2_code 8 = .ok (.baload, 1) := by decide +kernel
theorem d_jdk_43_method_2_code_9 : decode jdk_43_method_2_code 9 = .ok (.sipush 255, 3) := by decide +kernel
theorem d_jdk_43_method_2_code_12 : decode jdk_43_method_2_code 12 = .ok (.iand, 1) := by decide +kernel
theorem d_jdk_43_method_2_code_13 : decode jdk_43_method_2_code 13 = .ok (.i2c, 1) := by decide +kernel
theorem d_jdk_43_method_2_code_14 : decode jdk_43_method_2_code 14 = .ok (.ireturn, 1) := by decide +kernel
theorem pl_java_lang_StringLatin1 : plainName "java/lang/StringLatin1" = true := by first | (simp [plainName, overriddenIn]; done) | decide +kernel
set_option maxRecDepth 65536 in
set_option maxHeartbeats 40000000 in
theorem c_l1c (l : Launch) (Z : State) (a0 : Array Value) (hw : Tb a0 Z) (hEW : EW Z a0 EL0) (n0 : Nat) (e : Addr) (ke : ClassId) (z i x : Int32) (xs : List Int32) (ff : Value) (h0 : Heap) (O : Old Z n0 h0) (SF : Sta Z Z.heap "jdk/internal/util/Preconditions" "SIOOBE_FORMATTER" "Ljava/util/function/BiFunction;" ff) (hff : ff.isRef = true) (V_e : Arv Z h0 e ke .byte z (xs.map Value.int) (.int 0)) (h1 : ¬ i < 0) (h2 : i < z) (hv : (xs.map Value.int).getD i.toNatClampNeg (.int 0) = .int x) :
    Ct l Z EL0 n0 (⟨"java/lang/StringLatin1", "charAt", "([BI)C"⟩ : MethodName) jdk_43_method_2_code 2 (some .char) ({ frames := 2, cells := 0, slots := 0, locals := 27 } : Room) #[(.ref e), (.int i)] h0 [] (Pu (some (.int (x &&& 255).toUInt32.toUInt16.toUInt32.toInt32)) h0) := by
  refine Ct.of (a0 := a0) #[.val (.ref e), .val (.int i)] hEW O (plainFor_of_name pl_java_lang_StringLatin1) (fun m => by first | (simp [entryFrame, mkF, argsToLocals, Value.category]; done) | rfl) ?_
  intro p_ e_ s_ m_ below_ meth_ c_ b_ T_ K hSP
  refine k_iloadN K d_jdk_43_method_2_code_0 (pc' := 1) rfl rfl ?_
  refine k_aloadN K d_jdk_43_method_2_code_1 (pc' := 2) rfl rfl rfl ?_
  refine k_len K V_e d_jdk_43_method_2_code_2 (pc' := 3) rfl ?_
  refine k_staticP K [(.int i), (.int z)] [] 0 (w185 hw) (w186 hw) (w10 hw) (w187 hw) (by decide) pd__II_V_999 (c_sci l Z a0 hw hEW n0 i z ff h0 K.old SF hff h1 h2) d_jdk_43_method_2_code_3 nofun (pc' := 6) rfl rfl rfl rfl (Nat.le_of_eq rfl) (by decide) (by decide) (by decide) (by decide) ?_
  intro b109 T109 L109 K109 tr109
  show Goes p_.tables e_ below_ _ (T109.setTop (mkF m_ 6 #[.val (.ref e), .val (.int i)] []))
  refine k_aloadN K109 d_jdk_43_method_2_code_6 (pc' := 7) rfl rfl rfl ?_
  refine k_iloadN K109 d_jdk_43_method_2_code_7 (pc' := 8) rfl rfl ?_
  refine k_baload K109 (j := i) V_e ⟨h1, h2⟩ hv d_jdk_43_method_2_code_8 (pc' := 9) rfl ?_
  have hr := own_i2c (x &&& 255)
  refine k_sipush K109 (255 : Int32) d_jdk_43_method_2_code_9 (pc' := 12) rfl rfl ?_
  refine k_iand K109 d_jdk_43_method_2_code_12 (pc' := 13) rfl ?_
  refine k_i2c K109 d_jdk_43_method_2_code_13 (pc' := 14) rfl ?_
  exact k_nret K109 d_jdk_43_method_2_code_14 rfl (by simp) (own_narrowc hr.1 hr.2) (fun sf ht => ⟨rfl, rfl⟩) (by decide) (by decide)
theorem d_jdk_42_method_56_code_0 : decode jdk_42_method_56_code 0 = .ok (.aload_n 0, 1) := by decide +kernel
theorem d_jdk_42_method_56_code_1 : decode jdk_42_method_56_code 1 = .ok (.invokevirtual 492, 3) := by decide +kernel
theorem w176 {Z : State} {a0 : Array Value} (hw : Tb a0 Z) : (Jvm.Cond.methodLink "java/lang/String" (492 : Nat) ({ cls := "java/lang/String", name := "isLatin1", desc := "()Z" } : Jvm.MethodName)).before a0 Z = true := hw _ (List.mem_of_getElem? (i := 176) rfl)
theorem w180 {Z : State} {a0 : Array Value} (hw : Tb a0 Z) : (Jvm.Cond.code ({ cls := "java/lang/String", name := "isLatin1", desc := "()Z" } : Jvm.MethodName) jdk_42_method_154_code (1 : Nat) (Option.some Jvm.ClassFile.FieldType.boolean)).before a0 Z = true := hw _ (List.mem_of_getElem? (i := 180) rfl)
theorem w179 {Z : State} {a0 : Array Value} (hw : Tb a0 Z) : (Jvm.Cond.selects "java/lang/String" ({ cls := "java/lang/String", name := "isLatin1", desc := "()Z" } : Jvm.MethodName) ({ cls := "java/lang/String", name := "isLatin1", desc := "()Z" } : Jvm.MethodName)).before a0 Z = true := hw _ (List.mem_of_getElem? (i := 179) rfl)
theorem w177 {Z : State} {a0 : Array Value} (hw : Tb a0 Z) : (Jvm.Cond.declares ({ cls := "java/lang/String", name := "isLatin1", desc := "()Z" } : Jvm.MethodName)).before a0 Z = true := hw _ (List.mem_of_getElem? (i := 177) rfl)
theorem w178 {Z : State} {a0 : Array Value} (hw : Tb a0 Z) : (Jvm.Cond.instanceMethod ({ cls := "java/lang/String", name := "isLatin1", desc := "()Z" } : Jvm.MethodName)).before a0 Z = true := hw _ (List.mem_of_getElem? (i := 178) rfl)
theorem d_jdk_42_method_56_code_4 : decode jdk_42_method_56_code 4 = .ok (.ifCond .eq 12, 3) := by decide +kernel
theorem d_jdk_42_method_56_code_7 : decode jdk_42_method_56_code 7 = .ok (.aload_n 0, 1) := by decide +kernel
theorem d_jdk_42_method_56_code_8 : decode jdk_42_method_56_code 8 = .ok (.getfield 9, 3) := by decide +kernel
theorem d_jdk_42_method_56_code_11 : decode jdk_42_method_56_code 11 = .ok (.iload_n 1, 1) := by decide +kernel
theorem d_jdk_42_method_56_code_12 : decode jdk_42_method_56_code 12 = .ok (.invokestatic 495, 3) := by decide +kernel
theorem w181 {Z : State} {a0 : Array Value} (hw : Tb a0 Z) : (Jvm.Cond.methodLink "java/lang/String" (495 : Nat) ({ cls := "java/lang/StringLatin1", name := "charAt", desc := "([BI)C" } : Jvm.MethodName)).before a0 Z = true := hw _ (List.mem_of_getElem? (i := 181) rfl)
theorem w183 {Z : State} {a0 : Array Value} (hw : Tb a0 Z) : (Jvm.Cond.initialized "java/lang/StringLatin1").before a0 Z = true := hw _ (List.mem_of_getElem? (i := 183) rfl)
theorem w184 {Z : State} {a0 : Array Value} (hw : Tb a0 Z) : (Jvm.Cond.code ({ cls := "java/lang/StringLatin1", name := "charAt", desc := "([BI)C" } : Jvm.MethodName) jdk_43_method_2_code (2 : Nat) (Option.some Jvm.ClassFile.FieldType.char)).before a0 Z = true := hw _ (List.mem_of_getElem? (i := 184) rfl)
theorem w182 {Z : State} {a0 : Array Value} (hw : Tb a0 Z) : (Jvm.Cond.static ({ cls := "java/lang/StringLatin1", name := "charAt", desc := "([BI)C" } : Jvm.MethodName)).before a0 Z = true := hw _ (List.mem_of_getElem? (i := 182) rfl)
theorem pd___BI_C_1319 : parseMethodDescriptor "([BI)C" = some ⟨[(.array .byte), .int], some .char⟩ := by decide +kernel
theorem d_jdk_42_method_56_code_15 : decode jdk_42_method_56_code 15 = .ok (.ireturn, 1) := by decide +kernel
set_option maxRecDepth 65536 in
set_option maxHeartbeats 40000000 in
theorem c_charAt (l : Launch) (Z : State) (a0 : Array Value) (hw : Tb a0 Z) (hEW : EW Z a0 EL0) (n0 : Nat) (a e : Addr) (ke : ClassId) (z i x : Int32) (xs : List Int32) (ff : Value) (cs0 : Int32) (h0 : Heap) (O : Old Z n0 h0) (SF : Sta Z Z.heap "jdk/internal/util/Preconditions" "SIOOBE_FORMATTER" "Ljava/util/function/BiFunction;" ff) (hff : ff.isRef = true) (S : Str Z h0 a e ke 0 z (xs.map Value.int)) (h1 : ¬ i < 0) (h2 : i < z) (hv : (xs.map Value.int).getD i.toNatClampNeg (.int 0) = .int x) (SC : Sta Z Z.heap "java/lang/String" "COMPACT_STRINGS" "Z" (.int cs0)) (hcs : ¬ cs0 = 0) :
    Ct l Z EL0 n0 (⟨"java/lang/String", "charAt", "(I)C"⟩ : MethodName) jdk_42_method_56_code 2 (some .char) ({ frames := 3, cells := 0, slots := 0, locals := 40 } : Room) #[(.ref a), (.int i)] h0 [] (Pu (some (.int (x &&& 255).toUInt32.toUInt16.toUInt32.toInt32)) h0) := by
  refine Ct.of (a0 := a0) #[.val (.ref a), .val (.int i)] hEW O (plainFor_of_name pl_java_lang_String) (fun m => by first | (simp [entryFrame, mkF, argsToLocals, Value.category]; done) | rfl) ?_
  intro p_ e_ s_ m_ below_ meth_ c_ b_ T_ K hSP
  refine k_aloadN K d_jdk_42_method_56_code_0 (pc' := 1) rfl rfl rfl ?_
  refine k_virtualP K [] [] 0 (w176 hw) (w177 hw) (w178 hw) (w179 hw) (w10 hw) (w180 hw) (notFace_of_selects (args := #[]) (mvT K.hZ (w179 hw))) rfl (by decide) S.1 (by decide) pd___Z_392 (c_isl l Z a0 hw hEW n0 a e ke 0 z _ cs0 h0 K.old S rfl SC hcs) d_jdk_42_method_56_code_1 nofun (pc' := 4) rfl rfl rfl rfl (Nat.le_of_eq rfl) (by decide) (by decide) (by decide) (by decide) ?_
  intro b110 T110 L110 K110 tr110
  show Goes p_.tables e_ below_ _ (T110.setTop (mkF m_ 4 #[.val (.ref a), .val (.int i)] [(.int (1 : Int32))]))
  refine k_if_eq K110 d_jdk_42_method_56_code_4 (by decide) (pc' := 16) (pc2 := 7) (by decide) rfl (fun q => absurd q (by decide)) (fun hc4 => ?_)
  refine k_aloadN K110 d_jdk_42_method_56_code_7 (pc' := 8) rfl rfl rfl ?_
  refine k_getF K110 (w35 hw) Via.refl S.2.2.1 d_jdk_42_method_56_code_8 (pc' := 11) rfl ?_
  intro T111 K111
  refine k_iloadN K111 d_jdk_42_method_56_code_11 (pc' := 12) rfl rfl ?_
  refine k_staticP K111 [(.ref e), (.int i)] [] 0 (w181 hw) (w182 hw) (w183 hw) (w184 hw) (by decide) pd___BI_C_1319 (c_l1c l Z a0 hw hEW n0 e ke z i x xs ff h0 K111.old SF hff S.2.2.2 h1 h2 hv) d_jdk_42_method_56_code_12 nofun (pc' := 15) rfl rfl rfl rfl (Nat.le_of_eq rfl) (by decide) (by decide) (by decide) (by decide) ?_
  intro b112 T112 L112 K112 tr112
  show Goes p_.tables e_ below_ _ (T112.setTop (mkF m_ 15 #[.val (.ref a), .val (.int i)] [(.int (x &&& 255).toUInt32.toUInt16.toUInt32.toInt32)]))
  have hr := own_i2c (x &&& 255)
  exact k_nret K112 d_jdk_42_method_56_code_15 rfl (by simp) (own_narrowc hr.1 hr.2) (fun sf ht => ⟨rfl, rfl⟩) (by decide) (by decide)
theorem w0 {Z : State} {a0 : Array Value} (hw : Tb a0 Z) : (Jvm.Cond.methodLink "com/example/warm_tariff/warmtariff/FiguresSignedPinLaw" (7 : Nat) ({ cls := "com/example/warm_tariff/warmtariff/FiguresSignedPinLaw", name := "pick", desc := "(I)C" } : Jvm.MethodName)).before a0 Z = true := hw _ (List.mem_of_getElem? (i := 0) rfl)
theorem w2 {Z : State} {a0 : Array Value} (hw : Tb a0 Z) : (Jvm.Cond.initialized "com/example/warm_tariff/warmtariff/FiguresSignedPinLaw").before a0 Z = true := hw _ (List.mem_of_getElem? (i := 2) rfl)
theorem w3 {Z : State} {a0 : Array Value} (hw : Tb a0 Z) : (Jvm.Cond.code ({ cls := "com/example/warm_tariff/warmtariff/FiguresSignedPinLaw", name := "pick", desc := "(I)C" } : Jvm.MethodName) method_3_code (1 : Nat) (Option.some Jvm.ClassFile.FieldType.char)).before a0 Z = true := hw _ (List.mem_of_getElem? (i := 3) rfl)
theorem w1 {Z : State} {a0 : Array Value} (hw : Tb a0 Z) : (Jvm.Cond.static ({ cls := "com/example/warm_tariff/warmtariff/FiguresSignedPinLaw", name := "pick", desc := "(I)C" } : Jvm.MethodName)).before a0 Z = true := hw _ (List.mem_of_getElem? (i := 1) rfl)
theorem pd__I_C_577 : parseMethodDescriptor "(I)C" = some ⟨[.int], some .char⟩ := by decide +kernel
theorem w4 {Z : State} {a0 : Array Value} (hw : Tb a0 Z) : (Jvm.Cond.methodLink "com/example/warm_tariff/warmtariff/FiguresSignedPinLaw" (13 : Nat) ({ cls := "com/example/warm_tariff/warmtariff/FiguresSignedPinLaw", name := "make", desc := "(ICCC)Ljava/lang/String;" } : Jvm.MethodName)).before a0 Z = true := hw _ (List.mem_of_getElem? (i := 4) rfl)
theorem w6 {Z : State} {a0 : Array Value} (hw : Tb a0 Z) : (Jvm.Cond.code ({ cls := "com/example/warm_tariff/warmtariff/FiguresSignedPinLaw", name := "make", desc := "(ICCC)Ljava/lang/String;" } : Jvm.MethodName) method_4_code (5 : Nat) (Option.some (Jvm.ClassFile.FieldType.object "java/lang/String"))).before a0 Z = true := hw _ (List.mem_of_getElem? (i := 6) rfl)
theorem w5 {Z : State} {a0 : Array Value} (hw : Tb a0 Z) : (Jvm.Cond.static ({ cls := "com/example/warm_tariff/warmtariff/FiguresSignedPinLaw", name := "make", desc := "(ICCC)Ljava/lang/String;" } : Jvm.MethodName)).before a0 Z = true := hw _ (List.mem_of_getElem? (i := 5) rfl)
theorem pd__ICCC_Ljava_lang_String__7601 : parseMethodDescriptor "(ICCC)Ljava/lang/String;" = some ⟨[.int, .char, .char, .char], some (.object "java/lang/String")⟩ := by decide +kernel
theorem w37 {Z : State} {a0 : Array Value} (hw : Tb a0 Z) : (Jvm.Cond.methodLink "com/example/warm_tariff/warmtariff/FiguresSignedPinLaw" (17 : Nat) ({ cls := "com/example/warm_tariff/warmtariff/Figures", name := "signed", desc := "(Ljava/lang/String;)Ljava/lang/String;" } : Jvm.MethodName)).before a0 Z = true := hw _ (List.mem_of_getElem? (i := 37) rfl)
theorem w39 {Z : State} {a0 : Array Value} (hw : Tb a0 Z) : (Jvm.Cond.initialized "com/example/warm_tariff/warmtariff/Figures").before a0 Z = true := hw _ (List.mem_of_getElem? (i := 39) rfl)
theorem w40 {Z : State} {a0 : Array Value} (hw : Tb a0 Z) : (Jvm.Cond.code ({ cls := "com/example/warm_tariff/warmtariff/Figures", name := "signed", desc := "(Ljava/lang/String;)Ljava/lang/String;" } : Jvm.MethodName) prog_10_method_6_code (1 : Nat) (Option.some (Jvm.ClassFile.FieldType.object "java/lang/String"))).before a0 Z = true := hw _ (List.mem_of_getElem? (i := 40) rfl)
theorem w38 {Z : State} {a0 : Array Value} (hw : Tb a0 Z) : (Jvm.Cond.static ({ cls := "com/example/warm_tariff/warmtariff/Figures", name := "signed", desc := "(Ljava/lang/String;)Ljava/lang/String;" } : Jvm.MethodName)).before a0 Z = true := hw _ (List.mem_of_getElem? (i := 38) rfl)
theorem pd__Ljava_lang_String__Ljava_lang_String__8908 : parseMethodDescriptor "(Ljava/lang/String;)Ljava/lang/String;" = some ⟨[(.object "java/lang/String")], some (.object "java/lang/String")⟩ := by decide +kernel
theorem w170 {Z : State} {a0 : Array Value} (hw : Tb a0 Z) : (Jvm.Cond.methodLink "com/example/warm_tariff/warmtariff/FiguresSignedPinLaw" (29 : Nat) ({ cls := "java/lang/String", name := "length", desc := "()I" } : Jvm.MethodName)).before a0 Z = true := hw _ (List.mem_of_getElem? (i := 170) rfl)
theorem w171 {Z : State} {a0 : Array Value} (hw : Tb a0 Z) : (Jvm.Cond.methodLink "com/example/warm_tariff/warmtariff/FiguresSignedPinLaw" (33 : Nat) ({ cls := "java/lang/String", name := "charAt", desc := "(I)C" } : Jvm.MethodName)).before a0 Z = true := hw _ (List.mem_of_getElem? (i := 171) rfl)
theorem w175 {Z : State} {a0 : Array Value} (hw : Tb a0 Z) : (Jvm.Cond.code ({ cls := "java/lang/String", name := "charAt", desc := "(I)C" } : Jvm.MethodName) jdk_42_method_56_code (2 : Nat) (Option.some Jvm.ClassFile.FieldType.char)).before a0 Z = true := hw _ (List.mem_of_getElem? (i := 175) rfl)
theorem w174 {Z : State} {a0 : Array Value} (hw : Tb a0 Z) : (Jvm.Cond.selects "java/lang/String" ({ cls := "java/lang/String", name := "charAt", desc := "(I)C" } : Jvm.MethodName) ({ cls := "java/lang/String", name := "charAt", desc := "(I)C" } : Jvm.MethodName)).before a0 Z = true := hw _ (List.mem_of_getElem? (i := 174) rfl)
theorem w172 {Z : State} {a0 : Array Value} (hw : Tb a0 Z) : (Jvm.Cond.declares ({ cls := "java/lang/String", name := "charAt", desc := "(I)C" } : Jvm.MethodName)).before a0 Z = true := hw _ (List.mem_of_getElem? (i := 172) rfl)
theorem w173 {Z : State} {a0 : Array Value} (hw : Tb a0 Z) : (Jvm.Cond.instanceMethod ({ cls := "java/lang/String", name := "charAt", desc := "(I)C" } : Jvm.MethodName)).before a0 Z = true := hw _ (List.mem_of_getElem? (i := 173) rfl)
theorem w194 {Z : State} {a0 : Array Value} (hw : Tb a0 Z) : (Jvm.Cond.methodLink "com/example/warm_tariff/warmtariff/FiguresSignedPinLaw" (23 : Nat) ({ cls := "java/lang/String", name := "equals", desc := "(Ljava/lang/Object;)Z" } : Jvm.MethodName)).before a0 Z = true := hw _ (List.mem_of_getElem? (i := 194) rfl)
theorem w198 {Z : State} {a0 : Array Value} (hw : Tb a0 Z) : (Jvm.Cond.code ({ cls := "java/lang/String", name := "equals", desc := "(Ljava/lang/Object;)Z" } : Jvm.MethodName) jdk_42_method_66_code (3 : Nat) (Option.some Jvm.ClassFile.FieldType.boolean)).before a0 Z = true := hw _ (List.mem_of_getElem? (i := 198) rfl)
theorem w197 {Z : State} {a0 : Array Value} (hw : Tb a0 Z) : (Jvm.Cond.selects "java/lang/String" ({ cls := "java/lang/String", name := "equals", desc := "(Ljava/lang/Object;)Z" } : Jvm.MethodName) ({ cls := "java/lang/String", name := "equals", desc := "(Ljava/lang/Object;)Z" } : Jvm.MethodName)).before a0 Z = true := hw _ (List.mem_of_getElem? (i := 197) rfl)
theorem w195 {Z : State} {a0 : Array Value} (hw : Tb a0 Z) : (Jvm.Cond.declares ({ cls := "java/lang/String", name := "equals", desc := "(Ljava/lang/Object;)Z" } : Jvm.MethodName)).before a0 Z = true := hw _ (List.mem_of_getElem? (i := 195) rfl)
theorem w196 {Z : State} {a0 : Array Value} (hw : Tb a0 Z) : (Jvm.Cond.instanceMethod ({ cls := "java/lang/String", name := "equals", desc := "(Ljava/lang/Object;)Z" } : Jvm.MethodName)).before a0 Z = true := hw _ (List.mem_of_getElem? (i := 196) rfl)
theorem pd__Ljava_lang_Object__Z_194 : parseMethodDescriptor "(Ljava/lang/Object;)Z" = some ⟨[(.object "java/lang/Object")], some .boolean⟩ := by decide +kernel
set_option maxRecDepth 65536 in
set_option maxHeartbeats 40000000 in
theorem c_law (l : Launch) (Z : State) (a0 : Array Value) (hw : Tb a0 Z) (hEW : EW Z a0 EL0) (n0 : Nat) (xa xb xc xn : Int32) (ff : Value) (cs0 : Int32) (h0 : Heap) (O : Old Z n0 h0) (SF : Sta Z Z.heap "jdk/internal/util/Preconditions" "SIOOBE_FORMATTER" "Ljava/util/function/BiFunction;" ff) (hff : ff.isRef = true) (SC : Sta Z Z.heap "java/lang/String" "COMPACT_STRINGS" "Z" (.int cs0)) (hcs : ¬ cs0 = 0) :
    Ct l Z EL0 n0 x code maxLocals ret room_1 #[(.int xa), (.int xb), (.int xc), (.int xn)] h0 [] (fun v _ _ => v = some (.int 1) ∧ True) := by
  refine Ct.of (a0 := a0) #[.val (.int xa), .val (.int xb), .val (.int xc), .val (.int xn), .unset, .unset, .unset, .unset, .unset, .unset] hEW O (plainFor_of_name pl_com_example_warm_tariff_warmtariff_FiguresSignedPinLaw) (fun m => by first | (simp [entryFrame, mkF, argsToLocals, Value.category, maxLocals]; done) | rfl) ?_
  intro p_ e_ s_ m_ below_ meth_ c_ b_ T_ K hSP
  have hA := own_pk xa
  have hB := own_pk xb
  have hC := own_pk xc
  rcases own_and3 xn with hn | hn | hn | hn
  · refine k_iloadN K at_0 (pc' := 1) rfl rfl ?_
    refine k_iconst K (3 : Int32) at_1 (pc' := 2) rfl rfl ?_
    refine k_iand K at_2 (pc' := 3) rfl ?_
    rw [hn]
    refine k_istore K at_3 (pc' := 5) (L' := #[.val (.int xa), .val (.int xb), .val (.int xc), .val (.int xn), .val (.int (0 : Int32)), .unset, .unset, .unset, .unset, .unset]) rfl rfl ?_
    refine k_iloadN K at_5 (pc' := 6) rfl rfl ?_
    refine k_staticP K [(.int xa)] [] 0 (w0 hw) (w1 hw) (w2 hw) (w3 hw) (by decide) pd__I_C_577 (c_pick l Z a0 hw hEW n0 xa h0 K.old ) at_6 nofun (pc' := 9) rfl rfl rfl rfl (Nat.le_of_eq rfl) (by decide) (by decide) (by decide) (by decide) ?_
    intro b113 T113 L113 K113 tr113
    show Goes p_.tables e_ below_ _ (T113.setTop (mkF m_ 9 #[.val (.int xa), .val (.int xb), .val (.int xc), .val (.int xn), .val (.int (0 : Int32)), .unset, .unset, .unset, .unset, .unset] [(.int (pk xa))]))
    refine k_istore K113 at_9 (pc' := 11) (L' := #[.val (.int xa), .val (.int xb), .val (.int xc), .val (.int xn), .val (.int (0 : Int32)), .val (.int (pk xa)), .unset, .unset, .unset, .unset]) rfl rfl ?_
    refine k_iloadN K113 at_11 (pc' := 12) rfl rfl ?_
    refine k_staticP K113 [(.int xb)] [] 0 (w0 hw) (w1 hw) (w2 hw) (w3 hw) (by decide) pd__I_C_577 (c_pick l Z a0 hw hEW n0 xb h0 K113.old ) at_12 nofun (pc' := 15) rfl rfl rfl rfl (Nat.le_of_eq rfl) (by decide) (by decide) (by decide) (by decide) ?_
    intro b114 T114 L114 K114 tr114
    show Goes p_.tables e_ below_ _ (T114.setTop (mkF m_ 15 #[.val (.int xa), .val (.int xb), .val (.int xc), .val (.int xn), .val (.int (0 : Int32)), .val (.int (pk xa)), .unset, .unset, .unset, .unset] [(.int (pk xb))]))
    refine k_istore K114 at_15 (pc' := 17) (L' := #[.val (.int xa), .val (.int xb), .val (.int xc), .val (.int xn), .val (.int (0 : Int32)), .val (.int (pk xa)), .val (.int (pk xb)), .unset, .unset, .unset]) rfl rfl ?_
    refine k_iloadN K114 at_17 (pc' := 18) rfl rfl ?_
    refine k_staticP K114 [(.int xc)] [] 0 (w0 hw) (w1 hw) (w2 hw) (w3 hw) (by decide) pd__I_C_577 (c_pick l Z a0 hw hEW n0 xc h0 K114.old ) at_18 nofun (pc' := 21) rfl rfl rfl rfl (Nat.le_of_eq rfl) (by decide) (by decide) (by decide) (by decide) ?_
    intro b115 T115 L115 K115 tr115
    show Goes p_.tables e_ below_ _ (T115.setTop (mkF m_ 21 #[.val (.int xa), .val (.int xb), .val (.int xc), .val (.int xn), .val (.int (0 : Int32)), .val (.int (pk xa)), .val (.int (pk xb)), .unset, .unset, .unset] [(.int (pk xc))]))
    refine k_istore K115 at_21 (pc' := 23) (L' := #[.val (.int xa), .val (.int xb), .val (.int xc), .val (.int xn), .val (.int (0 : Int32)), .val (.int (pk xa)), .val (.int (pk xb)), .val (.int (pk xc)), .unset, .unset]) rfl rfl ?_
    refine k_iload K115 at_23 (pc' := 25) rfl rfl ?_
    refine k_iload K115 at_25 (pc' := 27) rfl rfl ?_
    refine k_iload K115 at_27 (pc' := 29) rfl rfl ?_
    refine k_iload K115 at_29 (pc' := 31) rfl rfl ?_
    refine k_static K115 [(.int (0 : Int32)), (.int (pk xa)), (.int (pk xb)), (.int (pk xc))] [] 0 (w4 hw) (w5 hw) (w2 hw) (w6 hw) (by decide) pd__ICCC_Ljava_lang_String__7601 (c_make0 l Z a0 hw hEW n0 (pk xa) (pk xb) (pk xc) cs0 h0 K115.old hA hB hC SC hcs) at_31 nofun (pc' := 34) rfl rfl rfl rfl (Nat.le_of_eq rfl) (by decide) (by decide) (by decide) (by decide) ?_
    intro b116 T116 h116 L116 v116 K116 tr116 q116
    obtain ⟨s, e, ke, rfl, S_s⟩ := q116
    show Goes p_.tables e_ below_ _ (T116.setTop (mkF m_ 34 #[.val (.int xa), .val (.int xb), .val (.int xc), .val (.int xn), .val (.int (0 : Int32)), .val (.int (pk xa)), .val (.int (pk xb)), .val (.int (pk xc)), .unset, .unset] [(.ref s)]))
    refine k_astore K116 at_34 (pc' := 36) (L' := #[.val (.int xa), .val (.int xb), .val (.int xc), .val (.int xn), .val (.int (0 : Int32)), .val (.int (pk xa)), .val (.int (pk xb)), .val (.int (pk xc)), .val (.ref s), .unset]) rfl rfl rfl ?_
    refine k_aload K116 at_36 (pc' := 38) rfl rfl rfl ?_
    refine k_static K116 [(.ref s)] [] 0 (w37 hw) (w38 hw) (w39 hw) (w40 hw) (by decide) pd__Ljava_lang_String__Ljava_lang_String__8908 (c_signed l Z a0 hw hEW n0 s e ke 0 ([] : List Int32) cs0 h116 K116.old rfl (by simp) S_s SC hcs) at_38 nofun (pc' := 41) rfl rfl rfl rfl (Nat.le_of_eq rfl) (by decide) (by decide) (by decide) (by decide) ?_
    intro b117 T117 h117 L117 v117 K117 tr117 q117
    have Q := q117
    rcases Q with ⟨hh, rfl, S_r⟩ | ⟨hh, r, t, kt, rfl, S_r⟩
    · cases hh
    · skip
      show Goes p_.tables e_ below_ _ (T117.setTop (mkF m_ 41 #[.val (.int xa), .val (.int xb), .val (.int xc), .val (.int xn), .val (.int (0 : Int32)), .val (.int (pk xa)), .val (.int (pk xb)), .val (.int (pk xc)), .val (.ref s), .unset] [(.ref r)]))
      refine k_astore K117 at_41 (pc' := 43) (L' := #[.val (.int xa), .val (.int xb), .val (.int xc), .val (.int xn), .val (.int (0 : Int32)), .val (.int (pk xa)), .val (.int (pk xb)), .val (.int (pk xc)), .val (.ref s), .val (.ref r)]) rfl rfl rfl ?_
      refine k_aload K117 at_43 (pc' := 45) rfl rfl rfl ?_
      refine k_ifnonnull K117 rfl at_45 (by decide) (pc' := 50) (pc2 := 48) (by decide) rfl (fun hc45 => ?_) (fun q => absurd q (by simp))
      refine k_iload K117 at_50 (pc' := 52) rfl rfl ?_
      refine k_if_le K117 at_52 (by decide) (pc' := 70) (pc2 := 55) (by decide) rfl (fun hc52 => ?_) (fun q => absurd q (by decide))
      refine k_aload K117 at_70 (pc' := 72) rfl rfl rfl ?_
      refine k_virtualP K117 [] [] 0 (w170 hw) (w55 hw) (w56 hw) (w57 hw) (w10 hw) (w58 hw) (notFace_of_selects (args := #[]) (mvT K117.hZ (w57 hw))) rfl (by decide) S_r.1 (by decide) pd___I_341 (c_length l Z a0 hw hEW n0 r t kt 0 (1 + 0) _ cs0 h117 K117.old S_r (Or.inl rfl) SC hcs) at_72 nofun (pc' := 75) rfl rfl rfl rfl (Nat.le_of_eq rfl) (by decide) (by decide) (by decide) (by decide) ?_
      intro b118 T118 L118 K118 tr118
      show Goes p_.tables e_ below_ _ (T118.setTop (mkF m_ 75 #[.val (.int xa), .val (.int xb), .val (.int xc), .val (.int xn), .val (.int (0 : Int32)), .val (.int (pk xa)), .val (.int (pk xb)), .val (.int (pk xc)), .val (.ref s), .val (.ref r)] [(.int ((1 + 0 : Int32) >>> ((0 : Int32) &&& 31)))]))
      rw [own_shr0]
      refine k_iload K118 at_75 (pc' := 77) rfl rfl ?_
      refine k_iconst K118 (1 : Int32) at_77 (pc' := 78) rfl rfl ?_
      refine k_iadd K118 at_78 (pc' := 79) rfl ?_
      refine k_icmp_eq K118 at_79 (by decide) (pc' := 84) (pc2 := 82) (by decide) rfl (fun hc79 => ?_) (fun q => absurd (by decide) q)
      refine k_aload K118 at_84 (pc' := 86) rfl rfl rfl ?_
      refine k_iconst K118 (0 : Int32) at_86 (pc' := 87) rfl rfl ?_
      refine k_virtualP K118 [(.int (0 : Int32))] [] 0 (w171 hw) (w172 hw) (w173 hw) (w174 hw) (w10 hw) (w175 hw) (notFace_of_selects (args := #[]) (mvT K118.hZ (w174 hw))) rfl (by decide) S_r.1 (by decide) pd__I_C_577 (c_charAt l Z a0 hw hEW n0 r t kt (1 + 0) 0 43 (43 :: ([] : List Int32)) ff cs0 h117 K118.old SF hff S_r (by decide) (by decide) rfl SC hcs) at_87 nofun (pc' := 90) rfl rfl rfl rfl (Nat.le_of_eq rfl) (by decide) (by decide) (by decide) (by decide) ?_
      intro b119 T119 L119 K119 tr119
      show Goes p_.tables e_ below_ _ (T119.setTop (mkF m_ 90 #[.val (.int xa), .val (.int xb), .val (.int xc), .val (.int xn), .val (.int (0 : Int32)), .val (.int (pk xa)), .val (.int (pk xb)), .val (.int (pk xc)), .val (.ref s), .val (.ref r)] [(.int ((43 : Int32) &&& 255).toUInt32.toUInt16.toUInt32.toInt32)]))
      refine k_bipush K119 (43 : Int32) at_90 (pc' := 92) rfl rfl ?_
      refine k_icmp_eq K119 at_92 (by decide) (pc' := 97) (pc2 := 95) (by decide) rfl (fun hc92 => ?_) (fun q => absurd (by decide) q)
      refine k_iload K119 at_97 (pc' := 99) rfl rfl ?_
      refine k_if_le K119 at_99 (by decide) (pc' := 115) (pc2 := 102) (by decide) rfl (fun hc99 => ?_) (fun q => absurd q (by decide))
      refine k_iload K119 at_115 (pc' := 117) rfl rfl ?_
      refine k_iconst K119 (1 : Int32) at_117 (pc' := 118) rfl rfl ?_
      refine k_icmp_le K119 at_118 (by decide) (pc' := 134) (pc2 := 121) (by decide) rfl (fun hc118 => ?_) (fun q => absurd q (by decide))
      refine k_iload K119 at_134 (pc' := 136) rfl rfl ?_
      refine k_iconst K119 (2 : Int32) at_136 (pc' := 137) rfl rfl ?_
      refine k_icmp_le K119 at_137 (by decide) (pc' := 153) (pc2 := 140) (by decide) rfl (fun hc137 => ?_) (fun q => absurd q (by decide))
      refine k_iconst K119 (1 : Int32) at_153 (pc' := 154) rfl rfl ?_
      exact k_nret K119 at_154 rfl (by simp) rfl (fun sf ht => ⟨rfl, trivial⟩) (by decide) (by decide)
  · refine k_iloadN K at_0 (pc' := 1) rfl rfl ?_
    refine k_iconst K (3 : Int32) at_1 (pc' := 2) rfl rfl ?_
    refine k_iand K at_2 (pc' := 3) rfl ?_
    rw [hn]
    refine k_istore K at_3 (pc' := 5) (L' := #[.val (.int xa), .val (.int xb), .val (.int xc), .val (.int xn), .val (.int (1 : Int32)), .unset, .unset, .unset, .unset, .unset]) rfl rfl ?_
    refine k_iloadN K at_5 (pc' := 6) rfl rfl ?_
    refine k_staticP K [(.int xa)] [] 0 (w0 hw) (w1 hw) (w2 hw) (w3 hw) (by decide) pd__I_C_577 (c_pick l Z a0 hw hEW n0 xa h0 K.old ) at_6 nofun (pc' := 9) rfl rfl rfl rfl (Nat.le_of_eq rfl) (by decide) (by decide) (by decide) (by decide) ?_
    intro b120 T120 L120 K120 tr120
    show Goes p_.tables e_ below_ _ (T120.setTop (mkF m_ 9 #[.val (.int xa), .val (.int xb), .val (.int xc), .val (.int xn), .val (.int (1 : Int32)), .unset, .unset, .unset, .unset, .unset] [(.int (pk xa))]))
    refine k_istore K120 at_9 (pc' := 11) (L' := #[.val (.int xa), .val (.int xb), .val (.int xc), .val (.int xn), .val (.int (1 : Int32)), .val (.int (pk xa)), .unset, .unset, .unset, .unset]) rfl rfl ?_
    refine k_iloadN K120 at_11 (pc' := 12) rfl rfl ?_
    refine k_staticP K120 [(.int xb)] [] 0 (w0 hw) (w1 hw) (w2 hw) (w3 hw) (by decide) pd__I_C_577 (c_pick l Z a0 hw hEW n0 xb h0 K120.old ) at_12 nofun (pc' := 15) rfl rfl rfl rfl (Nat.le_of_eq rfl) (by decide) (by decide) (by decide) (by decide) ?_
    intro b121 T121 L121 K121 tr121
    show Goes p_.tables e_ below_ _ (T121.setTop (mkF m_ 15 #[.val (.int xa), .val (.int xb), .val (.int xc), .val (.int xn), .val (.int (1 : Int32)), .val (.int (pk xa)), .unset, .unset, .unset, .unset] [(.int (pk xb))]))
    refine k_istore K121 at_15 (pc' := 17) (L' := #[.val (.int xa), .val (.int xb), .val (.int xc), .val (.int xn), .val (.int (1 : Int32)), .val (.int (pk xa)), .val (.int (pk xb)), .unset, .unset, .unset]) rfl rfl ?_
    refine k_iloadN K121 at_17 (pc' := 18) rfl rfl ?_
    refine k_staticP K121 [(.int xc)] [] 0 (w0 hw) (w1 hw) (w2 hw) (w3 hw) (by decide) pd__I_C_577 (c_pick l Z a0 hw hEW n0 xc h0 K121.old ) at_18 nofun (pc' := 21) rfl rfl rfl rfl (Nat.le_of_eq rfl) (by decide) (by decide) (by decide) (by decide) ?_
    intro b122 T122 L122 K122 tr122
    show Goes p_.tables e_ below_ _ (T122.setTop (mkF m_ 21 #[.val (.int xa), .val (.int xb), .val (.int xc), .val (.int xn), .val (.int (1 : Int32)), .val (.int (pk xa)), .val (.int (pk xb)), .unset, .unset, .unset] [(.int (pk xc))]))
    refine k_istore K122 at_21 (pc' := 23) (L' := #[.val (.int xa), .val (.int xb), .val (.int xc), .val (.int xn), .val (.int (1 : Int32)), .val (.int (pk xa)), .val (.int (pk xb)), .val (.int (pk xc)), .unset, .unset]) rfl rfl ?_
    refine k_iload K122 at_23 (pc' := 25) rfl rfl ?_
    refine k_iload K122 at_25 (pc' := 27) rfl rfl ?_
    refine k_iload K122 at_27 (pc' := 29) rfl rfl ?_
    refine k_iload K122 at_29 (pc' := 31) rfl rfl ?_
    refine k_static K122 [(.int (1 : Int32)), (.int (pk xa)), (.int (pk xb)), (.int (pk xc))] [] 0 (w4 hw) (w5 hw) (w2 hw) (w6 hw) (by decide) pd__ICCC_Ljava_lang_String__7601 (c_make1 l Z a0 hw hEW n0 (pk xa) (pk xb) (pk xc) cs0 h0 K122.old hA hB hC SC hcs) at_31 nofun (pc' := 34) rfl rfl rfl rfl (Nat.le_of_eq rfl) (by decide) (by decide) (by decide) (by decide) ?_
    intro b123 T123 h123 L123 v123 K123 tr123 q123
    obtain ⟨s, e, ke, rfl, S_s⟩ := q123
    show Goes p_.tables e_ below_ _ (T123.setTop (mkF m_ 34 #[.val (.int xa), .val (.int xb), .val (.int xc), .val (.int xn), .val (.int (1 : Int32)), .val (.int (pk xa)), .val (.int (pk xb)), .val (.int (pk xc)), .unset, .unset] [(.ref s)]))
    refine k_astore K123 at_34 (pc' := 36) (L' := #[.val (.int xa), .val (.int xb), .val (.int xc), .val (.int xn), .val (.int (1 : Int32)), .val (.int (pk xa)), .val (.int (pk xb)), .val (.int (pk xc)), .val (.ref s), .unset]) rfl rfl rfl ?_
    refine k_aload K123 at_36 (pc' := 38) rfl rfl rfl ?_
    refine k_static K123 [(.ref s)] [] 0 (w37 hw) (w38 hw) (w39 hw) (w40 hw) (by decide) pd__Ljava_lang_String__Ljava_lang_String__8908 (c_signed l Z a0 hw hEW n0 s e ke 1 [((pk xa).toInt8.toInt32 : Int32)] cs0 h123 K123.old rfl (by simp) S_s SC hcs) at_38 nofun (pc' := 41) rfl rfl rfl rfl (Nat.le_of_eq rfl) (by decide) (by decide) (by decide) (by decide) ?_
    intro b124 T124 h124 L124 v124 K124 tr124 q124
    have Q := q124
    rcases Q with ⟨hh, rfl, S_r⟩ | ⟨hh, r, t, kt, rfl, S_r⟩
    · have h45 : pk xa = 45 := (own_45 hA).mp (Option.some.inj hh)
      show Goes p_.tables e_ below_ _ (T124.setTop (mkF m_ 41 #[.val (.int xa), .val (.int xb), .val (.int xc), .val (.int xn), .val (.int (1 : Int32)), .val (.int (pk xa)), .val (.int (pk xb)), .val (.int (pk xc)), .val (.ref s), .unset] [(.ref s)]))
      refine k_astore K124 at_41 (pc' := 43) (L' := #[.val (.int xa), .val (.int xb), .val (.int xc), .val (.int xn), .val (.int (1 : Int32)), .val (.int (pk xa)), .val (.int (pk xb)), .val (.int (pk xc)), .val (.ref s), .val (.ref s)]) rfl rfl rfl ?_
      refine k_aload K124 at_43 (pc' := 45) rfl rfl rfl ?_
      refine k_ifnonnull K124 rfl at_45 (by decide) (pc' := 50) (pc2 := 48) (by decide) rfl (fun hc45 => ?_) (fun q => absurd q (by simp))
      refine k_iload K124 at_50 (pc' := 52) rfl rfl ?_
      refine k_if_le K124 at_52 (by decide) (pc' := 70) (pc2 := 55) (by decide) rfl (fun q => absurd (by decide) q) (fun hc52 => ?_)
      refine k_iload K124 at_55 (pc' := 57) rfl rfl ?_
      refine k_bipush K124 (45 : Int32) at_57 (pc' := 59) rfl rfl ?_
      refine k_icmp_ne K124 at_59 (by decide) (pc' := 70) (pc2 := 62) (by decide) rfl (fun q => absurd h45 q) (fun hc59 => ?_)
      refine k_aload K124 at_62 (pc' := 64) rfl rfl rfl ?_
      refine k_aload K124 at_64 (pc' := 66) rfl rfl rfl ?_
      refine k_virtualP K124 [(.ref s)] [] 0 (w194 hw) (w195 hw) (w196 hw) (w197 hw) (w10 hw) (w198 hw) (notFace_of_selects (args := #[]) (mvT K124.hZ (w197 hw))) rfl (by decide) S_r.1 (by decide) pd__Ljava_lang_Object__Z_194 (c_eqs l Z a0 hw hEW n0 s h124 K124.old ) at_66 nofun (pc' := 69) rfl rfl rfl rfl (Nat.le_of_eq rfl) (by decide) (by decide) (by decide) (by decide) ?_
      intro b125 T125 L125 K125 tr125
      show Goes p_.tables e_ below_ _ (T125.setTop (mkF m_ 69 #[.val (.int xa), .val (.int xb), .val (.int xc), .val (.int xn), .val (.int (1 : Int32)), .val (.int (pk xa)), .val (.int (pk xb)), .val (.int (pk xc)), .val (.ref s), .val (.ref s)] [(.int (1 : Int32))]))
      exact k_nret K125 at_69 rfl (by simp) rfl (fun sf ht => ⟨rfl, trivial⟩) (by decide) (by decide)
    · skip
      have h45 : ¬ pk xa = 45 := fun q => hh (congrArg some ((own_45 hA).mpr q))
      show Goes p_.tables e_ below_ _ (T124.setTop (mkF m_ 41 #[.val (.int xa), .val (.int xb), .val (.int xc), .val (.int xn), .val (.int (1 : Int32)), .val (.int (pk xa)), .val (.int (pk xb)), .val (.int (pk xc)), .val (.ref s), .unset] [(.ref r)]))
      refine k_astore K124 at_41 (pc' := 43) (L' := #[.val (.int xa), .val (.int xb), .val (.int xc), .val (.int xn), .val (.int (1 : Int32)), .val (.int (pk xa)), .val (.int (pk xb)), .val (.int (pk xc)), .val (.ref s), .val (.ref r)]) rfl rfl rfl ?_
      refine k_aload K124 at_43 (pc' := 45) rfl rfl rfl ?_
      refine k_ifnonnull K124 rfl at_45 (by decide) (pc' := 50) (pc2 := 48) (by decide) rfl (fun hc45 => ?_) (fun q => absurd q (by simp))
      refine k_iload K124 at_50 (pc' := 52) rfl rfl ?_
      refine k_if_le K124 at_52 (by decide) (pc' := 70) (pc2 := 55) (by decide) rfl (fun q => absurd (by decide) q) (fun hc52 => ?_)
      refine k_iload K124 at_55 (pc' := 57) rfl rfl ?_
      refine k_bipush K124 (45 : Int32) at_57 (pc' := 59) rfl rfl ?_
      refine k_icmp_ne K124 at_59 (by decide) (pc' := 70) (pc2 := 62) (by decide) rfl (fun hc59 => ?_) (fun q => absurd q h45)
      refine k_aload K124 at_70 (pc' := 72) rfl rfl rfl ?_
      refine k_virtualP K124 [] [] 0 (w170 hw) (w55 hw) (w56 hw) (w57 hw) (w10 hw) (w58 hw) (notFace_of_selects (args := #[]) (mvT K124.hZ (w57 hw))) rfl (by decide) S_r.1 (by decide) pd___I_341 (c_length l Z a0 hw hEW n0 r t kt 0 (1 + 1) _ cs0 h124 K124.old S_r (Or.inl rfl) SC hcs) at_72 nofun (pc' := 75) rfl rfl rfl rfl (Nat.le_of_eq rfl) (by decide) (by decide) (by decide) (by decide) ?_
      intro b126 T126 L126 K126 tr126
      show Goes p_.tables e_ below_ _ (T126.setTop (mkF m_ 75 #[.val (.int xa), .val (.int xb), .val (.int xc), .val (.int xn), .val (.int (1 : Int32)), .val (.int (pk xa)), .val (.int (pk xb)), .val (.int (pk xc)), .val (.ref s), .val (.ref r)] [(.int ((1 + 1 : Int32) >>> ((0 : Int32) &&& 31)))]))
      rw [own_shr0]
      refine k_iload K126 at_75 (pc' := 77) rfl rfl ?_
      refine k_iconst K126 (1 : Int32) at_77 (pc' := 78) rfl rfl ?_
      refine k_iadd K126 at_78 (pc' := 79) rfl ?_
      refine k_icmp_eq K126 at_79 (by decide) (pc' := 84) (pc2 := 82) (by decide) rfl (fun hc79 => ?_) (fun q => absurd (by decide) q)
      refine k_aload K126 at_84 (pc' := 86) rfl rfl rfl ?_
      refine k_iconst K126 (0 : Int32) at_86 (pc' := 87) rfl rfl ?_
      refine k_virtualP K126 [(.int (0 : Int32))] [] 0 (w171 hw) (w172 hw) (w173 hw) (w174 hw) (w10 hw) (w175 hw) (notFace_of_selects (args := #[]) (mvT K126.hZ (w174 hw))) rfl (by decide) S_r.1 (by decide) pd__I_C_577 (c_charAt l Z a0 hw hEW n0 r t kt (1 + 1) 0 43 (43 :: [((pk xa).toInt8.toInt32 : Int32)]) ff cs0 h124 K126.old SF hff S_r (by decide) (by decide) rfl SC hcs) at_87 nofun (pc' := 90) rfl rfl rfl rfl (Nat.le_of_eq rfl) (by decide) (by decide) (by decide) (by decide) ?_
      intro b127 T127 L127 K127 tr127
      show Goes p_.tables e_ below_ _ (T127.setTop (mkF m_ 90 #[.val (.int xa), .val (.int xb), .val (.int xc), .val (.int xn), .val (.int (1 : Int32)), .val (.int (pk xa)), .val (.int (pk xb)), .val (.int (pk xc)), .val (.ref s), .val (.ref r)] [(.int ((43 : Int32) &&& 255).toUInt32.toUInt16.toUInt32.toInt32)]))
      refine k_bipush K127 (43 : Int32) at_90 (pc' := 92) rfl rfl ?_
      refine k_icmp_eq K127 at_92 (by decide) (pc' := 97) (pc2 := 95) (by decide) rfl (fun hc92 => ?_) (fun q => absurd (by decide) q)
      refine k_iload K127 at_97 (pc' := 99) rfl rfl ?_
      refine k_if_le K127 at_99 (by decide) (pc' := 115) (pc2 := 102) (by decide) rfl (fun q => absurd (by decide) q) (fun hc99 => ?_)
      refine k_aload K127 at_102 (pc' := 104) rfl rfl rfl ?_
      refine k_iconst K127 (1 : Int32) at_104 (pc' := 105) rfl rfl ?_
      refine k_virtualP K127 [(.int (1 : Int32))] [] 0 (w171 hw) (w172 hw) (w173 hw) (w174 hw) (w10 hw) (w175 hw) (notFace_of_selects (args := #[]) (mvT K127.hZ (w174 hw))) rfl (by decide) S_r.1 (by decide) pd__I_C_577 (c_charAt l Z a0 hw hEW n0 r t kt (1 + 1) 1 ((pk xa).toInt8.toInt32) (43 :: [((pk xa).toInt8.toInt32 : Int32)]) ff cs0 h124 K127.old SF hff S_r (by decide) (by decide) rfl SC hcs) at_105 nofun (pc' := 108) rfl rfl rfl rfl (Nat.le_of_eq rfl) (by decide) (by decide) (by decide) (by decide) ?_
      intro b128 T128 L128 K128 tr128
      show Goes p_.tables e_ below_ _ (T128.setTop (mkF m_ 108 #[.val (.int xa), .val (.int xb), .val (.int xc), .val (.int xn), .val (.int (1 : Int32)), .val (.int (pk xa)), .val (.int (pk xb)), .val (.int (pk xc)), .val (.ref s), .val (.ref r)] [(.int ((pk xa).toInt8.toInt32 &&& 255).toUInt32.toUInt16.toUInt32.toInt32)]))
      refine k_iload K128 at_108 (pc' := 110) rfl rfl ?_
      refine k_icmp_eq K128 at_110 (by decide) (pc' := 115) (pc2 := 113) (by decide) rfl (fun hc110 => ?_) (fun q => absurd (own_ch hA) q)
      refine k_iload K128 at_115 (pc' := 117) rfl rfl ?_
      refine k_iconst K128 (1 : Int32) at_117 (pc' := 118) rfl rfl ?_
      refine k_icmp_le K128 at_118 (by decide) (pc' := 134) (pc2 := 121) (by decide) rfl (fun hc118 => ?_) (fun q => absurd q (by decide))
      refine k_iload K128 at_134 (pc' := 136) rfl rfl ?_
      refine k_iconst K128 (2 : Int32) at_136 (pc' := 137) rfl rfl ?_
      refine k_icmp_le K128 at_137 (by decide) (pc' := 153) (pc2 := 140) (by decide) rfl (fun hc137 => ?_) (fun q => absurd q (by decide))
      refine k_iconst K128 (1 : Int32) at_153 (pc' := 154) rfl rfl ?_
      exact k_nret K128 at_154 rfl (by simp) rfl (fun sf ht => ⟨rfl, trivial⟩) (by decide) (by decide)
  · refine k_iloadN K at_0 (pc' := 1) rfl rfl ?_
    refine k_iconst K (3 : Int32) at_1 (pc' := 2) rfl rfl ?_
    refine k_iand K at_2 (pc' := 3) rfl ?_
    rw [hn]
    refine k_istore K at_3 (pc' := 5) (L' := #[.val (.int xa), .val (.int xb), .val (.int xc), .val (.int xn), .val (.int (2 : Int32)), .unset, .unset, .unset, .unset, .unset]) rfl rfl ?_
    refine k_iloadN K at_5 (pc' := 6) rfl rfl ?_
    refine k_staticP K [(.int xa)] [] 0 (w0 hw) (w1 hw) (w2 hw) (w3 hw) (by decide) pd__I_C_577 (c_pick l Z a0 hw hEW n0 xa h0 K.old ) at_6 nofun (pc' := 9) rfl rfl rfl rfl (Nat.le_of_eq rfl) (by decide) (by decide) (by decide) (by decide) ?_
    intro b129 T129 L129 K129 tr129
    show Goes p_.tables e_ below_ _ (T129.setTop (mkF m_ 9 #[.val (.int xa), .val (.int xb), .val (.int xc), .val (.int xn), .val (.int (2 : Int32)), .unset, .unset, .unset, .unset, .unset] [(.int (pk xa))]))
    refine k_istore K129 at_9 (pc' := 11) (L' := #[.val (.int xa), .val (.int xb), .val (.int xc), .val (.int xn), .val (.int (2 : Int32)), .val (.int (pk xa)), .unset, .unset, .unset, .unset]) rfl rfl ?_
    refine k_iloadN K129 at_11 (pc' := 12) rfl rfl ?_
    refine k_staticP K129 [(.int xb)] [] 0 (w0 hw) (w1 hw) (w2 hw) (w3 hw) (by decide) pd__I_C_577 (c_pick l Z a0 hw hEW n0 xb h0 K129.old ) at_12 nofun (pc' := 15) rfl rfl rfl rfl (Nat.le_of_eq rfl) (by decide) (by decide) (by decide) (by decide) ?_
    intro b130 T130 L130 K130 tr130
    show Goes p_.tables e_ below_ _ (T130.setTop (mkF m_ 15 #[.val (.int xa), .val (.int xb), .val (.int xc), .val (.int xn), .val (.int (2 : Int32)), .val (.int (pk xa)), .unset, .unset, .unset, .unset] [(.int (pk xb))]))
    refine k_istore K130 at_15 (pc' := 17) (L' := #[.val (.int xa), .val (.int xb), .val (.int xc), .val (.int xn), .val (.int (2 : Int32)), .val (.int (pk xa)), .val (.int (pk xb)), .unset, .unset, .unset]) rfl rfl ?_
    refine k_iloadN K130 at_17 (pc' := 18) rfl rfl ?_
    refine k_staticP K130 [(.int xc)] [] 0 (w0 hw) (w1 hw) (w2 hw) (w3 hw) (by decide) pd__I_C_577 (c_pick l Z a0 hw hEW n0 xc h0 K130.old ) at_18 nofun (pc' := 21) rfl rfl rfl rfl (Nat.le_of_eq rfl) (by decide) (by decide) (by decide) (by decide) ?_
    intro b131 T131 L131 K131 tr131
    show Goes p_.tables e_ below_ _ (T131.setTop (mkF m_ 21 #[.val (.int xa), .val (.int xb), .val (.int xc), .val (.int xn), .val (.int (2 : Int32)), .val (.int (pk xa)), .val (.int (pk xb)), .unset, .unset, .unset] [(.int (pk xc))]))
    refine k_istore K131 at_21 (pc' := 23) (L' := #[.val (.int xa), .val (.int xb), .val (.int xc), .val (.int xn), .val (.int (2 : Int32)), .val (.int (pk xa)), .val (.int (pk xb)), .val (.int (pk xc)), .unset, .unset]) rfl rfl ?_
    refine k_iload K131 at_23 (pc' := 25) rfl rfl ?_
    refine k_iload K131 at_25 (pc' := 27) rfl rfl ?_
    refine k_iload K131 at_27 (pc' := 29) rfl rfl ?_
    refine k_iload K131 at_29 (pc' := 31) rfl rfl ?_
    refine k_static K131 [(.int (2 : Int32)), (.int (pk xa)), (.int (pk xb)), (.int (pk xc))] [] 0 (w4 hw) (w5 hw) (w2 hw) (w6 hw) (by decide) pd__ICCC_Ljava_lang_String__7601 (c_make2 l Z a0 hw hEW n0 (pk xa) (pk xb) (pk xc) cs0 h0 K131.old hA hB hC SC hcs) at_31 nofun (pc' := 34) rfl rfl rfl rfl (Nat.le_of_eq rfl) (by decide) (by decide) (by decide) (by decide) ?_
    intro b132 T132 h132 L132 v132 K132 tr132 q132
    obtain ⟨s, e, ke, rfl, S_s⟩ := q132
    show Goes p_.tables e_ below_ _ (T132.setTop (mkF m_ 34 #[.val (.int xa), .val (.int xb), .val (.int xc), .val (.int xn), .val (.int (2 : Int32)), .val (.int (pk xa)), .val (.int (pk xb)), .val (.int (pk xc)), .unset, .unset] [(.ref s)]))
    refine k_astore K132 at_34 (pc' := 36) (L' := #[.val (.int xa), .val (.int xb), .val (.int xc), .val (.int xn), .val (.int (2 : Int32)), .val (.int (pk xa)), .val (.int (pk xb)), .val (.int (pk xc)), .val (.ref s), .unset]) rfl rfl rfl ?_
    refine k_aload K132 at_36 (pc' := 38) rfl rfl rfl ?_
    refine k_static K132 [(.ref s)] [] 0 (w37 hw) (w38 hw) (w39 hw) (w40 hw) (by decide) pd__Ljava_lang_String__Ljava_lang_String__8908 (c_signed l Z a0 hw hEW n0 s e ke 2 [((pk xa).toInt8.toInt32 : Int32), ((pk xb).toInt8.toInt32 : Int32)] cs0 h132 K132.old rfl (by simp) S_s SC hcs) at_38 nofun (pc' := 41) rfl rfl rfl rfl (Nat.le_of_eq rfl) (by decide) (by decide) (by decide) (by decide) ?_
    intro b133 T133 h133 L133 v133 K133 tr133 q133
    have Q := q133
    rcases Q with ⟨hh, rfl, S_r⟩ | ⟨hh, r, t, kt, rfl, S_r⟩
    · have h45 : pk xa = 45 := (own_45 hA).mp (Option.some.inj hh)
      show Goes p_.tables e_ below_ _ (T133.setTop (mkF m_ 41 #[.val (.int xa), .val (.int xb), .val (.int xc), .val (.int xn), .val (.int (2 : Int32)), .val (.int (pk xa)), .val (.int (pk xb)), .val (.int (pk xc)), .val (.ref s), .unset] [(.ref s)]))
      refine k_astore K133 at_41 (pc' := 43) (L' := #[.val (.int xa), .val (.int xb), .val (.int xc), .val (.int xn), .val (.int (2 : Int32)), .val (.int (pk xa)), .val (.int (pk xb)), .val (.int (pk xc)), .val (.ref s), .val (.ref s)]) rfl rfl rfl ?_
      refine k_aload K133 at_43 (pc' := 45) rfl rfl rfl ?_
      refine k_ifnonnull K133 rfl at_45 (by decide) (pc' := 50) (pc2 := 48) (by decide) rfl (fun hc45 => ?_) (fun q => absurd q (by simp))
      refine k_iload K133 at_50 (pc' := 52) rfl rfl ?_
      refine k_if_le K133 at_52 (by decide) (pc' := 70) (pc2 := 55) (by decide) rfl (fun q => absurd (by decide) q) (fun hc52 => ?_)
      refine k_iload K133 at_55 (pc' := 57) rfl rfl ?_
      refine k_bipush K133 (45 : Int32) at_57 (pc' := 59) rfl rfl ?_
      refine k_icmp_ne K133 at_59 (by decide) (pc' := 70) (pc2 := 62) (by decide) rfl (fun q => absurd h45 q) (fun hc59 => ?_)
      refine k_aload K133 at_62 (pc' := 64) rfl rfl rfl ?_
      refine k_aload K133 at_64 (pc' := 66) rfl rfl rfl ?_
      refine k_virtualP K133 [(.ref s)] [] 0 (w194 hw) (w195 hw) (w196 hw) (w197 hw) (w10 hw) (w198 hw) (notFace_of_selects (args := #[]) (mvT K133.hZ (w197 hw))) rfl (by decide) S_r.1 (by decide) pd__Ljava_lang_Object__Z_194 (c_eqs l Z a0 hw hEW n0 s h133 K133.old ) at_66 nofun (pc' := 69) rfl rfl rfl rfl (Nat.le_of_eq rfl) (by decide) (by decide) (by decide) (by decide) ?_
      intro b134 T134 L134 K134 tr134
      show Goes p_.tables e_ below_ _ (T134.setTop (mkF m_ 69 #[.val (.int xa), .val (.int xb), .val (.int xc), .val (.int xn), .val (.int (2 : Int32)), .val (.int (pk xa)), .val (.int (pk xb)), .val (.int (pk xc)), .val (.ref s), .val (.ref s)] [(.int (1 : Int32))]))
      exact k_nret K134 at_69 rfl (by simp) rfl (fun sf ht => ⟨rfl, trivial⟩) (by decide) (by decide)
    · skip
      have h45 : ¬ pk xa = 45 := fun q => hh (congrArg some ((own_45 hA).mpr q))
      show Goes p_.tables e_ below_ _ (T133.setTop (mkF m_ 41 #[.val (.int xa), .val (.int xb), .val (.int xc), .val (.int xn), .val (.int (2 : Int32)), .val (.int (pk xa)), .val (.int (pk xb)), .val (.int (pk xc)), .val (.ref s), .unset] [(.ref r)]))
      refine k_astore K133 at_41 (pc' := 43) (L' := #[.val (.int xa), .val (.int xb), .val (.int xc), .val (.int xn), .val (.int (2 : Int32)), .val (.int (pk xa)), .val (.int (pk xb)), .val (.int (pk xc)), .val (.ref s), .val (.ref r)]) rfl rfl rfl ?_
      refine k_aload K133 at_43 (pc' := 45) rfl rfl rfl ?_
      refine k_ifnonnull K133 rfl at_45 (by decide) (pc' := 50) (pc2 := 48) (by decide) rfl (fun hc45 => ?_) (fun q => absurd q (by simp))
      refine k_iload K133 at_50 (pc' := 52) rfl rfl ?_
      refine k_if_le K133 at_52 (by decide) (pc' := 70) (pc2 := 55) (by decide) rfl (fun q => absurd (by decide) q) (fun hc52 => ?_)
      refine k_iload K133 at_55 (pc' := 57) rfl rfl ?_
      refine k_bipush K133 (45 : Int32) at_57 (pc' := 59) rfl rfl ?_
      refine k_icmp_ne K133 at_59 (by decide) (pc' := 70) (pc2 := 62) (by decide) rfl (fun hc59 => ?_) (fun q => absurd q h45)
      refine k_aload K133 at_70 (pc' := 72) rfl rfl rfl ?_
      refine k_virtualP K133 [] [] 0 (w170 hw) (w55 hw) (w56 hw) (w57 hw) (w10 hw) (w58 hw) (notFace_of_selects (args := #[]) (mvT K133.hZ (w57 hw))) rfl (by decide) S_r.1 (by decide) pd___I_341 (c_length l Z a0 hw hEW n0 r t kt 0 (1 + 2) _ cs0 h133 K133.old S_r (Or.inl rfl) SC hcs) at_72 nofun (pc' := 75) rfl rfl rfl rfl (Nat.le_of_eq rfl) (by decide) (by decide) (by decide) (by decide) ?_
      intro b135 T135 L135 K135 tr135
      show Goes p_.tables e_ below_ _ (T135.setTop (mkF m_ 75 #[.val (.int xa), .val (.int xb), .val (.int xc), .val (.int xn), .val (.int (2 : Int32)), .val (.int (pk xa)), .val (.int (pk xb)), .val (.int (pk xc)), .val (.ref s), .val (.ref r)] [(.int ((1 + 2 : Int32) >>> ((0 : Int32) &&& 31)))]))
      rw [own_shr0]
      refine k_iload K135 at_75 (pc' := 77) rfl rfl ?_
      refine k_iconst K135 (1 : Int32) at_77 (pc' := 78) rfl rfl ?_
      refine k_iadd K135 at_78 (pc' := 79) rfl ?_
      refine k_icmp_eq K135 at_79 (by decide) (pc' := 84) (pc2 := 82) (by decide) rfl (fun hc79 => ?_) (fun q => absurd (by decide) q)
      refine k_aload K135 at_84 (pc' := 86) rfl rfl rfl ?_
      refine k_iconst K135 (0 : Int32) at_86 (pc' := 87) rfl rfl ?_
      refine k_virtualP K135 [(.int (0 : Int32))] [] 0 (w171 hw) (w172 hw) (w173 hw) (w174 hw) (w10 hw) (w175 hw) (notFace_of_selects (args := #[]) (mvT K135.hZ (w174 hw))) rfl (by decide) S_r.1 (by decide) pd__I_C_577 (c_charAt l Z a0 hw hEW n0 r t kt (1 + 2) 0 43 (43 :: [((pk xa).toInt8.toInt32 : Int32), ((pk xb).toInt8.toInt32 : Int32)]) ff cs0 h133 K135.old SF hff S_r (by decide) (by decide) rfl SC hcs) at_87 nofun (pc' := 90) rfl rfl rfl rfl (Nat.le_of_eq rfl) (by decide) (by decide) (by decide) (by decide) ?_
      intro b136 T136 L136 K136 tr136
      show Goes p_.tables e_ below_ _ (T136.setTop (mkF m_ 90 #[.val (.int xa), .val (.int xb), .val (.int xc), .val (.int xn), .val (.int (2 : Int32)), .val (.int (pk xa)), .val (.int (pk xb)), .val (.int (pk xc)), .val (.ref s), .val (.ref r)] [(.int ((43 : Int32) &&& 255).toUInt32.toUInt16.toUInt32.toInt32)]))
      refine k_bipush K136 (43 : Int32) at_90 (pc' := 92) rfl rfl ?_
      refine k_icmp_eq K136 at_92 (by decide) (pc' := 97) (pc2 := 95) (by decide) rfl (fun hc92 => ?_) (fun q => absurd (by decide) q)
      refine k_iload K136 at_97 (pc' := 99) rfl rfl ?_
      refine k_if_le K136 at_99 (by decide) (pc' := 115) (pc2 := 102) (by decide) rfl (fun q => absurd (by decide) q) (fun hc99 => ?_)
      refine k_aload K136 at_102 (pc' := 104) rfl rfl rfl ?_
      refine k_iconst K136 (1 : Int32) at_104 (pc' := 105) rfl rfl ?_
      refine k_virtualP K136 [(.int (1 : Int32))] [] 0 (w171 hw) (w172 hw) (w173 hw) (w174 hw) (w10 hw) (w175 hw) (notFace_of_selects (args := #[]) (mvT K136.hZ (w174 hw))) rfl (by decide) S_r.1 (by decide) pd__I_C_577 (c_charAt l Z a0 hw hEW n0 r t kt (1 + 2) 1 ((pk xa).toInt8.toInt32) (43 :: [((pk xa).toInt8.toInt32 : Int32), ((pk xb).toInt8.toInt32 : Int32)]) ff cs0 h133 K136.old SF hff S_r (by decide) (by decide) rfl SC hcs) at_105 nofun (pc' := 108) rfl rfl rfl rfl (Nat.le_of_eq rfl) (by decide) (by decide) (by decide) (by decide) ?_
      intro b137 T137 L137 K137 tr137
      show Goes p_.tables e_ below_ _ (T137.setTop (mkF m_ 108 #[.val (.int xa), .val (.int xb), .val (.int xc), .val (.int xn), .val (.int (2 : Int32)), .val (.int (pk xa)), .val (.int (pk xb)), .val (.int (pk xc)), .val (.ref s), .val (.ref r)] [(.int ((pk xa).toInt8.toInt32 &&& 255).toUInt32.toUInt16.toUInt32.toInt32)]))
      refine k_iload K137 at_108 (pc' := 110) rfl rfl ?_
      refine k_icmp_eq K137 at_110 (by decide) (pc' := 115) (pc2 := 113) (by decide) rfl (fun hc110 => ?_) (fun q => absurd (own_ch hA) q)
      refine k_iload K137 at_115 (pc' := 117) rfl rfl ?_
      refine k_iconst K137 (1 : Int32) at_117 (pc' := 118) rfl rfl ?_
      refine k_icmp_le K137 at_118 (by decide) (pc' := 134) (pc2 := 121) (by decide) rfl (fun q => absurd (by decide) q) (fun hc118 => ?_)
      refine k_aload K137 at_121 (pc' := 123) rfl rfl rfl ?_
      refine k_iconst K137 (2 : Int32) at_123 (pc' := 124) rfl rfl ?_
      refine k_virtualP K137 [(.int (2 : Int32))] [] 0 (w171 hw) (w172 hw) (w173 hw) (w174 hw) (w10 hw) (w175 hw) (notFace_of_selects (args := #[]) (mvT K137.hZ (w174 hw))) rfl (by decide) S_r.1 (by decide) pd__I_C_577 (c_charAt l Z a0 hw hEW n0 r t kt (1 + 2) 2 ((pk xb).toInt8.toInt32) (43 :: [((pk xa).toInt8.toInt32 : Int32), ((pk xb).toInt8.toInt32 : Int32)]) ff cs0 h133 K137.old SF hff S_r (by decide) (by decide) rfl SC hcs) at_124 nofun (pc' := 127) rfl rfl rfl rfl (Nat.le_of_eq rfl) (by decide) (by decide) (by decide) (by decide) ?_
      intro b138 T138 L138 K138 tr138
      show Goes p_.tables e_ below_ _ (T138.setTop (mkF m_ 127 #[.val (.int xa), .val (.int xb), .val (.int xc), .val (.int xn), .val (.int (2 : Int32)), .val (.int (pk xa)), .val (.int (pk xb)), .val (.int (pk xc)), .val (.ref s), .val (.ref r)] [(.int ((pk xb).toInt8.toInt32 &&& 255).toUInt32.toUInt16.toUInt32.toInt32)]))
      refine k_iload K138 at_127 (pc' := 129) rfl rfl ?_
      refine k_icmp_eq K138 at_129 (by decide) (pc' := 134) (pc2 := 132) (by decide) rfl (fun hc129 => ?_) (fun q => absurd (own_ch hB) q)
      refine k_iload K138 at_134 (pc' := 136) rfl rfl ?_
      refine k_iconst K138 (2 : Int32) at_136 (pc' := 137) rfl rfl ?_
      refine k_icmp_le K138 at_137 (by decide) (pc' := 153) (pc2 := 140) (by decide) rfl (fun hc137 => ?_) (fun q => absurd q (by decide))
      refine k_iconst K138 (1 : Int32) at_153 (pc' := 154) rfl rfl ?_
      exact k_nret K138 at_154 rfl (by simp) rfl (fun sf ht => ⟨rfl, trivial⟩) (by decide) (by decide)
  · refine k_iloadN K at_0 (pc' := 1) rfl rfl ?_
    refine k_iconst K (3 : Int32) at_1 (pc' := 2) rfl rfl ?_
    refine k_iand K at_2 (pc' := 3) rfl ?_
    rw [hn]
    refine k_istore K at_3 (pc' := 5) (L' := #[.val (.int xa), .val (.int xb), .val (.int xc), .val (.int xn), .val (.int (3 : Int32)), .unset, .unset, .unset, .unset, .unset]) rfl rfl ?_
    refine k_iloadN K at_5 (pc' := 6) rfl rfl ?_
    refine k_staticP K [(.int xa)] [] 0 (w0 hw) (w1 hw) (w2 hw) (w3 hw) (by decide) pd__I_C_577 (c_pick l Z a0 hw hEW n0 xa h0 K.old ) at_6 nofun (pc' := 9) rfl rfl rfl rfl (Nat.le_of_eq rfl) (by decide) (by decide) (by decide) (by decide) ?_
    intro b139 T139 L139 K139 tr139
    show Goes p_.tables e_ below_ _ (T139.setTop (mkF m_ 9 #[.val (.int xa), .val (.int xb), .val (.int xc), .val (.int xn), .val (.int (3 : Int32)), .unset, .unset, .unset, .unset, .unset] [(.int (pk xa))]))
    refine k_istore K139 at_9 (pc' := 11) (L' := #[.val (.int xa), .val (.int xb), .val (.int xc), .val (.int xn), .val (.int (3 : Int32)), .val (.int (pk xa)), .unset, .unset, .unset, .unset]) rfl rfl ?_
    refine k_iloadN K139 at_11 (pc' := 12) rfl rfl ?_
    refine k_staticP K139 [(.int xb)] [] 0 (w0 hw) (w1 hw) (w2 hw) (w3 hw) (by decide) pd__I_C_577 (c_pick l Z a0 hw hEW n0 xb h0 K139.old ) at_12 nofun (pc' := 15) rfl rfl rfl rfl (Nat.le_of_eq rfl) (by decide) (by decide) (by decide) (by decide) ?_
    intro b140 T140 L140 K140 tr140
    show Goes p_.tables e_ below_ _ (T140.setTop (mkF m_ 15 #[.val (.int xa), .val (.int xb), .val (.int xc), .val (.int xn), .val (.int (3 : Int32)), .val (.int (pk xa)), .unset, .unset, .unset, .unset] [(.int (pk xb))]))
    refine k_istore K140 at_15 (pc' := 17) (L' := #[.val (.int xa), .val (.int xb), .val (.int xc), .val (.int xn), .val (.int (3 : Int32)), .val (.int (pk xa)), .val (.int (pk xb)), .unset, .unset, .unset]) rfl rfl ?_
    refine k_iloadN K140 at_17 (pc' := 18) rfl rfl ?_
    refine k_staticP K140 [(.int xc)] [] 0 (w0 hw) (w1 hw) (w2 hw) (w3 hw) (by decide) pd__I_C_577 (c_pick l Z a0 hw hEW n0 xc h0 K140.old ) at_18 nofun (pc' := 21) rfl rfl rfl rfl (Nat.le_of_eq rfl) (by decide) (by decide) (by decide) (by decide) ?_
    intro b141 T141 L141 K141 tr141
    show Goes p_.tables e_ below_ _ (T141.setTop (mkF m_ 21 #[.val (.int xa), .val (.int xb), .val (.int xc), .val (.int xn), .val (.int (3 : Int32)), .val (.int (pk xa)), .val (.int (pk xb)), .unset, .unset, .unset] [(.int (pk xc))]))
    refine k_istore K141 at_21 (pc' := 23) (L' := #[.val (.int xa), .val (.int xb), .val (.int xc), .val (.int xn), .val (.int (3 : Int32)), .val (.int (pk xa)), .val (.int (pk xb)), .val (.int (pk xc)), .unset, .unset]) rfl rfl ?_
    refine k_iload K141 at_23 (pc' := 25) rfl rfl ?_
    refine k_iload K141 at_25 (pc' := 27) rfl rfl ?_
    refine k_iload K141 at_27 (pc' := 29) rfl rfl ?_
    refine k_iload K141 at_29 (pc' := 31) rfl rfl ?_
    refine k_static K141 [(.int (3 : Int32)), (.int (pk xa)), (.int (pk xb)), (.int (pk xc))] [] 0 (w4 hw) (w5 hw) (w2 hw) (w6 hw) (by decide) pd__ICCC_Ljava_lang_String__7601 (c_make3 l Z a0 hw hEW n0 (pk xa) (pk xb) (pk xc) cs0 h0 K141.old hA hB hC SC hcs) at_31 nofun (pc' := 34) rfl rfl rfl rfl (Nat.le_of_eq rfl) (by decide) (by decide) (by decide) (by decide) ?_
    intro b142 T142 h142 L142 v142 K142 tr142 q142
    obtain ⟨s, e, ke, rfl, S_s⟩ := q142
    show Goes p_.tables e_ below_ _ (T142.setTop (mkF m_ 34 #[.val (.int xa), .val (.int xb), .val (.int xc), .val (.int xn), .val (.int (3 : Int32)), .val (.int (pk xa)), .val (.int (pk xb)), .val (.int (pk xc)), .unset, .unset] [(.ref s)]))
    refine k_astore K142 at_34 (pc' := 36) (L' := #[.val (.int xa), .val (.int xb), .val (.int xc), .val (.int xn), .val (.int (3 : Int32)), .val (.int (pk xa)), .val (.int (pk xb)), .val (.int (pk xc)), .val (.ref s), .unset]) rfl rfl rfl ?_
    refine k_aload K142 at_36 (pc' := 38) rfl rfl rfl ?_
    refine k_static K142 [(.ref s)] [] 0 (w37 hw) (w38 hw) (w39 hw) (w40 hw) (by decide) pd__Ljava_lang_String__Ljava_lang_String__8908 (c_signed l Z a0 hw hEW n0 s e ke 3 [((pk xa).toInt8.toInt32 : Int32), ((pk xb).toInt8.toInt32 : Int32), ((pk xc).toInt8.toInt32 : Int32)] cs0 h142 K142.old rfl (by simp) S_s SC hcs) at_38 nofun (pc' := 41) rfl rfl rfl rfl (Nat.le_of_eq rfl) (by decide) (by decide) (by decide) (by decide) ?_
    intro b143 T143 h143 L143 v143 K143 tr143 q143
    have Q := q143
    rcases Q with ⟨hh, rfl, S_r⟩ | ⟨hh, r, t, kt, rfl, S_r⟩
    · have h45 : pk xa = 45 := (own_45 hA).mp (Option.some.inj hh)
      show Goes p_.tables e_ below_ _ (T143.setTop (mkF m_ 41 #[.val (.int xa), .val (.int xb), .val (.int xc), .val (.int xn), .val (.int (3 : Int32)), .val (.int (pk xa)), .val (.int (pk xb)), .val (.int (pk xc)), .val (.ref s), .unset] [(.ref s)]))
      refine k_astore K143 at_41 (pc' := 43) (L' := #[.val (.int xa), .val (.int xb), .val (.int xc), .val (.int xn), .val (.int (3 : Int32)), .val (.int (pk xa)), .val (.int (pk xb)), .val (.int (pk xc)), .val (.ref s), .val (.ref s)]) rfl rfl rfl ?_
      refine k_aload K143 at_43 (pc' := 45) rfl rfl rfl ?_
      refine k_ifnonnull K143 rfl at_45 (by decide) (pc' := 50) (pc2 := 48) (by decide) rfl (fun hc45 => ?_) (fun q => absurd q (by simp))
      refine k_iload K143 at_50 (pc' := 52) rfl rfl ?_
      refine k_if_le K143 at_52 (by decide) (pc' := 70) (pc2 := 55) (by decide) rfl (fun q => absurd (by decide) q) (fun hc52 => ?_)
      refine k_iload K143 at_55 (pc' := 57) rfl rfl ?_
      refine k_bipush K143 (45 : Int32) at_57 (pc' := 59) rfl rfl ?_
      refine k_icmp_ne K143 at_59 (by decide) (pc' := 70) (pc2 := 62) (by decide) rfl (fun q => absurd h45 q) (fun hc59 => ?_)
      refine k_aload K143 at_62 (pc' := 64) rfl rfl rfl ?_
      refine k_aload K143 at_64 (pc' := 66) rfl rfl rfl ?_
      refine k_virtualP K143 [(.ref s)] [] 0 (w194 hw) (w195 hw) (w196 hw) (w197 hw) (w10 hw) (w198 hw) (notFace_of_selects (args := #[]) (mvT K143.hZ (w197 hw))) rfl (by decide) S_r.1 (by decide) pd__Ljava_lang_Object__Z_194 (c_eqs l Z a0 hw hEW n0 s h143 K143.old ) at_66 nofun (pc' := 69) rfl rfl rfl rfl (Nat.le_of_eq rfl) (by decide) (by decide) (by decide) (by decide) ?_
      intro b144 T144 L144 K144 tr144
      show Goes p_.tables e_ below_ _ (T144.setTop (mkF m_ 69 #[.val (.int xa), .val (.int xb), .val (.int xc), .val (.int xn), .val (.int (3 : Int32)), .val (.int (pk xa)), .val (.int (pk xb)), .val (.int (pk xc)), .val (.ref s), .val (.ref s)] [(.int (1 : Int32))]))
      exact k_nret K144 at_69 rfl (by simp) rfl (fun sf ht => ⟨rfl, trivial⟩) (by decide) (by decide)
    · skip
      have h45 : ¬ pk xa = 45 := fun q => hh (congrArg some ((own_45 hA).mpr q))
      show Goes p_.tables e_ below_ _ (T143.setTop (mkF m_ 41 #[.val (.int xa), .val (.int xb), .val (.int xc), .val (.int xn), .val (.int (3 : Int32)), .val (.int (pk xa)), .val (.int (pk xb)), .val (.int (pk xc)), .val (.ref s), .unset] [(.ref r)]))
      refine k_astore K143 at_41 (pc' := 43) (L' := #[.val (.int xa), .val (.int xb), .val (.int xc), .val (.int xn), .val (.int (3 : Int32)), .val (.int (pk xa)), .val (.int (pk xb)), .val (.int (pk xc)), .val (.ref s), .val (.ref r)]) rfl rfl rfl ?_
      refine k_aload K143 at_43 (pc' := 45) rfl rfl rfl ?_
      refine k_ifnonnull K143 rfl at_45 (by decide) (pc' := 50) (pc2 := 48) (by decide) rfl (fun hc45 => ?_) (fun q => absurd q (by simp))
      refine k_iload K143 at_50 (pc' := 52) rfl rfl ?_
      refine k_if_le K143 at_52 (by decide) (pc' := 70) (pc2 := 55) (by decide) rfl (fun q => absurd (by decide) q) (fun hc52 => ?_)
      refine k_iload K143 at_55 (pc' := 57) rfl rfl ?_
      refine k_bipush K143 (45 : Int32) at_57 (pc' := 59) rfl rfl ?_
      refine k_icmp_ne K143 at_59 (by decide) (pc' := 70) (pc2 := 62) (by decide) rfl (fun hc59 => ?_) (fun q => absurd q h45)
      refine k_aload K143 at_70 (pc' := 72) rfl rfl rfl ?_
      refine k_virtualP K143 [] [] 0 (w170 hw) (w55 hw) (w56 hw) (w57 hw) (w10 hw) (w58 hw) (notFace_of_selects (args := #[]) (mvT K143.hZ (w57 hw))) rfl (by decide) S_r.1 (by decide) pd___I_341 (c_length l Z a0 hw hEW n0 r t kt 0 (1 + 3) _ cs0 h143 K143.old S_r (Or.inl rfl) SC hcs) at_72 nofun (pc' := 75) rfl rfl rfl rfl (Nat.le_of_eq rfl) (by decide) (by decide) (by decide) (by decide) ?_
      intro b145 T145 L145 K145 tr145
      show Goes p_.tables e_ below_ _ (T145.setTop (mkF m_ 75 #[.val (.int xa), .val (.int xb), .val (.int xc), .val (.int xn), .val (.int (3 : Int32)), .val (.int (pk xa)), .val (.int (pk xb)), .val (.int (pk xc)), .val (.ref s), .val (.ref r)] [(.int ((1 + 3 : Int32) >>> ((0 : Int32) &&& 31)))]))
      rw [own_shr0]
      refine k_iload K145 at_75 (pc' := 77) rfl rfl ?_
      refine k_iconst K145 (1 : Int32) at_77 (pc' := 78) rfl rfl ?_
      refine k_iadd K145 at_78 (pc' := 79) rfl ?_
      refine k_icmp_eq K145 at_79 (by decide) (pc' := 84) (pc2 := 82) (by decide) rfl (fun hc79 => ?_) (fun q => absurd (by decide) q)
      refine k_aload K145 at_84 (pc' := 86) rfl rfl rfl ?_
      refine k_iconst K145 (0 : Int32) at_86 (pc' := 87) rfl rfl ?_
      refine k_virtualP K145 [(.int (0 : Int32))] [] 0 (w171 hw) (w172 hw) (w173 hw) (w174 hw) (w10 hw) (w175 hw) (notFace_of_selects (args := #[]) (mvT K145.hZ (w174 hw))) rfl (by decide) S_r.1 (by decide) pd__I_C_577 (c_charAt l Z a0 hw hEW n0 r t kt (1 + 3) 0 43 (43 :: [((pk xa).toInt8.toInt32 : Int32), ((pk xb).toInt8.toInt32 : Int32), ((pk xc).toInt8.toInt32 : Int32)]) ff cs0 h143 K145.old SF hff S_r (by decide) (by decide) rfl SC hcs) at_87 nofun (pc' := 90) rfl rfl rfl rfl (Nat.le_of_eq rfl) (by decide) (by decide) (by decide) (by decide) ?_
      intro b146 T146 L146 K146 tr146
      show Goes p_.tables e_ below_ _ (T146.setTop (mkF m_ 90 #[.val (.int xa), .val (.int xb), .val (.int xc), .val (.int xn), .val (.int (3 : Int32)), .val (.int (pk xa)), .val (.int (pk xb)), .val (.int (pk xc)), .val (.ref s), .val (.ref r)] [(.int ((43 : Int32) &&& 255).toUInt32.toUInt16.toUInt32.toInt32)]))
      refine k_bipush K146 (43 : Int32) at_90 (pc' := 92) rfl rfl ?_
      refine k_icmp_eq K146 at_92 (by decide) (pc' := 97) (pc2 := 95) (by decide) rfl (fun hc92 => ?_) (fun q => absurd (by decide) q)
      refine k_iload K146 at_97 (pc' := 99) rfl rfl ?_
      refine k_if_le K146 at_99 (by decide) (pc' := 115) (pc2 := 102) (by decide) rfl (fun q => absurd (by decide) q) (fun hc99 => ?_)
      refine k_aload K146 at_102 (pc' := 104) rfl rfl rfl ?_
      refine k_iconst K146 (1 : Int32) at_104 (pc' := 105) rfl rfl ?_
      refine k_virtualP K146 [(.int (1 : Int32))] [] 0 (w171 hw) (w172 hw) (w173 hw) (w174 hw) (w10 hw) (w175 hw) (notFace_of_selects (args := #[]) (mvT K146.hZ (w174 hw))) rfl (by decide) S_r.1 (by decide) pd__I_C_577 (c_charAt l Z a0 hw hEW n0 r t kt (1 + 3) 1 ((pk xa).toInt8.toInt32) (43 :: [((pk xa).toInt8.toInt32 : Int32), ((pk xb).toInt8.toInt32 : Int32), ((pk xc).toInt8.toInt32 : Int32)]) ff cs0 h143 K146.old SF hff S_r (by decide) (by decide) rfl SC hcs) at_105 nofun (pc' := 108) rfl rfl rfl rfl (Nat.le_of_eq rfl) (by decide) (by decide) (by decide) (by decide) ?_
      intro b147 T147 L147 K147 tr147
      show Goes p_.tables e_ below_ _ (T147.setTop (mkF m_ 108 #[.val (.int xa), .val (.int xb), .val (.int xc), .val (.int xn), .val (.int (3 : Int32)), .val (.int (pk xa)), .val (.int (pk xb)), .val (.int (pk xc)), .val (.ref s), .val (.ref r)] [(.int ((pk xa).toInt8.toInt32 &&& 255).toUInt32.toUInt16.toUInt32.toInt32)]))
      refine k_iload K147 at_108 (pc' := 110) rfl rfl ?_
      refine k_icmp_eq K147 at_110 (by decide) (pc' := 115) (pc2 := 113) (by decide) rfl (fun hc110 => ?_) (fun q => absurd (own_ch hA) q)
      refine k_iload K147 at_115 (pc' := 117) rfl rfl ?_
      refine k_iconst K147 (1 : Int32) at_117 (pc' := 118) rfl rfl ?_
      refine k_icmp_le K147 at_118 (by decide) (pc' := 134) (pc2 := 121) (by decide) rfl (fun q => absurd (by decide) q) (fun hc118 => ?_)
      refine k_aload K147 at_121 (pc' := 123) rfl rfl rfl ?_
      refine k_iconst K147 (2 : Int32) at_123 (pc' := 124) rfl rfl ?_
      refine k_virtualP K147 [(.int (2 : Int32))] [] 0 (w171 hw) (w172 hw) (w173 hw) (w174 hw) (w10 hw) (w175 hw) (notFace_of_selects (args := #[]) (mvT K147.hZ (w174 hw))) rfl (by decide) S_r.1 (by decide) pd__I_C_577 (c_charAt l Z a0 hw hEW n0 r t kt (1 + 3) 2 ((pk xb).toInt8.toInt32) (43 :: [((pk xa).toInt8.toInt32 : Int32), ((pk xb).toInt8.toInt32 : Int32), ((pk xc).toInt8.toInt32 : Int32)]) ff cs0 h143 K147.old SF hff S_r (by decide) (by decide) rfl SC hcs) at_124 nofun (pc' := 127) rfl rfl rfl rfl (Nat.le_of_eq rfl) (by decide) (by decide) (by decide) (by decide) ?_
      intro b148 T148 L148 K148 tr148
      show Goes p_.tables e_ below_ _ (T148.setTop (mkF m_ 127 #[.val (.int xa), .val (.int xb), .val (.int xc), .val (.int xn), .val (.int (3 : Int32)), .val (.int (pk xa)), .val (.int (pk xb)), .val (.int (pk xc)), .val (.ref s), .val (.ref r)] [(.int ((pk xb).toInt8.toInt32 &&& 255).toUInt32.toUInt16.toUInt32.toInt32)]))
      refine k_iload K148 at_127 (pc' := 129) rfl rfl ?_
      refine k_icmp_eq K148 at_129 (by decide) (pc' := 134) (pc2 := 132) (by decide) rfl (fun hc129 => ?_) (fun q => absurd (own_ch hB) q)
      refine k_iload K148 at_134 (pc' := 136) rfl rfl ?_
      refine k_iconst K148 (2 : Int32) at_136 (pc' := 137) rfl rfl ?_
      refine k_icmp_le K148 at_137 (by decide) (pc' := 153) (pc2 := 140) (by decide) rfl (fun q => absurd (by decide) q) (fun hc137 => ?_)
      refine k_aload K148 at_140 (pc' := 142) rfl rfl rfl ?_
      refine k_iconst K148 (3 : Int32) at_142 (pc' := 143) rfl rfl ?_
      refine k_virtualP K148 [(.int (3 : Int32))] [] 0 (w171 hw) (w172 hw) (w173 hw) (w174 hw) (w10 hw) (w175 hw) (notFace_of_selects (args := #[]) (mvT K148.hZ (w174 hw))) rfl (by decide) S_r.1 (by decide) pd__I_C_577 (c_charAt l Z a0 hw hEW n0 r t kt (1 + 3) 3 ((pk xc).toInt8.toInt32) (43 :: [((pk xa).toInt8.toInt32 : Int32), ((pk xb).toInt8.toInt32 : Int32), ((pk xc).toInt8.toInt32 : Int32)]) ff cs0 h143 K148.old SF hff S_r (by decide) (by decide) rfl SC hcs) at_143 nofun (pc' := 146) rfl rfl rfl rfl (Nat.le_of_eq rfl) (by decide) (by decide) (by decide) (by decide) ?_
      intro b149 T149 L149 K149 tr149
      show Goes p_.tables e_ below_ _ (T149.setTop (mkF m_ 146 #[.val (.int xa), .val (.int xb), .val (.int xc), .val (.int xn), .val (.int (3 : Int32)), .val (.int (pk xa)), .val (.int (pk xb)), .val (.int (pk xc)), .val (.ref s), .val (.ref r)] [(.int ((pk xc).toInt8.toInt32 &&& 255).toUInt32.toUInt16.toUInt32.toInt32)]))
      refine k_iload K149 at_146 (pc' := 148) rfl rfl ?_
      refine k_icmp_eq K149 at_148 (by decide) (pc' := 153) (pc2 := 151) (by decide) rfl (fun hc148 => ?_) (fun q => absurd (own_ch hC) q)
      refine k_iconst K149 (1 : Int32) at_153 (pc' := 154) rfl rfl ?_
      exact k_nret K149 at_154 rfl (by simp) rfl (fun sf ht => ⟨rfl, trivial⟩) (by decide) (by decide)
theorem own_eqI {args : Array Value} {s : State} {t : Term} {k : Int32} (h : (Cond.eq t (.int k)).value args s none s [] = some true) : t.eval args s none [] s = some (.int k) := by
  obtain ⟨x, y, e1, e2, -, k2⟩ := cmp_v (Or.inl h)
  have e3 : y = .int k := (Option.some.inj e2).symm
  subst e3
  obtain ⟨z, rfl⟩ := k2
  have q : z = k := by simpa [Cond.value, Term.eval, e1] using h
  rw [e1, q]
theorem own_fld {args : Array Value} {s : State} {t : Term} {a : Addr} {C n d : String} {v : Value} (ht : t.eval args s none [] s = some (.ref a)) (h : (Term.field t C n d).eval args s none [] s = some v) : Fld s s.heap a C n d v := Fld.start (by rw [← fld_at ht]; exact h)
theorem own_arv {args : Array Value} {s : State} (hf : Fit s) {t : Term} {b : Addr} {ty : FieldType} {z : Int32} {vs : List Value} {dv : Value} (ev : t.eval args s none [] s = some (.ref b)) (hA : (Cond.arrayOf t ty).value args s none s [] = some true) (hL : (Cond.eq (.length t) (.int z)).value args s none s [] = some true) (hz : ¬ z < 0) (hl : z.toNatClampNeg = vs.length) (H : ∀ cl : Cell, s.heap[b]? = some cl → HasL cl 0 vs) : ∃ k, Arv s s.heap b k ty z vs dv := by
  obtain ⟨cl, A⟩ := Arr.start ev hA
  have e := own_eqI hL
  have q : s.arrayAt? b = some cl := A.fin (Vm.Alike.refl _)
  simp only [Term.eval, ev, q, Option.bind_eq_bind, Option.bind_some] at e
  split at e
  · rename_i hs
    exact ⟨cl.cls, Arv.start hf A hs (Value.int.inj (Option.some.inj e)) hz hl (H cl A.1)⟩
  · cases e
theorem own_el {args : Array Value} {s : State} {t : Term} {b : Addr} {j v : Int32} {cl : Cell} (ev : t.eval args s none [] s = some (.ref b)) (h : (Cond.eq (.elem t (.int j)) (.int v)).value args s none s [] = some true) (hc : s.heap[b]? = some cl) : cl.slots[j.toNatClampNeg]? = some (.int v) := (elem_in (own_eqI h) ev rfl hc).2
theorem own_eqR {args : Array Value} {s : State} {t u : Term} {x : Addr} (hu : u.eval args s none [] s = some (.ref x)) (h : (Cond.eq t u).value args s none s [] = some true) : t.eval args s none [] s = some (.ref x) := by
  obtain ⟨v, y, e1, e2, k1, k2⟩ := cmp_v (Or.inl h)
  have e3 : y = .ref x := Option.some.inj (e2.symm.trans hu)
  subst e3
  have hv : v.isRef = true := k2.2
  have q := gotT (eq_R e1 e2 hv rfl) h
  rw [e1, q]
theorem own_elR {args : Array Value} {s : State} {t u : Term} {b x : Addr} {j : Int32} {cl : Cell} (ev : t.eval args s none [] s = some (.ref b)) (hu : u.eval args s none [] s = some (.ref x)) (h : (Cond.eq (.elem t (.int j)) u).value args s none s [] = some true) (hc : s.heap[b]? = some cl) : cl.slots[j.toNatClampNeg]? = some (.ref x) := (elem_in (own_eqR hu h) ev rfl hc).2
set_option maxRecDepth 65536 in
set_option maxHeartbeats 40000000 in
theorem comes_1 {Post : Tables → Env → Array Value → State → Outcome → State → Prop} (hpost : ∀ tb e args s v u, (limb_1_1.after args s (.returned v) u = true ∧ limb_1_2.after args s (.returned v) u = true ∧ True) → ReturnedEndW s (.returned v) u (Jvm.fieldLocs frame_1_writes args s ++ Jvm.arrayLocs frame_1_arrays args s ++ Jvm.staticLocs frame_1_statics s) 32 3264 → Post tb e args s (.returned v) u) :
    ArmFor flags0 classFile x code maxLocals ret World_1 tables_1 room_1 Calls_1 rest_1 Pre_1 Post := by
  intro l hfl _ _ p e ha hc hk s m args below hf hA hF happ hP
  obtain ⟨hcalls, hrest, hpre⟩ := hP
  obtain ⟨-, -, -, hnamed, -, -, -, hat⟩ := (Spec.applies_iff hf).mp happ
  obtain ⟨hg, hn⟩ := and_e (Cond.before_iff.mp (show (Jvm.Cond.and given_1 narrow_1).before args s = true from hpre))
  obtain ⟨hg_0, hg⟩ := and_e hg
  obtain ⟨w0, w1, w2, w3, rfl⟩ : ∃ w0 w1 w2 w3 : Value, args = #[w0, w1, w2, w3] := by
    have hs : args.size = 4 := by simpa [Cond.value, given_1] using hg_0
    obtain ⟨L⟩ := args
    match L, hs with
    | [w0, w1, w2, w3], _ => exact ⟨w0, w1, w2, w3, rfl⟩
  obtain ⟨hg_1, hg⟩ := and_e hg
  obtain ⟨hg_2, hg⟩ := and_e hg
  obtain ⟨hg_3, hg⟩ := and_e hg
  have hg_4 := hg
  have hw := fun d (hd : d ∈ tables_1) => atoms_spec (ws := Jvm.Cond.code x code maxLocals ret :: tables_1) hat d (List.mem_cons_of_mem _ hd)
  have hfit : Fit s := fun {y c} hc i hi => by
    obtain ⟨ha, rfl⟩ := Array.getElem?_eq_some_iff.mp hc
    have q := List.all_eq_true.mp ((Array.all_eq_true_iff_forall_mem.mp hF) _ (Array.getElem_mem ha)) i (List.mem_range.mpr hi)
    simpa [Array.getElem?_eq_getElem hi] using q
  obtain ⟨hsets, hown0⟩ := atoms_of _ (rest_1_c_eq ▸ (show rest_1_c.before _ s = true from hrest))
  obtain ⟨i0, ei0⟩ := is_v hg_1
  obtain rfl : w0 = (.int i0) := Option.some.inj ei0
  obtain ⟨i1, ei1⟩ := is_v hg_2
  obtain rfl : w1 = (.int i1) := Option.some.inj ei1
  obtain ⟨i2, ei2⟩ := is_v hg_3
  obtain rfl : w2 = (.int i2) := Option.some.inj ei2
  obtain ⟨i3, ei3⟩ := is_v hg_4
  obtain rfl : w3 = (.int i3) := Option.some.inj ei3
  have hEW : EW s _ EL0 := (EW.cons (w41 hw) (by decide) (EW.cons (w86 hw) (by decide) (EW.cons (w193 hw) (by decide) EW.nil)))
  have hCH : CHv s EL0 s.vm s.heap := CHv.start hEW hcalls.1 (hsets _ (List.mem_of_getElem? (i := 2) rfl)) (w26 hw) (w9 hw)
  obtain ⟨cs0, ecs⟩ := is_v (Cond.before_iff.mp (hsets _ (List.mem_of_getElem? (i := 1) rfl)))
  have SC := Sta.start ecs (Or.inl (hsets _ (List.mem_of_getElem? (i := 0) rfl)))
  have hcs : ¬ cs0 = 0 := fun q => by
    have h2 := not_v (Cond.before_iff.mp (hsets _ (List.mem_of_getElem? (i := 2) rfl)))
    rw [q] at ecs
    rw [eq_i ecs (Term.int_eval 0) rfl] at h2
    cases h2
  obtain ⟨ff, eff, hff⟩ := isR_v (Cond.before_iff.mp (hsets _ (List.mem_of_getElem? (i := 8) rfl)))
  have SF := Sta.start eff (Or.inl (hsets _ (List.mem_of_getElem? (i := 7) rfl)))
  obtain ⟨n, o, h1, h2, h3, _, L, rfl, ⟨N, -, rfl, -⟩, -, hq⟩ := c_law l s _ hw hEW s.heap.size i0 i1 i2 i3 ff cs0 s.heap (Old.start s) SF hff SC hcs tables_1 p e ha hc hk s m _ below hf ((Spec.applies_iff_loose hf).mp happ).1 ⟨rfl, State.Warmed39.refl s, rfl, nofun, hCH⟩ trivial
  refine ⟨n, _, h1, h2, h3, hpost _ _ _ _ _ _ ⟨Cond.after_iff.mpr rfl, Cond.after_iff.mpr (eq_i res_at (Term.int_eval (1)) rfl), trivial⟩ ⟨hq.1, hq.2.1, hq.2.2.1, (hq.2.2.2.sift fun y hy => Or.inr (N y hy)).mono (by decide) (by decide)⟩⟩
theorem main_1_1 : Claimed_1_1 := comes_1 fun _ _ _ _ _ _ h hF => ⟨h.1, hF⟩
theorem main_1_2 : Claimed_1_2 := comes_1 fun _ _ _ _ _ _ h hF => ⟨h.2.1, hF⟩
end Jvm.Pilot.@@N@@
namespace Jvm.Pilot.@@N@@
open Jvm Jvm.ClassFile Sem Op Lib Jvm.Free Jvm.Stand Jvm.Pilot.@@N@@.Jvm.D
/-! MADE BY PROGRAM (witnessworld.py) out of the Statement's table words and the real class files: 26 classes; the members and pool entries that the words name. The judged class is class 1, her method 1. -/
namespace start1
open Jvm.ClassFile
def u (s : String) : CpInfo := .utf8 (stringToUtf16 s)
/-- a pool by its gaps: so many unusable entries, then the entry; so many at the end -/
def gap : Nat → List CpInfo → List CpInfo
  | 0, r => r
  | n + 1, r => .unusable :: gap n r
def poolList (es : List (Nat × CpInfo)) (last : Nat) : List CpInfo := es.foldr (fun e r => gap e.1 (e.2 :: r)) (gap last [])
def pool (es : List (Nat × CpInfo)) (last : Nat) : Array CpInfo := ⟨poolList es last⟩
def fileOf (pool : Array CpInfo) (this : Nat) (attrs : Array Attribute := #[]) (ms : Array MethodInfo := #[]) (fl : Nat := 33) (sup : Nat := 0) (ifs : Array Nat := #[]) (fds : Array FieldInfo := #[]) : ClassFile where
  minorVersion := 0
  majorVersion := 65
  constantPool := pool
  accessFlags := fl
  thisClass := this
  superClass := sup
  interfaces := ifs
  fields := fds
  methods := ms
  attributes := attrs
def plain (name : String) (sup : Option ClassId) : Class where
  name := name
  kind := .ordinary
  loader := none
  accessFlags := 33
  super := sup
  interfaces := #[]
  cf := none
  fields := #[]
  methods := #[]
  instanceTypes := #[]
  staticTypes := #[]
  resolved := #[]
  callSites := []
  init := .initialized
  statics := none
  mirror := none

def pool0 : Array CpInfo := pool [(5, u "<init>"), (0, u "()V"), (1, .class_ 10), (1, u "java/lang/Object")] 113

def k0c0 : Code := { maxStack := 0, maxLocals := 1, code := object_method_1_code, exceptionTable := #[], attributes := #[] }
def k0m0 : Method := { name := "<init>", desc := "()V", sig := { parameters := [], returnType := none }, accessFlags := 1, code := some k0c0 }
/-- java/lang/Object -/
def k0 : Class := { plain "java/lang/Object" none with
  accessFlags := 33
  interfaces := #[]
  cf := some (fileOf pool0 8 #[] #[{ accessFlags := 1, nameIndex := 5, descriptorIndex := 6, attributes := #[] }] 33 0 #[] #[])
  fields := #[]
  methods := #[k0m0]
  instanceTypes := #[]
  staticTypes := #[]
  resolved := Array.replicate 124 none
  statics := none }

def pool1 : Array CpInfo := pool [(2, .class_ 4), (1, u "java/lang/Object"), (0, u "<init>"), (0, u "()V"), (0, .methodref 8 9), (0, .class_ 10), (0, .nameAndType 11 12), (0, u "com/example/warm_tariff/warmtariff/FiguresSignedPinLaw"), (0, u "pick"), (0, u "(I)C"), (0, .methodref 8 14), (0, .nameAndType 15 16), (0, u "make"), (0, u "(ICCC)Ljava/lang/String;"), (0, .methodref 18 19), (0, .class_ 20), (0, .nameAndType 21 22), (0, u "com/example/warm_tariff/warmtariff/Figures"), (0, u "signed"), (0, u "(Ljava/lang/String;)Ljava/lang/String;"), (0, .methodref 24 25), (0, .class_ 26), (0, .nameAndType 27 28), (0, u "java/lang/String"), (0, u "equals"), (0, u "(Ljava/lang/Object;)Z"), (0, .methodref 24 30), (0, .nameAndType 31 32), (0, u "length"), (0, u "()I"), (0, .methodref 24 34), (0, .nameAndType 35 12), (0, u "charAt"), (0, .methodref 24 37), (0, .nameAndType 5 38), (0, u "([C)V"), (2, u "law"), (0, u "(IIII)Z")] 3

def k1m0 : Method := { name := "<init>", desc := "()V", sig := { parameters := [], returnType := none }, accessFlags := 1, code := none }
def k1c1 : Code := { maxStack := 4, maxLocals := 10, code := code, exceptionTable := #[], attributes := #[] }
def k1m1 : Method := { name := "law", desc := "(IIII)Z", sig := { parameters := [.int, .int, .int, .int], returnType := some .boolean }, accessFlags := 9, code := some k1c1 }
def k1c2 : Code := { maxStack := 2, maxLocals := 1, code := method_3_code, exceptionTable := #[], attributes := #[] }
def k1m2 : Method := { name := "pick", desc := "(I)C", sig := { parameters := [.int], returnType := some .char }, accessFlags := 10, code := some k1c2 }
def k1c3 : Code := { maxStack := 3, maxLocals := 5, code := method_4_code, exceptionTable := #[], attributes := #[] }
def k1m3 : Method := { name := "make", desc := "(ICCC)Ljava/lang/String;", sig := { parameters := [.int, .char, .char, .char], returnType := some (.object "java/lang/String") }, accessFlags := 10, code := some k1c3 }
/-- com/example/warm_tariff/warmtariff/FiguresSignedPinLaw -/
def k1 : Class := { plain "com/example/warm_tariff/warmtariff/FiguresSignedPinLaw" (some 0) with
  accessFlags := 49
  interfaces := #[]
  cf := some (fileOf pool1 8 #[] #[{ accessFlags := 1, nameIndex := 5, descriptorIndex := 6, attributes := #[] }, { accessFlags := 9, nameIndex := 41, descriptorIndex := 42, attributes := #[] }, { accessFlags := 10, nameIndex := 11, descriptorIndex := 12, attributes := #[] }, { accessFlags := 10, nameIndex := 15, descriptorIndex := 16, attributes := #[] }] 49 2 #[] #[])
  fields := #[]
  methods := #[k1m0, k1m1, k1m2, k1m3]
  instanceTypes := #[]
  staticTypes := #[]
  resolved := Array.replicate 46 none
  statics := none }

def pool2 : Array CpInfo := pool [(1, .class_ 2), (0, u "java/io/Serializable"), (0, .class_ 4), (0, u "java/lang/Object")] 2

/-- java/io/Serializable -/
def k2 : Class := { plain "java/io/Serializable" (some 0) with
  accessFlags := 1537
  interfaces := #[]
  cf := some (fileOf pool2 1 #[] #[] 1537 3 #[] #[])
  fields := #[]
  methods := #[]
  instanceTypes := #[]
  staticTypes := #[]
  resolved := Array.replicate 7 none
  statics := none }

def pool3 : Array CpInfo := pool [(1, .class_ 2), (0, u "java/lang/Comparable"), (0, .class_ 4), (0, u "java/lang/Object")] 7

/-- java/lang/Comparable -/
def k3 : Class := { plain "java/lang/Comparable" (some 0) with
  accessFlags := 1537
  interfaces := #[]
  cf := some (fileOf pool3 1 #[] #[] 1537 3 #[] #[])
  fields := #[]
  methods := #[]
  instanceTypes := #[]
  staticTypes := #[]
  resolved := Array.replicate 12 none
  statics := none }

def pool4 : Array CpInfo := pool [(2, .class_ 4), (1, u "java/lang/CharSequence"), (42, .class_ 48), (0, u "java/lang/CharSequence$1CodePointIterator"), (10, .class_ 60), (0, u "java/lang/CharSequence$1CharIterator"), (5, .class_ 67), (0, u "java/lang/Object")] 63

/-- java/lang/CharSequence -/
def k4 : Class := { plain "java/lang/CharSequence" (some 0) with
  accessFlags := 1537
  interfaces := #[]
  cf := some (fileOf pool4 2 #[.nestMembers #[47, 59]] #[] 1537 66 #[] #[])
  fields := #[]
  methods := #[]
  instanceTypes := #[]
  staticTypes := #[]
  resolved := Array.replicate 131 none
  statics := none }

def pool5 : Array CpInfo := pool [(1, .class_ 2), (0, u "java/lang/constant/Constable"), (0, .class_ 4), (0, u "java/lang/Object")] 6

/-- java/lang/constant/Constable -/
def k5 : Class := { plain "java/lang/constant/Constable" (some 0) with
  accessFlags := 1537
  interfaces := #[]
  cf := some (fileOf pool5 1 #[] #[] 1537 3 #[] #[])
  fields := #[]
  methods := #[]
  instanceTypes := #[]
  staticTypes := #[]
  resolved := Array.replicate 11 none
  statics := none }

def pool6 : Array CpInfo := pool [(1, .class_ 2), (0, u "java/lang/constant/ConstantDesc"), (0, .class_ 4), (0, u "java/lang/Object")] 32

/-- java/lang/constant/ConstantDesc -/
def k6 : Class := { plain "java/lang/constant/ConstantDesc" (some 0) with
  accessFlags := 1537
  interfaces := #[]
  cf := some (fileOf pool6 1 #[] #[] 1537 3 #[] #[])
  fields := #[]
  methods := #[]
  instanceTypes := #[]
  staticTypes := #[]
  resolved := Array.replicate 37 none
  statics := none }

def pool7 : Array CpInfo := pool [(1, .methodref 2 3), (0, .class_ 4), (0, .nameAndType 5 6), (0, u "java/lang/Object"), (0, u "<init>"), (0, u "()V"), (0, .string 8), (0, u ""), (0, .fieldref 10 11), (0, .class_ 12), (0, .nameAndType 13 14), (0, u "java/lang/String"), (0, u "value"), (0, u "[B"), (0, .fieldref 10 16), (0, .nameAndType 17 18), (0, u "coder"), (0, u "B"), (2, u "hash"), (0, u "I"), (2, u "hashIsZero"), (0, u "Z"), (0, .methodref 10 28), (0, .nameAndType 5 29), (0, u "([CIILjava/lang/Void;)V"), (8, .fieldref 10 39), (0, .nameAndType 40 26), (0, u "COMPACT_STRINGS"), (1, .class_ 44), (1, u "java/lang/StringUTF16"), (0, u "compress"), (1, .methodref 42 48), (0, .nameAndType 49 50), (0, u "coderFromArrayLen"), (0, u "([BI)B"), (3, .methodref 55 56), (0, .class_ 57), (0, .nameAndType 58 59), (0, u "java/util/Arrays"), (0, u "copyOfRange"), (0, u "([BII)[B"), (47, .class_ 109), (1, u "java/lang/StringLatin1"), (32, u "()Z"), (34, .methodref 42 178), (0, .nameAndType 45 179), (0, u "([CII)[B"), (13, .class_ 195), (1, u "java/lang/System"), (16, .methodref 193 213), (0, .nameAndType 214 215), (0, u "arraycopy"), (0, u "(Ljava/lang/Object;ILjava/lang/Object;II)V"), (118, u "()I"), (0, .methodref 10 336), (0, .nameAndType 17 337), (0, u "()B"), (2, u "()[B"), (22, u "([BI)C"), (12, u "([BI[BII)I"), (14, u "(II)V"), (35, u "(I)C"), (61, .methodref 10 490), (0, .nameAndType 5 491), (0, u "(Ljava/lang/AbstractStringBuilder;Ljava/lang/Void;)V"), (0, .methodref 10 493), (0, .nameAndType 494 142), (0, u "isLatin1"), (0, .methodref 107 496), (0, .nameAndType 497 363), (0, u "charAt"), (3, u "checkIndex"), (3, .methodref 10 506), (0, .nameAndType 507 334), (0, u "length"), (24, u "getBytes"), (10, u "equals"), (5, .methodref 550 506), (0, .class_ 551), (0, u "java/lang/AbstractStringBuilder"), (0, .methodref 550 553), (0, .nameAndType 554 340), (0, u "getValue"), (4, .class_ 561), (1, u "jdk/internal/util/ArraysSupport"), (0, u "mismatch"), (10, u "(Ljava/lang/Object;)Z"), (1, .class_ 576), (0, u "java/lang/CharSequence"), (22, u "CASE_INSENSITIVE_ORDER"), (0, u "Ljava/util/Comparator;"), (6, .methodref 559 608), (0, .nameAndType 562 376), (15, .methodref 10 625), (0, .nameAndType 626 627), (0, u "startsWith"), (0, u "(Ljava/lang/String;I)Z"), (193, u "([BIB)V"), (188, u "([C)V"), (36, .methodref 550 493), (5, .fieldref 1054 1055), (0, .class_ 1056), (0, .nameAndType 1057 1058), (0, u "jdk/internal/util/Preconditions"), (0, u "SIOOBE_FORMATTER"), (0, u "Ljava/util/function/BiFunction;"), (0, .methodref 1054 1060), (0, .nameAndType 501 1061), (0, u "(IILjava/util/function/BiFunction;)I"), (39, u "serialPersistentFields"), (0, u "[Ljava/io/ObjectStreamField;"), (0, .class_ 1104), (0, u "java/lang/String$CaseInsensitiveComparator"), (1, .class_ 1107), (0, u "java/io/Serializable"), (0, .class_ 1109), (0, u "java/lang/Comparable"), (0, .class_ 1111), (0, u "java/lang/constant/Constable"), (0, .class_ 1113), (0, u "java/lang/constant/ConstantDesc"), (2, u "serialVersionUID"), (0, u "J"), (3, u "REPL"), (0, u "C"), (2, u "LATIN1"), (1, u "UTF16"), (105, u "(Ljava/lang/StringBuilder;)V"), (23, u "(Ljava/lang/String;)Z")] 193

def k7m0 : Method := { name := "<init>", desc := "()V", sig := { parameters := [], returnType := none }, accessFlags := 1, code := none }
def k7c1 : Code := { maxStack := 5, maxLocals := 2, code := jdk_42_method_3_code, exceptionTable := #[], attributes := #[] }
def k7m1 : Method := { name := "<init>", desc := "([C)V", sig := { parameters := [(.array .char)], returnType := none }, accessFlags := 1, code := some k7c1 }
def k7c2 : Code := { maxStack := 3, maxLocals := 2, code := jdk_42_method_53_code, exceptionTable := #[], attributes := #[] }
def k7m2 : Method := { name := "<init>", desc := "(Ljava/lang/StringBuilder;)V", sig := { parameters := [(.object "java/lang/StringBuilder")], returnType := none }, accessFlags := 1, code := some k7c2 }
def k7c3 : Code := { maxStack := 2, maxLocals := 1, code := jdk_42_method_54_code, exceptionTable := #[], attributes := #[] }
def k7m3 : Method := { name := "length", desc := "()I", sig := { parameters := [], returnType := some .int }, accessFlags := 1, code := some k7c3 }
def k7c4 : Code := { maxStack := 2, maxLocals := 2, code := jdk_42_method_56_code, exceptionTable := #[], attributes := #[] }
def k7m4 : Method := { name := "charAt", desc := "(I)C", sig := { parameters := [.int], returnType := some .char }, accessFlags := 1, code := some k7c4 }
def k7c5 : Code := { maxStack := 2, maxLocals := 3, code := jdk_42_method_66_code, exceptionTable := #[], attributes := #[] }
def k7m5 : Method := { name := "equals", desc := "(Ljava/lang/Object;)Z", sig := { parameters := [(.object "java/lang/Object")], returnType := some .boolean }, accessFlags := 1, code := some k7c5 }
def k7c6 : Code := { maxStack := 5, maxLocals := 8, code := jdk_42_method_75_code, exceptionTable := #[], attributes := #[] }
def k7m6 : Method := { name := "startsWith", desc := "(Ljava/lang/String;I)Z", sig := { parameters := [(.object "java/lang/String"), .int], returnType := some .boolean }, accessFlags := 1, code := some k7c6 }
def k7c7 : Code := { maxStack := 3, maxLocals := 2, code := jdk_42_method_76_code, exceptionTable := #[], attributes := #[] }
def k7m7 : Method := { name := "startsWith", desc := "(Ljava/lang/String;)Z", sig := { parameters := [(.object "java/lang/String")], returnType := some .boolean }, accessFlags := 1, code := some k7c7 }
def k7c8 : Code := { maxStack := 5, maxLocals := 4, code := jdk_42_method_147_code, exceptionTable := #[], attributes := #[] }
def k7m8 : Method := { name := "getBytes", desc := "([BIB)V", sig := { parameters := [(.array .byte), .int, .byte], returnType := none }, accessFlags := 0, code := some k7c8 }
def k7c9 : Code := { maxStack := 4, maxLocals := 6, code := jdk_42_method_149_code, exceptionTable := #[], attributes := #[] }
def k7m9 : Method := { name := "<init>", desc := "([CIILjava/lang/Void;)V", sig := { parameters := [(.array .char), .int, .int, (.object "java/lang/Void")], returnType := none }, accessFlags := 2, code := some k7c9 }
def k7c10 : Code := { maxStack := 5, maxLocals := 5, code := jdk_42_method_150_code, exceptionTable := #[], attributes := #[] }
def k7m10 : Method := { name := "<init>", desc := "(Ljava/lang/AbstractStringBuilder;Ljava/lang/Void;)V", sig := { parameters := [(.object "java/lang/AbstractStringBuilder"), (.object "java/lang/Void")], returnType := none }, accessFlags := 0, code := some k7c10 }
def k7c11 : Code := { maxStack := 1, maxLocals := 1, code := jdk_42_method_152_code, exceptionTable := #[], attributes := #[] }
def k7m11 : Method := { name := "coder", desc := "()B", sig := { parameters := [], returnType := some .byte }, accessFlags := 0, code := some k7c11 }
def k7c12 : Code := { maxStack := 1, maxLocals := 1, code := jdk_42_method_154_code, exceptionTable := #[], attributes := #[] }
def k7m12 : Method := { name := "isLatin1", desc := "()Z", sig := { parameters := [], returnType := some .boolean }, accessFlags := 0, code := some k7c12 }
def k7c13 : Code := { maxStack := 3, maxLocals := 2, code := jdk_42_method_155_code, exceptionTable := #[], attributes := #[] }
def k7m13 : Method := { name := "checkIndex", desc := "(II)V", sig := { parameters := [.int, .int], returnType := none }, accessFlags := 8, code := some k7c13 }
/-- java/lang/String -/
def k7 : Class := { plain "java/lang/String" (some 0) with
  accessFlags := 49
  interfaces := #[2, 3, 4, 5, 6]
  cf := some (fileOf pool7 10 #[.nestMembers #[1103]] #[{ accessFlags := 1, nameIndex := 5, descriptorIndex := 6, attributes := #[] }, { accessFlags := 1, nameIndex := 5, descriptorIndex := 1010, attributes := #[] }, { accessFlags := 1, nameIndex := 5, descriptorIndex := 1233, attributes := #[] }, { accessFlags := 1, nameIndex := 507, descriptorIndex := 334, attributes := #[] }, { accessFlags := 1, nameIndex := 497, descriptorIndex := 427, attributes := #[] }, { accessFlags := 1, nameIndex := 543, descriptorIndex := 573, attributes := #[] }, { accessFlags := 1, nameIndex := 626, descriptorIndex := 627, attributes := #[] }, { accessFlags := 1, nameIndex := 626, descriptorIndex := 1257, attributes := #[] }, { accessFlags := 0, nameIndex := 532, descriptorIndex := 821, attributes := #[] }, { accessFlags := 2, nameIndex := 5, descriptorIndex := 29, attributes := #[] }, { accessFlags := 0, nameIndex := 5, descriptorIndex := 491, attributes := #[] }, { accessFlags := 0, nameIndex := 17, descriptorIndex := 337, attributes := #[] }, { accessFlags := 0, nameIndex := 494, descriptorIndex := 142, attributes := #[] }, { accessFlags := 8, nameIndex := 501, descriptorIndex := 391, attributes := #[] }] 49 2 #[1106, 1108, 575, 1110, 1112] #[{ accessFlags := 18, nameIndex := 13, descriptorIndex := 14, attributes := #[] }, { accessFlags := 18, nameIndex := 17, descriptorIndex := 18, attributes := #[] }, { accessFlags := 2, nameIndex := 21, descriptorIndex := 22, attributes := #[] }, { accessFlags := 2, nameIndex := 25, descriptorIndex := 26, attributes := #[] }, { accessFlags := 26, nameIndex := 1116, descriptorIndex := 1117, attributes := #[] }, { accessFlags := 24, nameIndex := 40, descriptorIndex := 26, attributes := #[] }, { accessFlags := 26, nameIndex := 1101, descriptorIndex := 1102, attributes := #[] }, { accessFlags := 26, nameIndex := 1121, descriptorIndex := 1122, attributes := #[] }, { accessFlags := 25, nameIndex := 599, descriptorIndex := 600, attributes := #[] }, { accessFlags := 24, nameIndex := 1125, descriptorIndex := 18, attributes := #[] }, { accessFlags := 24, nameIndex := 1127, descriptorIndex := 18, attributes := #[] }])
  fields := #[{ name := "value", type := (.array .byte), accessFlags := 18, slot := 0, constantValue := 0 }, { name := "coder", type := .byte, accessFlags := 18, slot := 1, constantValue := 0 }, { name := "hash", type := .int, accessFlags := 2, slot := 2, constantValue := 0 }, { name := "hashIsZero", type := .boolean, accessFlags := 2, slot := 3, constantValue := 0 }, { name := "serialVersionUID", type := .long, accessFlags := 26, slot := 0, constantValue := 0 }, { name := "COMPACT_STRINGS", type := .boolean, accessFlags := 24, slot := 1, constantValue := 0 }, { name := "serialPersistentFields", type := (.array (.object "java/io/ObjectStreamField")), accessFlags := 26, slot := 2, constantValue := 0 }, { name := "REPL", type := .char, accessFlags := 26, slot := 3, constantValue := 0 }, { name := "CASE_INSENSITIVE_ORDER", type := (.object "java/util/Comparator"), accessFlags := 25, slot := 4, constantValue := 0 }, { name := "LATIN1", type := .byte, accessFlags := 24, slot := 5, constantValue := 0 }, { name := "UTF16", type := .byte, accessFlags := 24, slot := 6, constantValue := 0 }]
  methods := #[k7m0, k7m1, k7m2, k7m3, k7m4, k7m5, k7m6, k7m7, k7m8, k7m9, k7m10, k7m11, k7m12, k7m13]
  instanceTypes := #[(.array .byte), .byte, .int, .boolean]
  staticTypes := #[.long, .boolean, (.array (.object "java/io/ObjectStreamField")), .char, (.object "java/util/Comparator"), .byte, .byte]
  resolved := Array.replicate 1451 none
  statics := some 0 }

def pool8 : Array CpInfo := pool [(6, .class_ 8), (1, u "java/lang/Object"), (0, u "<init>"), (0, u "()V"), (1, .class_ 14), (1, u "java/lang/StringUTF16"), (31, u "$assertionsDisabled"), (0, u "Z"), (13, u "HI_BYTE_SHIFT"), (0, u "I"), (2, u "LO_BYTE_SHIFT"), (49, .methodref 12 116), (0, .nameAndType 117 118), (0, u "compress"), (0, u "([CI[BII)I"), (3, u "([CII)[B"), (138, u "coderFromArrayLen"), (0, u "([BI)B"), (106, .class_ 371), (1, u "java/lang/StringUTF16$LinesSpliterator"), (58, u "MAX_LENGTH"), (196, .class_ 628), (0, u "java/lang/StringUTF16$CodePointsSpliterator"), (0, .class_ 630), (0, u "java/lang/StringUTF16$CharsSpliterator")] 4

def k8m0 : Method := { name := "<init>", desc := "()V", sig := { parameters := [], returnType := none }, accessFlags := 0, code := none }
def k8c1 : Code := { maxStack := 2, maxLocals := 2, code := jdk_52_method_15_code, exceptionTable := #[], attributes := #[] }
def k8m1 : Method := { name := "coderFromArrayLen", desc := "([BI)B", sig := { parameters := [(.array .byte), .int], returnType := some .byte }, accessFlags := 8, code := some k8c1 }
def k8c2 : Code := { maxStack := 5, maxLocals := 6, code := jdk_52_method_16_code, exceptionTable := #[], attributes := #[] }
def k8m2 : Method := { name := "compress", desc := "([CII)[B", sig := { parameters := [(.array .char), .int, .int], returnType := some (.array .byte) }, accessFlags := 9, code := some k8c2 }
def k8c3 : Code := { maxStack := 3, maxLocals := 7, code := jdk_52_method_21_code, exceptionTable := #[], attributes := #[] }
def k8m3 : Method := { name := "compress", desc := "([CI[BII)I", sig := { parameters := [(.array .char), .int, (.array .byte), .int, .int], returnType := some .int }, accessFlags := 9, code := some k8c3 }
/-- java/lang/StringUTF16 -/
def k8 : Class := { plain "java/lang/StringUTF16" (some 0) with
  accessFlags := 48
  interfaces := #[]
  cf := some (fileOf pool8 12 #[.nestMembers #[627, 629, 369]] #[{ accessFlags := 0, nameIndex := 9, descriptorIndex := 10, attributes := #[] }, { accessFlags := 8, nameIndex := 261, descriptorIndex := 262, attributes := #[] }, { accessFlags := 9, nameIndex := 117, descriptorIndex := 122, attributes := #[] }, { accessFlags := 9, nameIndex := 117, descriptorIndex := 118, attributes := #[] }] 48 6 #[] #[{ accessFlags := 26, nameIndex := 61, descriptorIndex := 62, attributes := #[] }, { accessFlags := 26, nameIndex := 65, descriptorIndex := 62, attributes := #[] }, { accessFlags := 24, nameIndex := 430, descriptorIndex := 62, attributes := #[] }, { accessFlags := 4120, nameIndex := 46, descriptorIndex := 47, attributes := #[] }])
  fields := #[{ name := "HI_BYTE_SHIFT", type := .int, accessFlags := 26, slot := 0, constantValue := 0 }, { name := "LO_BYTE_SHIFT", type := .int, accessFlags := 26, slot := 1, constantValue := 0 }, { name := "MAX_LENGTH", type := .int, accessFlags := 24, slot := 2, constantValue := 0 }, { name := "$assertionsDisabled", type := .boolean, accessFlags := 4120, slot := 3, constantValue := 0 }]
  methods := #[k8m0, k8m1, k8m2, k8m3]
  instanceTypes := #[]
  staticTypes := #[.int, .int, .int, .boolean]
  resolved := Array.replicate 635 none
  statics := none }

def pool9 : Array CpInfo := pool [(2, .class_ 4), (0, .nameAndType 5 6), (0, u "java/lang/Object"), (0, u "<init>"), (0, u "()V"), (15, u "()Ljava/lang/String;"), (1, .nameAndType 25 22), (0, u "toString"), (11, .string 38), (0, u "-"), (0, .methodref 40 41), (0, .class_ 42), (0, .nameAndType 43 44), (0, u "java/lang/String"), (0, u "startsWith"), (0, u "(Ljava/lang/String;)Z"), (0, .class_ 46), (0, u "java/lang/StringBuilder"), (0, .methodref 45 3), (0, .string 49), (0, u "+"), (0, .methodref 45 51), (0, .nameAndType 52 53), (0, u "append"), (0, u "(Ljava/lang/String;)Ljava/lang/StringBuilder;"), (0, .methodref 45 24), (4, .class_ 60), (0, u "com/example/warm_tariff/warmtariff/Figures"), (8, u "signed"), (0, u "(Ljava/lang/String;)Ljava/lang/String;")] 4

def k9m0 : Method := { name := "<init>", desc := "()V", sig := { parameters := [], returnType := none }, accessFlags := 2, code := none }
def k9c1 : Code := { maxStack := 2, maxLocals := 1, code := prog_10_method_6_code, exceptionTable := #[], attributes := #[] }
def k9m1 : Method := { name := "signed", desc := "(Ljava/lang/String;)Ljava/lang/String;", sig := { parameters := [(.object "java/lang/String")], returnType := some (.object "java/lang/String") }, accessFlags := 8, code := some k9c1 }
/-- com/example/warm_tariff/warmtariff/Figures -/
def k9 : Class := { plain "com/example/warm_tariff/warmtariff/Figures" (some 0) with
  accessFlags := 48
  interfaces := #[]
  cf := some (fileOf pool9 59 #[] #[{ accessFlags := 2, nameIndex := 5, descriptorIndex := 6, attributes := #[] }, { accessFlags := 8, nameIndex := 69, descriptorIndex := 70, attributes := #[] }] 48 2 #[] #[])
  fields := #[]
  methods := #[k9m0, k9m1]
  instanceTypes := #[]
  staticTypes := #[]
  resolved := Array.replicate 75 none
  statics := none }

def pool10 : Array CpInfo := pool [(9, u "<init>"), (6, .class_ 18), (1, u "java/lang/Object"), (0, u "()V"), (1, .class_ 23), (1, u "jdk/internal/util/ArraysSupport"), (0, u "LOG2_ARRAY_LONG_INDEX_SCALE"), (0, u "I"), (2, u "U"), (0, u "Ljdk/internal/misc/Unsafe;"), (8, u "BIG_ENDIAN"), (0, u "Z"), (8, u "LOG2_BYTE_BIT_SIZE"), (4, u "LOG2_ARRAY_INT_INDEX_SCALE"), (54, u "JLA"), (0, u "Ljdk/internal/access/JavaLangAccess;"), (11, u "LOG2_ARRAY_BOOLEAN_INDEX_SCALE"), (9, u "LOG2_ARRAY_BYTE_INDEX_SCALE"), (5, u "LOG2_ARRAY_CHAR_INDEX_SCALE"), (5, u "LOG2_ARRAY_SHORT_INDEX_SCALE"), (5, u "mismatch"), (12, u "LOG2_ARRAY_FLOAT_INDEX_SCALE"), (24, u "LOG2_ARRAY_DOUBLE_INDEX_SCALE"), (89, u "T_BOOLEAN"), (2, u "T_CHAR"), (1, u "T_FLOAT"), (1, u "T_DOUBLE"), (1, u "T_BYTE"), (1, u "T_SHORT"), (1, u "T_INT"), (1, u "T_LONG"), (1, u "SOFT_MAX_ARRAY_LENGTH"), (42, u "([BI[BII)I")] 40

def k10m0 : Method := { name := "<init>", desc := "()V", sig := { parameters := [], returnType := none }, accessFlags := 2, code := none }
def k10c1 : Code := { maxStack := 8, maxLocals := 8, code := jdk_48_method_14_code, exceptionTable := #[], attributes := #[] }
def k10m1 : Method := { name := "mismatch", desc := "([BI[BII)I", sig := { parameters := [(.array .byte), .int, (.array .byte), .int, .int], returnType := some .int }, accessFlags := 9, code := some k10c1 }
/-- jdk/internal/util/ArraysSupport -/
def k10 : Class := { plain "jdk/internal/util/ArraysSupport" (some 0) with
  accessFlags := 33
  interfaces := #[]
  cf := some (fileOf pool10 21 #[] #[{ accessFlags := 2, nameIndex := 9, descriptorIndex := 19, attributes := #[] }, { accessFlags := 9, nameIndex := 149, descriptorIndex := 337, attributes := #[] }] 33 16 #[] #[{ accessFlags := 24, nameIndex := 28, descriptorIndex := 29, attributes := #[] }, { accessFlags := 26, nameIndex := 38, descriptorIndex := 39, attributes := #[] }, { accessFlags := 25, nameIndex := 121, descriptorIndex := 25, attributes := #[] }, { accessFlags := 25, nameIndex := 131, descriptorIndex := 25, attributes := #[] }, { accessFlags := 25, nameIndex := 137, descriptorIndex := 25, attributes := #[] }, { accessFlags := 25, nameIndex := 143, descriptorIndex := 25, attributes := #[] }, { accessFlags := 25, nameIndex := 53, descriptorIndex := 25, attributes := #[] }, { accessFlags := 25, nameIndex := 24, descriptorIndex := 25, attributes := #[] }, { accessFlags := 25, nameIndex := 162, descriptorIndex := 25, attributes := #[] }, { accessFlags := 25, nameIndex := 187, descriptorIndex := 25, attributes := #[] }, { accessFlags := 26, nameIndex := 48, descriptorIndex := 25, attributes := #[] }, { accessFlags := 25, nameIndex := 277, descriptorIndex := 25, attributes := #[] }, { accessFlags := 25, nameIndex := 280, descriptorIndex := 25, attributes := #[] }, { accessFlags := 25, nameIndex := 282, descriptorIndex := 25, attributes := #[] }, { accessFlags := 25, nameIndex := 284, descriptorIndex := 25, attributes := #[] }, { accessFlags := 25, nameIndex := 286, descriptorIndex := 25, attributes := #[] }, { accessFlags := 25, nameIndex := 288, descriptorIndex := 25, attributes := #[] }, { accessFlags := 25, nameIndex := 290, descriptorIndex := 25, attributes := #[] }, { accessFlags := 25, nameIndex := 292, descriptorIndex := 25, attributes := #[] }, { accessFlags := 26, nameIndex := 108, descriptorIndex := 109, attributes := #[] }, { accessFlags := 25, nameIndex := 294, descriptorIndex := 25, attributes := #[] }])
  fields := #[{ name := "U", type := (.object "jdk/internal/misc/Unsafe"), accessFlags := 24, slot := 0, constantValue := 0 }, { name := "BIG_ENDIAN", type := .boolean, accessFlags := 26, slot := 1, constantValue := 0 }, { name := "LOG2_ARRAY_BOOLEAN_INDEX_SCALE", type := .int, accessFlags := 25, slot := 2, constantValue := 0 }, { name := "LOG2_ARRAY_BYTE_INDEX_SCALE", type := .int, accessFlags := 25, slot := 3, constantValue := 0 }, { name := "LOG2_ARRAY_CHAR_INDEX_SCALE", type := .int, accessFlags := 25, slot := 4, constantValue := 0 }, { name := "LOG2_ARRAY_SHORT_INDEX_SCALE", type := .int, accessFlags := 25, slot := 5, constantValue := 0 }, { name := "LOG2_ARRAY_INT_INDEX_SCALE", type := .int, accessFlags := 25, slot := 6, constantValue := 0 }, { name := "LOG2_ARRAY_LONG_INDEX_SCALE", type := .int, accessFlags := 25, slot := 7, constantValue := 0 }, { name := "LOG2_ARRAY_FLOAT_INDEX_SCALE", type := .int, accessFlags := 25, slot := 8, constantValue := 0 }, { name := "LOG2_ARRAY_DOUBLE_INDEX_SCALE", type := .int, accessFlags := 25, slot := 9, constantValue := 0 }, { name := "LOG2_BYTE_BIT_SIZE", type := .int, accessFlags := 26, slot := 10, constantValue := 0 }, { name := "T_BOOLEAN", type := .int, accessFlags := 25, slot := 11, constantValue := 0 }, { name := "T_CHAR", type := .int, accessFlags := 25, slot := 12, constantValue := 0 }, { name := "T_FLOAT", type := .int, accessFlags := 25, slot := 13, constantValue := 0 }, { name := "T_DOUBLE", type := .int, accessFlags := 25, slot := 14, constantValue := 0 }, { name := "T_BYTE", type := .int, accessFlags := 25, slot := 15, constantValue := 0 }, { name := "T_SHORT", type := .int, accessFlags := 25, slot := 16, constantValue := 0 }, { name := "T_INT", type := .int, accessFlags := 25, slot := 17, constantValue := 0 }, { name := "T_LONG", type := .int, accessFlags := 25, slot := 18, constantValue := 0 }, { name := "JLA", type := (.object "jdk/internal/access/JavaLangAccess"), accessFlags := 26, slot := 19, constantValue := 0 }, { name := "SOFT_MAX_ARRAY_LENGTH", type := .int, accessFlags := 25, slot := 20, constantValue := 0 }]
  methods := #[k10m0, k10m1]
  instanceTypes := #[]
  staticTypes := #[(.object "jdk/internal/misc/Unsafe"), .boolean, .int, .int, .int, .int, .int, .int, .int, .int, .int, .int, .int, .int, .int, .int, .int, .int, .int, (.object "jdk/internal/access/JavaLangAccess"), .int]
  resolved := Array.replicate 378 none
  statics := none }

def pool11 : Array CpInfo := pool [(1, .class_ 2), (0, u "java/lang/Appendable"), (0, .class_ 4), (0, u "java/lang/Object")] 9

/-- java/lang/Appendable -/
def k11 : Class := { plain "java/lang/Appendable" (some 0) with
  accessFlags := 1537
  interfaces := #[]
  cf := some (fileOf pool11 1 #[] #[] 1537 3 #[] #[])
  fields := #[]
  methods := #[]
  instanceTypes := #[]
  staticTypes := #[]
  resolved := Array.replicate 14 none
  statics := none }

def pool12 : Array CpInfo := pool [(1, .class_ 2), (0, u "java/lang/String"), (0, .methodref 4 5), (0, .class_ 6), (0, .nameAndType 7 8), (0, u "java/lang/Object"), (0, u "<init>"), (0, u "()V"), (1, .class_ 12), (1, u "java/lang/AbstractStringBuilder"), (0, u "EMPTYVALUE"), (0, u "[B"), (0, .fieldref 10 16), (0, .nameAndType 17 14), (0, u "value"), (0, .fieldref 1 19), (0, .nameAndType 20 21), (0, u "COMPACT_STRINGS"), (0, u "Z"), (0, .fieldref 10 23), (0, .nameAndType 24 25), (0, u "coder"), (0, u "B"), (6, .methodref 1 33), (0, .nameAndType 34 35), (0, u "length"), (0, u "()I"), (4, .methodref 1 41), (0, .nameAndType 24 42), (0, u "()B"), (2, u "append"), (0, u "(Ljava/lang/String;)Ljava/lang/AbstractStringBuilder;"), (1, .class_ 49), (0, u "java/lang/CharSequence"), (19, u "(Ljava/lang/String;)V"), (5, u "maybeLatin1"), (3, .fieldref 10 80), (0, .nameAndType 81 82), (0, u "count"), (0, u "I"), (2, u "isLatin1"), (0, u "()Z"), (13, .methodref 10 101), (0, .nameAndType 102 103), (0, u "ensureCapacityInternal"), (0, u "(I)V"), (104, .methodref 10 209), (0, .nameAndType 210 211), (0, u "putStringAt"), (0, u "(ILjava/lang/String;)V"), (5, u "inflateIfNeededFor"), (2, .nameAndType 221 222), (0, u "getBytes"), (0, u "([BIB)V"), (174, .methodref 10 398), (0, .nameAndType 217 69), (0, .methodref 1 220), (3, u "()[B"), (40, .class_ 445), (0, u "java/lang/Appendable"), (106, u "getValue")] 56

def k12m0 : Method := { name := "<init>", desc := "()V", sig := { parameters := [], returnType := none }, accessFlags := 0, code := none }
def k12c1 : Code := { maxStack := 2, maxLocals := 2, code := jdk_68_method_2_code, exceptionTable := #[], attributes := #[] }
def k12m1 : Method := { name := "<init>", desc := "(I)V", sig := { parameters := [.int], returnType := none }, accessFlags := 0, code := some k12c1 }
def k12c2 : Code := { maxStack := 1, maxLocals := 1, code := jdk_68_method_6_code, exceptionTable := #[], attributes := #[] }
def k12m2 : Method := { name := "length", desc := "()I", sig := { parameters := [], returnType := some .int }, accessFlags := 1, code := some k12c2 }
def k12c3 : Code := { maxStack := 4, maxLocals := 3, code := jdk_68_method_9_code, exceptionTable := #[], attributes := #[] }
def k12m3 : Method := { name := "ensureCapacityInternal", desc := "(I)V", sig := { parameters := [.int], returnType := none }, accessFlags := 2, code := some k12c3 }
def k12c4 : Code := { maxStack := 3, maxLocals := 3, code := jdk_68_method_22_code, exceptionTable := #[], attributes := #[] }
def k12m4 : Method := { name := "append", desc := "(Ljava/lang/String;)Ljava/lang/AbstractStringBuilder;", sig := { parameters := [(.object "java/lang/String")], returnType := some (.object "java/lang/AbstractStringBuilder") }, accessFlags := 1, code := some k12c4 }
def k12c5 : Code := { maxStack := 1, maxLocals := 1, code := jdk_68_method_64_code, exceptionTable := #[], attributes := #[] }
def k12m5 : Method := { name := "getValue", desc := "()[B", sig := { parameters := [], returnType := some (.array .byte) }, accessFlags := 16, code := some k12c5 }
def k12c6 : Code := { maxStack := 1, maxLocals := 1, code := jdk_68_method_68_code, exceptionTable := #[], attributes := #[] }
def k12m6 : Method := { name := "isLatin1", desc := "()Z", sig := { parameters := [], returnType := some .boolean }, accessFlags := 16, code := some k12c6 }
def k12c7 : Code := { maxStack := 2, maxLocals := 2, code := jdk_68_method_71_code, exceptionTable := #[], attributes := #[] }
def k12m7 : Method := { name := "inflateIfNeededFor", desc := "(Ljava/lang/String;)V", sig := { parameters := [(.object "java/lang/String")], returnType := none }, accessFlags := 2, code := some k12c7 }
def k12c8 : Code := { maxStack := 4, maxLocals := 3, code := jdk_68_method_73_code, exceptionTable := #[], attributes := #[] }
def k12m8 : Method := { name := "putStringAt", desc := "(ILjava/lang/String;)V", sig := { parameters := [.int, (.object "java/lang/String")], returnType := none }, accessFlags := 2, code := some k12c8 }
/-- java/lang/AbstractStringBuilder -/
def k12 : Class := { plain "java/lang/AbstractStringBuilder" (some 0) with
  accessFlags := 1056
  interfaces := #[11, 4]
  cf := some (fileOf pool12 10 #[] #[{ accessFlags := 0, nameIndex := 7, descriptorIndex := 8, attributes := #[] }, { accessFlags := 0, nameIndex := 7, descriptorIndex := 103, attributes := #[] }, { accessFlags := 1, nameIndex := 34, descriptorIndex := 35, attributes := #[] }, { accessFlags := 2, nameIndex := 102, descriptorIndex := 103, attributes := #[] }, { accessFlags := 1, nameIndex := 45, descriptorIndex := 46, attributes := #[] }, { accessFlags := 16, nameIndex := 552, descriptorIndex := 403, attributes := #[] }, { accessFlags := 16, nameIndex := 85, descriptorIndex := 86, attributes := #[] }, { accessFlags := 2, nameIndex := 217, descriptorIndex := 69, attributes := #[] }, { accessFlags := 2, nameIndex := 210, descriptorIndex := 211, attributes := #[] }] 1056 4 #[444, 48] #[{ accessFlags := 0, nameIndex := 17, descriptorIndex := 14, attributes := #[] }, { accessFlags := 0, nameIndex := 24, descriptorIndex := 25, attributes := #[] }, { accessFlags := 0, nameIndex := 75, descriptorIndex := 21, attributes := #[] }, { accessFlags := 0, nameIndex := 81, descriptorIndex := 82, attributes := #[] }, { accessFlags := 26, nameIndex := 13, descriptorIndex := 14, attributes := #[] }])
  fields := #[{ name := "value", type := (.array .byte), accessFlags := 0, slot := 0, constantValue := 0 }, { name := "coder", type := .byte, accessFlags := 0, slot := 1, constantValue := 0 }, { name := "maybeLatin1", type := .boolean, accessFlags := 0, slot := 2, constantValue := 0 }, { name := "count", type := .int, accessFlags := 0, slot := 3, constantValue := 0 }, { name := "EMPTYVALUE", type := (.array .byte), accessFlags := 26, slot := 0, constantValue := 0 }]
  methods := #[k12m0, k12m1, k12m2, k12m3, k12m4, k12m5, k12m6, k12m7, k12m8]
  instanceTypes := #[(.array .byte), .byte, .boolean, .int]
  staticTypes := #[(.array .byte)]
  resolved := Array.replicate 609 none
  statics := none }

def pool13 : Array CpInfo := pool [(1, .methodref 2 3), (0, .class_ 4), (0, .nameAndType 5 6), (0, u "java/lang/AbstractStringBuilder"), (0, u "<init>"), (0, u "(I)V"), (11, .class_ 20), (1, u "java/lang/String"), (3, .class_ 26), (1, u "java/lang/StringBuilder"), (0, u "append"), (0, u "(Ljava/lang/String;)Ljava/lang/StringBuilder;"), (0, .methodref 2 30), (0, .nameAndType 27 31), (0, u "(Ljava/lang/String;)Ljava/lang/AbstractStringBuilder;"), (105, .methodref 18 138), (0, .nameAndType 5 139), (0, u "(Ljava/lang/StringBuilder;)V"), (5, u "()V"), (10, u "()I"), (186, .methodref 2 344), (0, .nameAndType 345 156), (0, u "length"), (3, .class_ 350), (0, u "java/lang/Appendable"), (0, .class_ 352), (0, u "java/io/Serializable"), (0, .class_ 354), (0, u "java/lang/Comparable"), (0, .class_ 356), (0, u "java/lang/CharSequence"), (0, u "serialVersionUID"), (0, u "J"), (40, u "toString"), (0, u "()Ljava/lang/String;")] 21

def k13c0 : Code := { maxStack := 2, maxLocals := 1, code := jdk_67_method_1_code, exceptionTable := #[], attributes := #[] }
def k13m0 : Method := { name := "<init>", desc := "()V", sig := { parameters := [], returnType := none }, accessFlags := 1, code := some k13c0 }
def k13c1 : Code := { maxStack := 2, maxLocals := 2, code := jdk_67_method_7_code, exceptionTable := #[], attributes := #[] }
def k13m1 : Method := { name := "append", desc := "(Ljava/lang/String;)Ljava/lang/StringBuilder;", sig := { parameters := [(.object "java/lang/String")], returnType := some (.object "java/lang/StringBuilder") }, accessFlags := 1, code := some k13c1 }
def k13c2 : Code := { maxStack := 3, maxLocals := 1, code := jdk_67_method_42_code, exceptionTable := #[], attributes := #[] }
def k13m2 : Method := { name := "toString", desc := "()Ljava/lang/String;", sig := { parameters := [], returnType := some (.object "java/lang/String") }, accessFlags := 1, code := some k13c2 }
def k13c3 : Code := { maxStack := 1, maxLocals := 1, code := jdk_67_method_93_code, exceptionTable := #[], attributes := #[] }
def k13m3 : Method := { name := "length", desc := "()I", sig := { parameters := [], returnType := some .int }, accessFlags := 4161, code := some k13c3 }
/-- java/lang/StringBuilder -/
def k13 : Class := { plain "java/lang/StringBuilder" (some 12) with
  accessFlags := 49
  interfaces := #[11, 2, 3, 4]
  cf := some (fileOf pool13 24 #[] #[{ accessFlags := 1, nameIndex := 5, descriptorIndex := 145, attributes := #[] }, { accessFlags := 1, nameIndex := 27, descriptorIndex := 28, attributes := #[] }, { accessFlags := 1, nameIndex := 399, descriptorIndex := 400, attributes := #[] }, { accessFlags := 4161, nameIndex := 345, descriptorIndex := 156, attributes := #[] }] 49 2 #[349, 351, 353, 355] #[{ accessFlags := 24, nameIndex := 357, descriptorIndex := 358, attributes := #[] }])
  fields := #[{ name := "serialVersionUID", type := .long, accessFlags := 24, slot := 0, constantValue := 0 }]
  methods := #[k13m0, k13m1, k13m2, k13m3]
  instanceTypes := #[(.array .byte), .byte, .boolean, .int]
  staticTypes := #[.long]
  resolved := Array.replicate 422 none
  statics := none }

def pool14 : Array CpInfo := pool [(2, .class_ 4), (1, u "java/lang/Object"), (0, u "<init>"), (0, u "()V"), (1, .class_ 10), (1, u "java/lang/System"), (0, u "allowSecurityManager"), (0, u "I"), (16, u "cons"), (0, u "Ljava/io/Console;"), (77, .class_ 110), (1, u "java/lang/System$CallersHolder"), (43, u "initialErrStream"), (0, u "Ljava/io/PrintStream;"), (19, u "security"), (0, u "Ljava/lang/SecurityManager;"), (31, .class_ 209), (0, u "java/lang/System$1"), (7, u "props"), (0, u "Ljava/util/Properties;"), (2, u "lineSeparator"), (0, u "Ljava/lang/String;"), (96, .class_ 321), (1, u "java/lang/System$LoggerFinder"), (5, .class_ 328), (0, u "java/lang/System$Logger"), (67, u "err"), (2, u "out"), (91, u "notSupportedJnuEncoding"), (15, u "in"), (17, u "initialIn"), (0, u "Ljava/io/InputStream;"), (35, u "bootLayer"), (0, u "Ljava/lang/ModuleLayer;"), (99, .class_ 664), (0, u "java/lang/System$2"), (9, u "NEVER"), (2, u "MAYBE"), (49, u "arraycopy"), (0, u "(Ljava/lang/Object;ILjava/lang/Object;II)V"), (72, .class_ 802), (0, u "java/lang/System$Logger$Level")] 31

def k14m0 : Method := { name := "<init>", desc := "()V", sig := { parameters := [], returnType := none }, accessFlags := 2, code := none }
def k14m1 : Method := { name := "arraycopy", desc := "(Ljava/lang/Object;ILjava/lang/Object;II)V", sig := { parameters := [(.object "java/lang/Object"), .int, (.object "java/lang/Object"), .int, .int], returnType := none }, accessFlags := 265, code := none }
/-- java/lang/System -/
def k14 : Class := { plain "java/lang/System" (some 0) with
  accessFlags := 49
  interfaces := #[]
  cf := some (fileOf pool14 8 #[.nestMembers #[319, 327, 801, 108, 663, 208]] #[{ accessFlags := 2, nameIndex := 5, descriptorIndex := 6, attributes := #[] }, { accessFlags := 265, nameIndex := 727, descriptorIndex := 728, attributes := #[] }] 49 2 #[] #[{ accessFlags := 25, nameIndex := 507, descriptorIndex := 526, attributes := #[] }, { accessFlags := 25, nameIndex := 399, descriptorIndex := 155, attributes := #[] }, { accessFlags := 25, nameIndex := 396, descriptorIndex := 155, attributes := #[] }, { accessFlags := 10, nameIndex := 525, descriptorIndex := 526, attributes := #[] }, { accessFlags := 26, nameIndex := 674, descriptorIndex := 12, attributes := #[] }, { accessFlags := 26, nameIndex := 677, descriptorIndex := 12, attributes := #[] }, { accessFlags := 10, nameIndex := 11, descriptorIndex := 12, attributes := #[] }, { accessFlags := 74, nameIndex := 175, descriptorIndex := 176, attributes := #[] }, { accessFlags := 10, nameIndex := 491, descriptorIndex := 222, attributes := #[] }, { accessFlags := 74, nameIndex := 29, descriptorIndex := 30, attributes := #[] }, { accessFlags := 74, nameIndex := 154, descriptorIndex := 155, attributes := #[] }, { accessFlags := 10, nameIndex := 217, descriptorIndex := 218, attributes := #[] }, { accessFlags := 10, nameIndex := 221, descriptorIndex := 222, attributes := #[] }, { accessFlags := 8, nameIndex := 562, descriptorIndex := 563, attributes := #[] }])
  fields := #[{ name := "in", type := (.object "java/io/InputStream"), accessFlags := 25, slot := 0, constantValue := 0 }, { name := "out", type := (.object "java/io/PrintStream"), accessFlags := 25, slot := 1, constantValue := 0 }, { name := "err", type := (.object "java/io/PrintStream"), accessFlags := 25, slot := 2, constantValue := 0 }, { name := "initialIn", type := (.object "java/io/InputStream"), accessFlags := 10, slot := 3, constantValue := 0 }, { name := "NEVER", type := .int, accessFlags := 26, slot := 4, constantValue := 0 }, { name := "MAYBE", type := .int, accessFlags := 26, slot := 5, constantValue := 0 }, { name := "allowSecurityManager", type := .int, accessFlags := 10, slot := 6, constantValue := 0 }, { name := "security", type := (.object "java/lang/SecurityManager"), accessFlags := 74, slot := 7, constantValue := 0 }, { name := "notSupportedJnuEncoding", type := (.object "java/lang/String"), accessFlags := 10, slot := 8, constantValue := 0 }, { name := "cons", type := (.object "java/io/Console"), accessFlags := 74, slot := 9, constantValue := 0 }, { name := "initialErrStream", type := (.object "java/io/PrintStream"), accessFlags := 74, slot := 10, constantValue := 0 }, { name := "props", type := (.object "java/util/Properties"), accessFlags := 10, slot := 11, constantValue := 0 }, { name := "lineSeparator", type := (.object "java/lang/String"), accessFlags := 10, slot := 12, constantValue := 0 }, { name := "bootLayer", type := (.object "java/lang/ModuleLayer"), accessFlags := 8, slot := 13, constantValue := 0 }]
  methods := #[k14m0, k14m1]
  instanceTypes := #[]
  staticTypes := #[(.object "java/io/InputStream"), (.object "java/io/PrintStream"), (.object "java/io/PrintStream"), (.object "java/io/InputStream"), .int, .int, .int, (.object "java/lang/SecurityManager"), (.object "java/lang/String"), (.object "java/io/Console"), (.object "java/io/PrintStream"), (.object "java/util/Properties"), (.object "java/lang/String"), (.object "java/lang/ModuleLayer")]
  resolved := Array.replicate 834 none
  statics := none }

def pool15 : Array CpInfo := pool [(2, .class_ 4), (1, u "java/lang/Object"), (0, u "<init>"), (0, u "()V"), (7, .class_ 16), (1, u "java/util/Arrays"), (57, .class_ 76), (1, u "java/util/Arrays$NaturalOrder"), (36, .class_ 115), (1, u "java/util/Arrays$LegacyMergeSort"), (1, u "Z"), (21, u "copyOfRange"), (10, .methodref 151 152), (0, .class_ 153), (0, .nameAndType 154 155), (0, u "java/lang/System"), (0, u "arraycopy"), (0, u "(Ljava/lang/Object;ILjava/lang/Object;II)V"), (148, .methodref 305 306), (0, .class_ 307), (0, .nameAndType 308 309), (0, u "java/lang/Math"), (0, u "min"), (0, u "(II)I"), (29, .methodref 14 340), (0, .nameAndType 341 342), (0, u "copyOfRangeByte"), (0, u "([BII)[B"), (0, .methodref 14 344), (0, .nameAndType 345 346), (0, u "checkLength"), (0, u "(II)V"), (28, .class_ 376), (0, u "java/util/Arrays$ArrayList"), (68, u "$assertionsDisabled"), (269, u "MIN_ARRAY_SORT_GRAN"), (0, u "I"), (2, u "INSERTIONSORT_THRESHOLD"), (255, .class_ 976), (0, u "java/util/Arrays$ArrayItr")] 52

def k15m0 : Method := { name := "<init>", desc := "()V", sig := { parameters := [], returnType := none }, accessFlags := 2, code := none }
def k15c1 : Code := { maxStack := 4, maxLocals := 2, code := jdk_65_method_131_code, exceptionTable := #[], attributes := #[] }
def k15m1 : Method := { name := "checkLength", desc := "(II)V", sig := { parameters := [.int, .int], returnType := none }, accessFlags := 10, code := some k15c1 }
def k15c2 : Code := { maxStack := 3, maxLocals := 3, code := jdk_65_method_132_code, exceptionTable := #[], attributes := #[] }
def k15m2 : Method := { name := "copyOfRange", desc := "([BII)[B", sig := { parameters := [(.array .byte), .int, .int], returnType := some (.array .byte) }, accessFlags := 9, code := some k15c2 }
def k15c3 : Code := { maxStack := 6, maxLocals := 5, code := jdk_65_method_133_code, exceptionTable := #[], attributes := #[] }
def k15m3 : Method := { name := "copyOfRangeByte", desc := "([BII)[B", sig := { parameters := [(.array .byte), .int, .int], returnType := some (.array .byte) }, accessFlags := 10, code := some k15c3 }
/-- java/util/Arrays -/
def k15 : Class := { plain "java/util/Arrays" (some 0) with
  accessFlags := 49
  interfaces := #[]
  cf := some (fileOf pool15 14 #[.nestMembers #[975, 375, 113, 74]] #[{ accessFlags := 2, nameIndex := 5, descriptorIndex := 6, attributes := #[] }, { accessFlags := 10, nameIndex := 345, descriptorIndex := 346, attributes := #[] }, { accessFlags := 9, nameIndex := 139, descriptorIndex := 342, attributes := #[] }, { accessFlags := 10, nameIndex := 341, descriptorIndex := 342, attributes := #[] }] 49 2 #[] #[{ accessFlags := 26, nameIndex := 715, descriptorIndex := 716, attributes := #[] }, { accessFlags := 26, nameIndex := 719, descriptorIndex := 716, attributes := #[] }, { accessFlags := 4120, nameIndex := 445, descriptorIndex := 117, attributes := #[] }])
  fields := #[{ name := "MIN_ARRAY_SORT_GRAN", type := .int, accessFlags := 26, slot := 0, constantValue := 0 }, { name := "INSERTIONSORT_THRESHOLD", type := .int, accessFlags := 26, slot := 1, constantValue := 0 }, { name := "$assertionsDisabled", type := .boolean, accessFlags := 4120, slot := 2, constantValue := 0 }]
  methods := #[k15m0, k15m1, k15m2, k15m3]
  instanceTypes := #[]
  staticTypes := #[.int, .int, .boolean]
  resolved := Array.replicate 1029 none
  statics := none }

def pool16 : Array CpInfo := pool [(1, .class_ 2), (0, u "java/lang/Math"), (1, .class_ 6), (1, u "java/lang/Object"), (0, u "<init>"), (0, u "()V"), (89, .class_ 100), (1, u "java/lang/Math$RandomNumberGeneratorHolder"), (71, u "negativeZeroFloatBits"), (0, u "J"), (2, u "negativeZeroDoubleBits"), (24, u "min"), (43, u "$assertionsDisabled"), (0, u "Z"), (88, u "(II)I"), (2, u "twoToTheDoubleScaleDown"), (0, u "D"), (4, u "twoToTheDoubleScaleUp"), (9, u "E"), (3, u "PI"), (2, u "TAU"), (2, u "DEGREES_TO_RADIANS"), (0, u "RADIANS_TO_DEGREES")] 94

def k16m0 : Method := { name := "<init>", desc := "()V", sig := { parameters := [], returnType := none }, accessFlags := 2, code := none }
def k16c1 : Code := { maxStack := 2, maxLocals := 2, code := jdk_29_method_69_code, exceptionTable := #[], attributes := #[] }
def k16m1 : Method := { name := "min", desc := "(II)I", sig := { parameters := [.int, .int], returnType := some .int }, accessFlags := 9, code := some k16c1 }
/-- java/lang/Math -/
def k16 : Class := { plain "java/lang/Math" (some 0) with
  accessFlags := 49
  interfaces := #[]
  cf := some (fileOf pool16 1 #[.nestMembers #[98]] #[{ accessFlags := 2, nameIndex := 7, descriptorIndex := 8, attributes := #[] }, { accessFlags := 9, nameIndex := 201, descriptorIndex := 335, attributes := #[] }] 49 4 #[] #[{ accessFlags := 25, nameIndex := 354, descriptorIndex := 339, attributes := #[] }, { accessFlags := 25, nameIndex := 358, descriptorIndex := 339, attributes := #[] }, { accessFlags := 25, nameIndex := 361, descriptorIndex := 339, attributes := #[] }, { accessFlags := 26, nameIndex := 364, descriptorIndex := 339, attributes := #[] }, { accessFlags := 26, nameIndex := 365, descriptorIndex := 339, attributes := #[] }, { accessFlags := 26, nameIndex := 172, descriptorIndex := 173, attributes := #[] }, { accessFlags := 26, nameIndex := 176, descriptorIndex := 173, attributes := #[] }, { accessFlags := 8, nameIndex := 344, descriptorIndex := 339, attributes := #[] }, { accessFlags := 8, nameIndex := 338, descriptorIndex := 339, attributes := #[] }, { accessFlags := 4120, nameIndex := 245, descriptorIndex := 246, attributes := #[] }])
  fields := #[{ name := "E", type := .double, accessFlags := 25, slot := 0, constantValue := 0 }, { name := "PI", type := .double, accessFlags := 25, slot := 1, constantValue := 0 }, { name := "TAU", type := .double, accessFlags := 25, slot := 2, constantValue := 0 }, { name := "DEGREES_TO_RADIANS", type := .double, accessFlags := 26, slot := 3, constantValue := 0 }, { name := "RADIANS_TO_DEGREES", type := .double, accessFlags := 26, slot := 4, constantValue := 0 }, { name := "negativeZeroFloatBits", type := .long, accessFlags := 26, slot := 5, constantValue := 0 }, { name := "negativeZeroDoubleBits", type := .long, accessFlags := 26, slot := 6, constantValue := 0 }, { name := "twoToTheDoubleScaleUp", type := .double, accessFlags := 8, slot := 7, constantValue := 0 }, { name := "twoToTheDoubleScaleDown", type := .double, accessFlags := 8, slot := 8, constantValue := 0 }, { name := "$assertionsDisabled", type := .boolean, accessFlags := 4120, slot := 9, constantValue := 0 }]
  methods := #[k16m0, k16m1]
  instanceTypes := #[]
  staticTypes := #[.double, .double, .double, .double, .double, .long, .long, .double, .double, .boolean]
  resolved := Array.replicate 460 none
  statics := none }

def pool17 : Array CpInfo := pool [(1, .class_ 2), (0, u "java/lang/String"), (1, .class_ 6), (1, u "java/lang/Object"), (0, u "<init>"), (0, u "()V"), (0, .methodref 1 10), (0, .nameAndType 11 12), (0, u "checkIndex"), (0, u "(II)V"), (1, .class_ 16), (1, u "java/lang/StringLatin1"), (36, u "([BI)C"), (67, u "$assertionsDisabled"), (0, u "Z"), (98, .class_ 223), (1, u "java/lang/StringLatin1$LinesSpliterator"), (28, u "charAt"), (137, .class_ 391), (0, u "java/lang/StringLatin1$CharsSpliterator")] 3

def k17m0 : Method := { name := "<init>", desc := "()V", sig := { parameters := [], returnType := none }, accessFlags := 0, code := none }
def k17c1 : Code := { maxStack := 2, maxLocals := 2, code := jdk_43_method_2_code, exceptionTable := #[], attributes := #[] }
def k17m1 : Method := { name := "charAt", desc := "([BI)C", sig := { parameters := [(.array .byte), .int], returnType := some .char }, accessFlags := 9, code := some k17c1 }
/-- java/lang/StringLatin1 -/
def k17 : Class := { plain "java/lang/StringLatin1" (some 0) with
  accessFlags := 48
  interfaces := #[]
  cf := some (fileOf pool17 14 #[.nestMembers #[390, 221]] #[{ accessFlags := 0, nameIndex := 7, descriptorIndex := 8, attributes := #[] }, { accessFlags := 9, nameIndex := 252, descriptorIndex := 53, attributes := #[] }] 48 4 #[] #[{ accessFlags := 4120, nameIndex := 121, descriptorIndex := 122, attributes := #[] }])
  fields := #[{ name := "$assertionsDisabled", type := .boolean, accessFlags := 4120, slot := 0, constantValue := 0 }]
  methods := #[k17m0, k17m1]
  instanceTypes := #[]
  staticTypes := #[.boolean]
  resolved := Array.replicate 395 none
  statics := none }

def pool18 : Array CpInfo := pool [(2, .class_ 4), (1, u "java/lang/Object"), (0, u "<init>"), (0, u "()V"), (17, .class_ 26), (1, u "jdk/internal/util/Preconditions"), (6, u "checkIndex"), (21, .class_ 56), (0, u "jdk/internal/util/Preconditions$4"), (57, .class_ 115), (0, u "jdk/internal/util/Preconditions$1"), (7, u "SIOOBE_FORMATTER"), (0, u "Ljava/util/function/BiFunction;"), (0, .class_ 126), (0, u "jdk/internal/util/Preconditions$2"), (3, u "AIOOBE_FORMATTER"), (0, .class_ 132), (0, u "jdk/internal/util/Preconditions$3"), (3, u "IOOBE_FORMATTER"), (41, u "(IILjava/util/function/BiFunction;)I")] 15

def k18m0 : Method := { name := "<init>", desc := "()V", sig := { parameters := [], returnType := none }, accessFlags := 1, code := none }
def k18c1 : Code := { maxStack := 3, maxLocals := 3, code := jdk_41_method_11_code, exceptionTable := #[], attributes := #[] }
def k18m1 : Method := { name := "checkIndex", desc := "(IILjava/util/function/BiFunction;)I", sig := { parameters := [.int, .int, (.object "java/util/function/BiFunction")], returnType := some .int }, accessFlags := 9, code := some k18c1 }
/-- jdk/internal/util/Preconditions -/
def k18 : Class := { plain "jdk/internal/util/Preconditions" (some 0) with
  accessFlags := 33
  interfaces := #[]
  cf := some (fileOf pool18 24 #[.nestMembers #[55, 131, 125, 114]] #[{ accessFlags := 1, nameIndex := 5, descriptorIndex := 6, attributes := #[] }, { accessFlags := 9, nameIndex := 33, descriptorIndex := 178, attributes := #[] }] 33 2 #[] #[{ accessFlags := 25, nameIndex := 123, descriptorIndex := 124, attributes := #[] }, { accessFlags := 25, nameIndex := 130, descriptorIndex := 124, attributes := #[] }, { accessFlags := 25, nameIndex := 136, descriptorIndex := 124, attributes := #[] }])
  fields := #[{ name := "SIOOBE_FORMATTER", type := (.object "java/util/function/BiFunction"), accessFlags := 25, slot := 0, constantValue := 0 }, { name := "AIOOBE_FORMATTER", type := (.object "java/util/function/BiFunction"), accessFlags := 25, slot := 1, constantValue := 0 }, { name := "IOOBE_FORMATTER", type := (.object "java/util/function/BiFunction"), accessFlags := 25, slot := 2, constantValue := 0 }]
  methods := #[k18m0, k18m1]
  instanceTypes := #[]
  staticTypes := #[(.object "java/util/function/BiFunction"), (.object "java/util/function/BiFunction"), (.object "java/util/function/BiFunction")]
  resolved := Array.replicate 194 none
  statics := some 1 }

def pool19 : Array CpInfo := pool [(1, u "java/lang/Cloneable"), (0, .class_ 1), (0, u "java/lang/Object"), (0, .class_ 3)] 3

/-- java/lang/Cloneable -/
def k19 : Class := { plain "java/lang/Cloneable" (some 0) with
  accessFlags := 1537
  interfaces := #[]
  cf := some (fileOf pool19 2 #[] #[] 1537 4 #[] #[])
  fields := #[]
  methods := #[]
  instanceTypes := #[]
  staticTypes := #[]
  resolved := Array.replicate 8 none
  statics := none }

/-- the primitive byte -/
def k20 : Class := { plain "byte" none with kind := .primitive 'B', accessFlags := 0x411 }
/-- [B -/
def k21 : Class := { plain "[B" (some 0) with kind := .array 20 .byte, interfaces := #[19, 2], accessFlags := 1041 }

/-- the primitive char -/
def k22 : Class := { plain "char" none with kind := .primitive 'C', accessFlags := 0x411 }
/-- [C -/
def k23 : Class := { plain "[C" (some 0) with kind := .array 22 .char, interfaces := #[19, 2], accessFlags := 1041 }

/-- the primitive int -/
def k24 : Class := { plain "int" none with kind := .primitive 'I', accessFlags := 0x411 }
/-- [I -/
def k25 : Class := { plain "[I" (some 0) with kind := .array 24 .int, interfaces := #[19, 2], accessFlags := 1041 }

def heap : Heap := #[{ cls := 7, slots := #[.long 0, .int 1, .null, .int 0, .null, .int 0, .int 0], vm := .statics 7 },
  { cls := 18, slots := #[.null, .null, .null], vm := .statics 18 }]
def classes : Array Class := #[k0, k1, k2, k3, k4, k5, k6, k7, k8, k9, k10, k11, k12, k13, k14, k15, k16, k17, k18, k19, k20, k21, k22, k23, k24, k25]
def interned : List (Array UInt16 × Addr) := []
def slotsUsed : Nat := 10
def theMethod : MethodId := ⟨1, 1⟩
def args0 : Array Value := #[.int 1, .int 2, .int 3, .int 4]
def aboutOver (below : List Frame) : State where
  vm := { classes := classes, interned := interned.toArray }
  heap := heap
  slotsUsed := slotsUsed
  threads := #[{ frames := .invoking theMethod args0 :: below }]
def below0 : List Frame := [.native { method := ⟨0, 0⟩, args := #[] }]
def about1 : State := aboutOver below0
def p0 : Program := .bare "" "" ""
def e0 : Env := launch0.env 0 0 0
theorem w_frames : about1.frames = Frame.invoking theMethod args0 :: below0 := rfl
set_option maxRecDepth 65536 in
theorem w_args : argsFit about1.vm theMethod args0 = true := by decide +kernel
set_option maxRecDepth 65536 in
theorem w_heap : heapFits about1 = true := by decide +kernel
set_option maxRecDepth 65536 in
theorem w_runnable : about1.curStatus? = some .runnable := by decide +kernel
set_option maxRecDepth 65536 in
theorem w_alone : about1.alone = true := by decide +kernel
set_option maxRecDepth 65536 in
theorem w_named : about1.methodNamed? x = some theMethod := by decide +kernel
set_option maxRecDepth 65536 in
theorem w_hears : about1.hears theMethod below0 = true := by decide +kernel
set_option maxRecDepth 65536 in
theorem w_ripe : about1.ripe theMethod args0 below0 = true := by decide +kernel
theorem w_running : about1.status = .running := rfl
set_option maxRecDepth 65536 in
theorem w_room : about1.hasRoom e0.platform room_1 = true :=
  launch0.hasRoom_least _ room_1 (by decide +kernel) (by decide +kernel) (by decide +kernel) (by decide +kernel) (by decide +kernel) (by decide +kernel)
theorem allAtoms_all (ts : List Jvm.Cond) (a : Array Jvm.Value) (st : Jvm.State) : (allAtoms ts).before a st = ts.all (fun c => c.before a st) := by
  induction ts with
  | nil => rfl
  | cons c t ih =>
    show (Jvm.Cond.and c (allAtoms t)).before a st = _
    rw [Jvm.Cond.before_and, ih, List.all_cons]
def words1 : List Jvm.Cond := Jvm.Cond.code x code maxLocals ret :: tables_1
/-- a 'code' word, met by the world's own term for the bytes: nothing is compared byte by byte -/
theorem code_word {y : MethodName} {bytes : ByteArray} {mx : Nat} {rt : Option FieldType} {a : Array Value} {s : State} {m : MethodId} {meth : Method} {c : Code} (h1 : s.methodNamed? y = some m) (h2 : s.vm.method? m = some meth) (h3 : meth.code = some c) (h4 : c.code = bytes)
    (h5 : (c.maxLocals == mx && c.exceptionTable.isEmpty && decide (c.maxStack ≤ mostOperands) && decide (meth.sig.returnType = rt) && !meth.locks && decide (parseMethodDescriptor y.desc = some meth.sig)) = true) : (Jvm.Cond.code y bytes mx rt).before a s = true := by
  simp only [Bool.and_eq_true, beq_iff_eq, Bool.not_eq_true', decide_eq_true_eq] at h5
  obtain ⟨⟨⟨⟨⟨g1, g2⟩, g3⟩, g4⟩, g5⟩, g6⟩ := h5
  simp [Cond.before, Cond.holds, Cond.value, h1, h2, h3, h4, g1, g2, g3, g4, g5, g6]
def isCode : Jvm.Cond → Bool
  | .code _ _ _ _ => true
  | _ => false
theorem all_split {L : List Jvm.Cond} {P : Jvm.Cond → Bool} (h1 : L.all (fun c => isCode c || P c) = true) (h2 : ∀ c ∈ L.filter isCode, P c = true) : L.all P = true := by
  refine List.all_eq_true.mpr fun c hc => ?_
  have h := List.all_eq_true.mp h1 c hc
  rcases Bool.eq_false_or_eq_true (isCode c) with hi | hi
  · exact h2 c (List.mem_filter.mpr ⟨hc, hi⟩)
  · simpa [hi] using h
set_option maxRecDepth 65536 in
theorem w_c0 : (Jvm.Cond.code x code maxLocals ret).before args0 about1 = true := code_word (m := ⟨1, 1⟩) (meth := k1m1) (c := k1c1) (by decide +kernel) rfl rfl rfl (by decide +kernel)
set_option maxRecDepth 65536 in
theorem w_c1 : (Jvm.Cond.code ({ cls := "com/example/warm_tariff/warmtariff/FiguresSignedPinLaw", name := "pick", desc := "(I)C" } : Jvm.MethodName) method_3_code (1 : Nat) (Option.some Jvm.ClassFile.FieldType.char)).before args0 about1 = true := code_word (m := ⟨1, 2⟩) (meth := k1m2) (c := k1c2) (by decide +kernel) rfl rfl rfl (by decide +kernel)
set_option maxRecDepth 65536 in
theorem w_c2 : (Jvm.Cond.code ({ cls := "com/example/warm_tariff/warmtariff/FiguresSignedPinLaw", name := "make", desc := "(ICCC)Ljava/lang/String;" } : Jvm.MethodName) method_4_code (5 : Nat) (Option.some (Jvm.ClassFile.FieldType.object "java/lang/String"))).before args0 about1 = true := code_word (m := ⟨1, 3⟩) (meth := k1m3) (c := k1c3) (by decide +kernel) rfl rfl rfl (by decide +kernel)
set_option maxRecDepth 65536 in
theorem w_c3 : (Jvm.Cond.code ({ cls := "java/lang/String", name := "<init>", desc := "([C)V" } : Jvm.MethodName) jdk_42_method_3_code (2 : Nat) (Option.none : Option Jvm.ClassFile.FieldType)).before args0 about1 = true := code_word (m := ⟨7, 1⟩) (meth := k7m1) (c := k7c1) (by decide +kernel) rfl rfl rfl (by decide +kernel)
set_option maxRecDepth 65536 in
theorem w_c4 : (Jvm.Cond.code ({ cls := "java/lang/String", name := "<init>", desc := "([CIILjava/lang/Void;)V" } : Jvm.MethodName) jdk_42_method_149_code (6 : Nat) (Option.none : Option Jvm.ClassFile.FieldType)).before args0 about1 = true := code_word (m := ⟨7, 9⟩) (meth := k7m9) (c := k7c9) (by decide +kernel) rfl rfl rfl (by decide +kernel)
set_option maxRecDepth 65536 in
theorem w_c5 : (Jvm.Cond.code ({ cls := "java/lang/Object", name := "<init>", desc := "()V" } : Jvm.MethodName) object_method_1_code (1 : Nat) (Option.none : Option Jvm.ClassFile.FieldType)).before args0 about1 = true := code_word (m := ⟨0, 0⟩) (meth := k0m0) (c := k0c0) (by decide +kernel) rfl rfl rfl (by decide +kernel)
set_option maxRecDepth 65536 in
theorem w_c6 : (Jvm.Cond.code ({ cls := "java/lang/StringUTF16", name := "compress", desc := "([CII)[B" } : Jvm.MethodName) jdk_52_method_16_code (6 : Nat) (Option.some (Jvm.ClassFile.FieldType.array Jvm.ClassFile.FieldType.byte))).before args0 about1 = true := code_word (m := ⟨8, 2⟩) (meth := k8m2) (c := k8c2) (by decide +kernel) rfl rfl rfl (by decide +kernel)
set_option maxRecDepth 65536 in
theorem w_c7 : (Jvm.Cond.code ({ cls := "java/lang/StringUTF16", name := "compress", desc := "([CI[BII)I" } : Jvm.MethodName) jdk_52_method_21_code (7 : Nat) (Option.some Jvm.ClassFile.FieldType.int)).before args0 about1 = true := code_word (m := ⟨8, 3⟩) (meth := k8m3) (c := k8c3) (by decide +kernel) rfl rfl rfl (by decide +kernel)
set_option maxRecDepth 65536 in
theorem w_c8 : (Jvm.Cond.code ({ cls := "java/lang/StringUTF16", name := "coderFromArrayLen", desc := "([BI)B" } : Jvm.MethodName) jdk_52_method_15_code (2 : Nat) (Option.some Jvm.ClassFile.FieldType.byte)).before args0 about1 = true := code_word (m := ⟨8, 1⟩) (meth := k8m1) (c := k8c1) (by decide +kernel) rfl rfl rfl (by decide +kernel)
set_option maxRecDepth 65536 in
theorem w_c9 : (Jvm.Cond.code ({ cls := "com/example/warm_tariff/warmtariff/Figures", name := "signed", desc := "(Ljava/lang/String;)Ljava/lang/String;" } : Jvm.MethodName) prog_10_method_6_code (1 : Nat) (Option.some (Jvm.ClassFile.FieldType.object "java/lang/String"))).before args0 about1 = true := code_word (m := ⟨9, 1⟩) (meth := k9m1) (c := k9c1) (by decide +kernel) rfl rfl rfl (by decide +kernel)
set_option maxRecDepth 65536 in
theorem w_c10 : (Jvm.Cond.code ({ cls := "java/lang/String", name := "startsWith", desc := "(Ljava/lang/String;)Z" } : Jvm.MethodName) jdk_42_method_76_code (2 : Nat) (Option.some Jvm.ClassFile.FieldType.boolean)).before args0 about1 = true := code_word (m := ⟨7, 7⟩) (meth := k7m7) (c := k7c7) (by decide +kernel) rfl rfl rfl (by decide +kernel)
set_option maxRecDepth 65536 in
theorem w_c11 : (Jvm.Cond.code ({ cls := "java/lang/String", name := "startsWith", desc := "(Ljava/lang/String;I)Z" } : Jvm.MethodName) jdk_42_method_75_code (8 : Nat) (Option.some Jvm.ClassFile.FieldType.boolean)).before args0 about1 = true := code_word (m := ⟨7, 6⟩) (meth := k7m6) (c := k7c6) (by decide +kernel) rfl rfl rfl (by decide +kernel)
set_option maxRecDepth 65536 in
theorem w_c12 : (Jvm.Cond.code ({ cls := "java/lang/String", name := "length", desc := "()I" } : Jvm.MethodName) jdk_42_method_54_code (1 : Nat) (Option.some Jvm.ClassFile.FieldType.int)).before args0 about1 = true := code_word (m := ⟨7, 3⟩) (meth := k7m3) (c := k7c3) (by decide +kernel) rfl rfl rfl (by decide +kernel)
set_option maxRecDepth 65536 in
theorem w_c13 : (Jvm.Cond.code ({ cls := "java/lang/String", name := "coder", desc := "()B" } : Jvm.MethodName) jdk_42_method_152_code (1 : Nat) (Option.some Jvm.ClassFile.FieldType.byte)).before args0 about1 = true := code_word (m := ⟨7, 11⟩) (meth := k7m11) (c := k7c11) (by decide +kernel) rfl rfl rfl (by decide +kernel)
set_option maxRecDepth 65536 in
theorem w_c14 : (Jvm.Cond.code ({ cls := "jdk/internal/util/ArraysSupport", name := "mismatch", desc := "([BI[BII)I" } : Jvm.MethodName) jdk_48_method_14_code (8 : Nat) (Option.some Jvm.ClassFile.FieldType.int)).before args0 about1 = true := code_word (m := ⟨10, 1⟩) (meth := k10m1) (c := k10c1) (by decide +kernel) rfl rfl rfl (by decide +kernel)
set_option maxRecDepth 65536 in
theorem w_c15 : (Jvm.Cond.code ({ cls := "java/lang/StringBuilder", name := "<init>", desc := "()V" } : Jvm.MethodName) jdk_67_method_1_code (1 : Nat) (Option.none : Option Jvm.ClassFile.FieldType)).before args0 about1 = true := code_word (m := ⟨13, 0⟩) (meth := k13m0) (c := k13c0) (by decide +kernel) rfl rfl rfl (by decide +kernel)
set_option maxRecDepth 65536 in
theorem w_c16 : (Jvm.Cond.code ({ cls := "java/lang/AbstractStringBuilder", name := "<init>", desc := "(I)V" } : Jvm.MethodName) jdk_68_method_2_code (2 : Nat) (Option.none : Option Jvm.ClassFile.FieldType)).before args0 about1 = true := code_word (m := ⟨12, 1⟩) (meth := k12m1) (c := k12c1) (by decide +kernel) rfl rfl rfl (by decide +kernel)
set_option maxRecDepth 65536 in
theorem w_c17 : (Jvm.Cond.code ({ cls := "java/lang/StringBuilder", name := "append", desc := "(Ljava/lang/String;)Ljava/lang/StringBuilder;" } : Jvm.MethodName) jdk_67_method_7_code (2 : Nat) (Option.some (Jvm.ClassFile.FieldType.object "java/lang/StringBuilder"))).before args0 about1 = true := code_word (m := ⟨13, 1⟩) (meth := k13m1) (c := k13c1) (by decide +kernel) rfl rfl rfl (by decide +kernel)
set_option maxRecDepth 65536 in
theorem w_c18 : (Jvm.Cond.code ({ cls := "java/lang/AbstractStringBuilder", name := "append", desc := "(Ljava/lang/String;)Ljava/lang/AbstractStringBuilder;" } : Jvm.MethodName) jdk_68_method_22_code (3 : Nat) (Option.some (Jvm.ClassFile.FieldType.object "java/lang/AbstractStringBuilder"))).before args0 about1 = true := code_word (m := ⟨12, 4⟩) (meth := k12m4) (c := k12c4) (by decide +kernel) rfl rfl rfl (by decide +kernel)
set_option maxRecDepth 65536 in
theorem w_c19 : (Jvm.Cond.code ({ cls := "java/lang/AbstractStringBuilder", name := "ensureCapacityInternal", desc := "(I)V" } : Jvm.MethodName) jdk_68_method_9_code (3 : Nat) (Option.none : Option Jvm.ClassFile.FieldType)).before args0 about1 = true := code_word (m := ⟨12, 3⟩) (meth := k12m3) (c := k12c3) (by decide +kernel) rfl rfl rfl (by decide +kernel)
set_option maxRecDepth 65536 in
theorem w_c20 : (Jvm.Cond.code ({ cls := "java/lang/AbstractStringBuilder", name := "putStringAt", desc := "(ILjava/lang/String;)V" } : Jvm.MethodName) jdk_68_method_73_code (3 : Nat) (Option.none : Option Jvm.ClassFile.FieldType)).before args0 about1 = true := code_word (m := ⟨12, 8⟩) (meth := k12m8) (c := k12c8) (by decide +kernel) rfl rfl rfl (by decide +kernel)
set_option maxRecDepth 65536 in
theorem w_c21 : (Jvm.Cond.code ({ cls := "java/lang/AbstractStringBuilder", name := "inflateIfNeededFor", desc := "(Ljava/lang/String;)V" } : Jvm.MethodName) jdk_68_method_71_code (2 : Nat) (Option.none : Option Jvm.ClassFile.FieldType)).before args0 about1 = true := code_word (m := ⟨12, 7⟩) (meth := k12m7) (c := k12c7) (by decide +kernel) rfl rfl rfl (by decide +kernel)
set_option maxRecDepth 65536 in
theorem w_c22 : (Jvm.Cond.code ({ cls := "java/lang/String", name := "getBytes", desc := "([BIB)V" } : Jvm.MethodName) jdk_42_method_147_code (4 : Nat) (Option.none : Option Jvm.ClassFile.FieldType)).before args0 about1 = true := code_word (m := ⟨7, 8⟩) (meth := k7m8) (c := k7c8) (by decide +kernel) rfl rfl rfl (by decide +kernel)
set_option maxRecDepth 65536 in
theorem w_c23 : (Jvm.Cond.code ({ cls := "java/lang/StringBuilder", name := "toString", desc := "()Ljava/lang/String;" } : Jvm.MethodName) jdk_67_method_42_code (1 : Nat) (Option.some (Jvm.ClassFile.FieldType.object "java/lang/String"))).before args0 about1 = true := code_word (m := ⟨13, 2⟩) (meth := k13m2) (c := k13c2) (by decide +kernel) rfl rfl rfl (by decide +kernel)
set_option maxRecDepth 65536 in
theorem w_c24 : (Jvm.Cond.code ({ cls := "java/lang/String", name := "<init>", desc := "(Ljava/lang/StringBuilder;)V" } : Jvm.MethodName) jdk_42_method_53_code (2 : Nat) (Option.none : Option Jvm.ClassFile.FieldType)).before args0 about1 = true := code_word (m := ⟨7, 2⟩) (meth := k7m2) (c := k7c2) (by decide +kernel) rfl rfl rfl (by decide +kernel)
set_option maxRecDepth 65536 in
theorem w_c25 : (Jvm.Cond.code ({ cls := "java/lang/String", name := "<init>", desc := "(Ljava/lang/AbstractStringBuilder;Ljava/lang/Void;)V" } : Jvm.MethodName) jdk_42_method_150_code (5 : Nat) (Option.none : Option Jvm.ClassFile.FieldType)).before args0 about1 = true := code_word (m := ⟨7, 10⟩) (meth := k7m10) (c := k7c10) (by decide +kernel) rfl rfl rfl (by decide +kernel)
set_option maxRecDepth 65536 in
theorem w_c26 : (Jvm.Cond.code ({ cls := "java/lang/AbstractStringBuilder", name := "getValue", desc := "()[B" } : Jvm.MethodName) jdk_68_method_64_code (1 : Nat) (Option.some (Jvm.ClassFile.FieldType.array Jvm.ClassFile.FieldType.byte))).before args0 about1 = true := code_word (m := ⟨12, 5⟩) (meth := k12m5) (c := k12c5) (by decide +kernel) rfl rfl rfl (by decide +kernel)
set_option maxRecDepth 65536 in
theorem w_c27 : (Jvm.Cond.code ({ cls := "java/lang/StringBuilder", name := "length", desc := "()I" } : Jvm.MethodName) jdk_67_method_93_code (1 : Nat) (Option.some Jvm.ClassFile.FieldType.int)).before args0 about1 = true := code_word (m := ⟨13, 3⟩) (meth := k13m3) (c := k13c3) (by decide +kernel) rfl rfl rfl (by decide +kernel)
set_option maxRecDepth 65536 in
theorem w_c28 : (Jvm.Cond.code ({ cls := "java/lang/AbstractStringBuilder", name := "length", desc := "()I" } : Jvm.MethodName) jdk_68_method_6_code (1 : Nat) (Option.some Jvm.ClassFile.FieldType.int)).before args0 about1 = true := code_word (m := ⟨12, 2⟩) (meth := k12m2) (c := k12c2) (by decide +kernel) rfl rfl rfl (by decide +kernel)
set_option maxRecDepth 65536 in
theorem w_c29 : (Jvm.Cond.code ({ cls := "java/lang/AbstractStringBuilder", name := "isLatin1", desc := "()Z" } : Jvm.MethodName) jdk_68_method_68_code (1 : Nat) (Option.some Jvm.ClassFile.FieldType.boolean)).before args0 about1 = true := code_word (m := ⟨12, 6⟩) (meth := k12m6) (c := k12c6) (by decide +kernel) rfl rfl rfl (by decide +kernel)
set_option maxRecDepth 65536 in
theorem w_c30 : (Jvm.Cond.code ({ cls := "java/util/Arrays", name := "copyOfRange", desc := "([BII)[B" } : Jvm.MethodName) jdk_65_method_132_code (3 : Nat) (Option.some (Jvm.ClassFile.FieldType.array Jvm.ClassFile.FieldType.byte))).before args0 about1 = true := code_word (m := ⟨15, 2⟩) (meth := k15m2) (c := k15c2) (by decide +kernel) rfl rfl rfl (by decide +kernel)
set_option maxRecDepth 65536 in
theorem w_c31 : (Jvm.Cond.code ({ cls := "java/util/Arrays", name := "copyOfRangeByte", desc := "([BII)[B" } : Jvm.MethodName) jdk_65_method_133_code (5 : Nat) (Option.some (Jvm.ClassFile.FieldType.array Jvm.ClassFile.FieldType.byte))).before args0 about1 = true := code_word (m := ⟨15, 3⟩) (meth := k15m3) (c := k15c3) (by decide +kernel) rfl rfl rfl (by decide +kernel)
set_option maxRecDepth 65536 in
theorem w_c32 : (Jvm.Cond.code ({ cls := "java/util/Arrays", name := "checkLength", desc := "(II)V" } : Jvm.MethodName) jdk_65_method_131_code (2 : Nat) (Option.none : Option Jvm.ClassFile.FieldType)).before args0 about1 = true := code_word (m := ⟨15, 1⟩) (meth := k15m1) (c := k15c1) (by decide +kernel) rfl rfl rfl (by decide +kernel)
set_option maxRecDepth 65536 in
theorem w_c33 : (Jvm.Cond.code ({ cls := "java/lang/Math", name := "min", desc := "(II)I" } : Jvm.MethodName) jdk_29_method_69_code (2 : Nat) (Option.some Jvm.ClassFile.FieldType.int)).before args0 about1 = true := code_word (m := ⟨16, 1⟩) (meth := k16m1) (c := k16c1) (by decide +kernel) rfl rfl rfl (by decide +kernel)
set_option maxRecDepth 65536 in
theorem w_c34 : (Jvm.Cond.code ({ cls := "java/lang/String", name := "charAt", desc := "(I)C" } : Jvm.MethodName) jdk_42_method_56_code (2 : Nat) (Option.some Jvm.ClassFile.FieldType.char)).before args0 about1 = true := code_word (m := ⟨7, 4⟩) (meth := k7m4) (c := k7c4) (by decide +kernel) rfl rfl rfl (by decide +kernel)
set_option maxRecDepth 65536 in
theorem w_c35 : (Jvm.Cond.code ({ cls := "java/lang/String", name := "isLatin1", desc := "()Z" } : Jvm.MethodName) jdk_42_method_154_code (1 : Nat) (Option.some Jvm.ClassFile.FieldType.boolean)).before args0 about1 = true := code_word (m := ⟨7, 12⟩) (meth := k7m12) (c := k7c12) (by decide +kernel) rfl rfl rfl (by decide +kernel)
set_option maxRecDepth 65536 in
theorem w_c36 : (Jvm.Cond.code ({ cls := "java/lang/StringLatin1", name := "charAt", desc := "([BI)C" } : Jvm.MethodName) jdk_43_method_2_code (2 : Nat) (Option.some Jvm.ClassFile.FieldType.char)).before args0 about1 = true := code_word (m := ⟨17, 1⟩) (meth := k17m1) (c := k17c1) (by decide +kernel) rfl rfl rfl (by decide +kernel)
set_option maxRecDepth 65536 in
theorem w_c37 : (Jvm.Cond.code ({ cls := "java/lang/String", name := "checkIndex", desc := "(II)V" } : Jvm.MethodName) jdk_42_method_155_code (2 : Nat) (Option.none : Option Jvm.ClassFile.FieldType)).before args0 about1 = true := code_word (m := ⟨7, 13⟩) (meth := k7m13) (c := k7c13) (by decide +kernel) rfl rfl rfl (by decide +kernel)
set_option maxRecDepth 65536 in
theorem w_c38 : (Jvm.Cond.code ({ cls := "jdk/internal/util/Preconditions", name := "checkIndex", desc := "(IILjava/util/function/BiFunction;)I" } : Jvm.MethodName) jdk_41_method_11_code (3 : Nat) (Option.some Jvm.ClassFile.FieldType.int)).before args0 about1 = true := code_word (m := ⟨18, 1⟩) (meth := k18m1) (c := k18c1) (by decide +kernel) rfl rfl rfl (by decide +kernel)
set_option maxRecDepth 65536 in
theorem w_c39 : (Jvm.Cond.code ({ cls := "java/lang/String", name := "equals", desc := "(Ljava/lang/Object;)Z" } : Jvm.MethodName) jdk_42_method_66_code (3 : Nat) (Option.some Jvm.ClassFile.FieldType.boolean)).before args0 about1 = true := code_word (m := ⟨7, 5⟩) (meth := k7m5) (c := k7c5) (by decide +kernel) rfl rfl rfl (by decide +kernel)
def codes1 : List Jvm.Cond := [Jvm.Cond.code x code maxLocals ret, Jvm.Cond.code ({ cls := "com/example/warm_tariff/warmtariff/FiguresSignedPinLaw", name := "pick", desc := "(I)C" } : Jvm.MethodName) method_3_code (1 : Nat) (Option.some Jvm.ClassFile.FieldType.char), Jvm.Cond.code ({ cls := "com/example/warm_tariff/warmtariff/FiguresSignedPinLaw", name := "make", desc := "(ICCC)Ljava/lang/String;" } : Jvm.MethodName) method_4_code (5 : Nat) (Option.some (Jvm.ClassFile.FieldType.object "java/lang/String")), Jvm.Cond.code ({ cls := "java/lang/String", name := "<init>", desc := "([C)V" } : Jvm.MethodName) jdk_42_method_3_code (2 : Nat) (Option.none : Option Jvm.ClassFile.FieldType), Jvm.Cond.code ({ cls := "java/lang/String", name := "<init>", desc := "([CIILjava/lang/Void;)V" } : Jvm.MethodName) jdk_42_method_149_code (6 : Nat) (Option.none : Option Jvm.ClassFile.FieldType), Jvm.Cond.code ({ cls := "java/lang/Object", name := "<init>", desc := "()V" } : Jvm.MethodName) object_method_1_code (1 : Nat) (Option.none : Option Jvm.ClassFile.FieldType), Jvm.Cond.code ({ cls := "java/lang/StringUTF16", name := "compress", desc := "([CII)[B" } : Jvm.MethodName) jdk_52_method_16_code (6 : Nat) (Option.some (Jvm.ClassFile.FieldType.array Jvm.ClassFile.FieldType.byte)), Jvm.Cond.code ({ cls := "java/lang/StringUTF16", name := "compress", desc := "([CI[BII)I" } : Jvm.MethodName) jdk_52_method_21_code (7 : Nat) (Option.some Jvm.ClassFile.FieldType.int), Jvm.Cond.code ({ cls := "java/lang/StringUTF16", name := "coderFromArrayLen", desc := "([BI)B" } : Jvm.MethodName) jdk_52_method_15_code (2 : Nat) (Option.some Jvm.ClassFile.FieldType.byte), Jvm.Cond.code ({ cls := "com/example/warm_tariff/warmtariff/Figures", name := "signed", desc := "(Ljava/lang/String;)Ljava/lang/String;" } : Jvm.MethodName) prog_10_method_6_code (1 : Nat) (Option.some (Jvm.ClassFile.FieldType.object "java/lang/String")), Jvm.Cond.code ({ cls := "java/lang/String", name := "startsWith", desc := "(Ljava/lang/String;)Z" } : Jvm.MethodName) jdk_42_method_76_code (2 : Nat) (Option.some Jvm.ClassFile.FieldType.boolean), Jvm.Cond.code ({ cls := "java/lang/String", name := "startsWith", desc := "(Ljava/lang/String;I)Z" } : Jvm.MethodName) jdk_42_method_75_code (8 : Nat) (Option.some Jvm.ClassFile.FieldType.boolean), Jvm.Cond.code ({ cls := "java/lang/String", name := "length", desc := "()I" } : Jvm.MethodName) jdk_42_method_54_code (1 : Nat) (Option.some Jvm.ClassFile.FieldType.int), Jvm.Cond.code ({ cls := "java/lang/String", name := "coder", desc := "()B" } : Jvm.MethodName) jdk_42_method_152_code (1 : Nat) (Option.some Jvm.ClassFile.FieldType.byte), Jvm.Cond.code ({ cls := "jdk/internal/util/ArraysSupport", name := "mismatch", desc := "([BI[BII)I" } : Jvm.MethodName) jdk_48_method_14_code (8 : Nat) (Option.some Jvm.ClassFile.FieldType.int), Jvm.Cond.code ({ cls := "java/lang/StringBuilder", name := "<init>", desc := "()V" } : Jvm.MethodName) jdk_67_method_1_code (1 : Nat) (Option.none : Option Jvm.ClassFile.FieldType), Jvm.Cond.code ({ cls := "java/lang/AbstractStringBuilder", name := "<init>", desc := "(I)V" } : Jvm.MethodName) jdk_68_method_2_code (2 : Nat) (Option.none : Option Jvm.ClassFile.FieldType), Jvm.Cond.code ({ cls := "java/lang/StringBuilder", name := "append", desc := "(Ljava/lang/String;)Ljava/lang/StringBuilder;" } : Jvm.MethodName) jdk_67_method_7_code (2 : Nat) (Option.some (Jvm.ClassFile.FieldType.object "java/lang/StringBuilder")), Jvm.Cond.code ({ cls := "java/lang/AbstractStringBuilder", name := "append", desc := "(Ljava/lang/String;)Ljava/lang/AbstractStringBuilder;" } : Jvm.MethodName) jdk_68_method_22_code (3 : Nat) (Option.some (Jvm.ClassFile.FieldType.object "java/lang/AbstractStringBuilder")), Jvm.Cond.code ({ cls := "java/lang/AbstractStringBuilder", name := "ensureCapacityInternal", desc := "(I)V" } : Jvm.MethodName) jdk_68_method_9_code (3 : Nat) (Option.none : Option Jvm.ClassFile.FieldType), Jvm.Cond.code ({ cls := "java/lang/AbstractStringBuilder", name := "putStringAt", desc := "(ILjava/lang/String;)V" } : Jvm.MethodName) jdk_68_method_73_code (3 : Nat) (Option.none : Option Jvm.ClassFile.FieldType), Jvm.Cond.code ({ cls := "java/lang/AbstractStringBuilder", name := "inflateIfNeededFor", desc := "(Ljava/lang/String;)V" } : Jvm.MethodName) jdk_68_method_71_code (2 : Nat) (Option.none : Option Jvm.ClassFile.FieldType), Jvm.Cond.code ({ cls := "java/lang/String", name := "getBytes", desc := "([BIB)V" } : Jvm.MethodName) jdk_42_method_147_code (4 : Nat) (Option.none : Option Jvm.ClassFile.FieldType), Jvm.Cond.code ({ cls := "java/lang/StringBuilder", name := "toString", desc := "()Ljava/lang/String;" } : Jvm.MethodName) jdk_67_method_42_code (1 : Nat) (Option.some (Jvm.ClassFile.FieldType.object "java/lang/String")), Jvm.Cond.code ({ cls := "java/lang/String", name := "<init>", desc := "(Ljava/lang/StringBuilder;)V" } : Jvm.MethodName) jdk_42_method_53_code (2 : Nat) (Option.none : Option Jvm.ClassFile.FieldType), Jvm.Cond.code ({ cls := "java/lang/String", name := "<init>", desc := "(Ljava/lang/AbstractStringBuilder;Ljava/lang/Void;)V" } : Jvm.MethodName) jdk_42_method_150_code (5 : Nat) (Option.none : Option Jvm.ClassFile.FieldType), Jvm.Cond.code ({ cls := "java/lang/AbstractStringBuilder", name := "getValue", desc := "()[B" } : Jvm.MethodName) jdk_68_method_64_code (1 : Nat) (Option.some (Jvm.ClassFile.FieldType.array Jvm.ClassFile.FieldType.byte)), Jvm.Cond.code ({ cls := "java/lang/StringBuilder", name := "length", desc := "()I" } : Jvm.MethodName) jdk_67_method_93_code (1 : Nat) (Option.some Jvm.ClassFile.FieldType.int), Jvm.Cond.code ({ cls := "java/lang/AbstractStringBuilder", name := "length", desc := "()I" } : Jvm.MethodName) jdk_68_method_6_code (1 : Nat) (Option.some Jvm.ClassFile.FieldType.int), Jvm.Cond.code ({ cls := "java/lang/AbstractStringBuilder", name := "isLatin1", desc := "()Z" } : Jvm.MethodName) jdk_68_method_68_code (1 : Nat) (Option.some Jvm.ClassFile.FieldType.boolean), Jvm.Cond.code ({ cls := "java/util/Arrays", name := "copyOfRange", desc := "([BII)[B" } : Jvm.MethodName) jdk_65_method_132_code (3 : Nat) (Option.some (Jvm.ClassFile.FieldType.array Jvm.ClassFile.FieldType.byte)), Jvm.Cond.code ({ cls := "java/util/Arrays", name := "copyOfRangeByte", desc := "([BII)[B" } : Jvm.MethodName) jdk_65_method_133_code (5 : Nat) (Option.some (Jvm.ClassFile.FieldType.array Jvm.ClassFile.FieldType.byte)), Jvm.Cond.code ({ cls := "java/util/Arrays", name := "checkLength", desc := "(II)V" } : Jvm.MethodName) jdk_65_method_131_code (2 : Nat) (Option.none : Option Jvm.ClassFile.FieldType), Jvm.Cond.code ({ cls := "java/lang/Math", name := "min", desc := "(II)I" } : Jvm.MethodName) jdk_29_method_69_code (2 : Nat) (Option.some Jvm.ClassFile.FieldType.int), Jvm.Cond.code ({ cls := "java/lang/String", name := "charAt", desc := "(I)C" } : Jvm.MethodName) jdk_42_method_56_code (2 : Nat) (Option.some Jvm.ClassFile.FieldType.char), Jvm.Cond.code ({ cls := "java/lang/String", name := "isLatin1", desc := "()Z" } : Jvm.MethodName) jdk_42_method_154_code (1 : Nat) (Option.some Jvm.ClassFile.FieldType.boolean), Jvm.Cond.code ({ cls := "java/lang/StringLatin1", name := "charAt", desc := "([BI)C" } : Jvm.MethodName) jdk_43_method_2_code (2 : Nat) (Option.some Jvm.ClassFile.FieldType.char), Jvm.Cond.code ({ cls := "java/lang/String", name := "checkIndex", desc := "(II)V" } : Jvm.MethodName) jdk_42_method_155_code (2 : Nat) (Option.none : Option Jvm.ClassFile.FieldType), Jvm.Cond.code ({ cls := "jdk/internal/util/Preconditions", name := "checkIndex", desc := "(IILjava/util/function/BiFunction;)I" } : Jvm.MethodName) jdk_41_method_11_code (3 : Nat) (Option.some Jvm.ClassFile.FieldType.int), Jvm.Cond.code ({ cls := "java/lang/String", name := "equals", desc := "(Ljava/lang/Object;)Z" } : Jvm.MethodName) jdk_42_method_66_code (3 : Nat) (Option.some Jvm.ClassFile.FieldType.boolean)]
set_option maxRecDepth 65536 in
theorem codes_eq : words1.filter isCode = codes1 := rfl
theorem w_codes : ∀ c ∈ words1.filter isCode, c.before args0 about1 = true := by
  rw [codes_eq]
  intro c hc
  simp only [codes1, List.mem_cons, List.not_mem_nil, or_false] at hc
  rcases hc with rfl | rfl | rfl | rfl | rfl | rfl | rfl | rfl | rfl | rfl | rfl | rfl | rfl | rfl | rfl | rfl | rfl | rfl | rfl | rfl | rfl | rfl | rfl | rfl | rfl | rfl | rfl | rfl | rfl | rfl | rfl | rfl | rfl | rfl | rfl | rfl | rfl | rfl | rfl | rfl
  · exact w_c0
  · exact w_c1
  · exact w_c2
  · exact w_c3
  · exact w_c4
  · exact w_c5
  · exact w_c6
  · exact w_c7
  · exact w_c8
  · exact w_c9
  · exact w_c10
  · exact w_c11
  · exact w_c12
  · exact w_c13
  · exact w_c14
  · exact w_c15
  · exact w_c16
  · exact w_c17
  · exact w_c18
  · exact w_c19
  · exact w_c20
  · exact w_c21
  · exact w_c22
  · exact w_c23
  · exact w_c24
  · exact w_c25
  · exact w_c26
  · exact w_c27
  · exact w_c28
  · exact w_c29
  · exact w_c30
  · exact w_c31
  · exact w_c32
  · exact w_c33
  · exact w_c34
  · exact w_c35
  · exact w_c36
  · exact w_c37
  · exact w_c38
  · exact w_c39
set_option maxRecDepth 65536 in
theorem w_t1 : (words1.take 24).all (fun c => isCode c || c.before args0 about1) = true := by decide +kernel
set_option maxRecDepth 65536 in
theorem w_t2 : ((words1.drop 24).take 24).all (fun c => isCode c || c.before args0 about1) = true := by decide +kernel
set_option maxRecDepth 65536 in
theorem w_t3 : (((words1.drop 24).drop 24).take 24).all (fun c => isCode c || c.before args0 about1) = true := by decide +kernel
set_option maxRecDepth 65536 in
theorem w_t4 : ((((words1.drop 24).drop 24).drop 24).take 24).all (fun c => isCode c || c.before args0 about1) = true := by decide +kernel
set_option maxRecDepth 65536 in
theorem w_t5 : (((((words1.drop 24).drop 24).drop 24).drop 24).take 24).all (fun c => isCode c || c.before args0 about1) = true := by decide +kernel
set_option maxRecDepth 65536 in
theorem w_t6 : ((((((words1.drop 24).drop 24).drop 24).drop 24).drop 24).take 24).all (fun c => isCode c || c.before args0 about1) = true := by decide +kernel
set_option maxRecDepth 65536 in
theorem w_t7 : (((((((words1.drop 24).drop 24).drop 24).drop 24).drop 24).drop 24).take 24).all (fun c => isCode c || c.before args0 about1) = true := by decide +kernel
set_option maxRecDepth 65536 in
theorem w_t8 : ((((((((words1.drop 24).drop 24).drop 24).drop 24).drop 24).drop 24).drop 24).take 24).all (fun c => isCode c || c.before args0 about1) = true := by decide +kernel
set_option maxRecDepth 65536 in
theorem w_t9 : ((((((((words1.drop 24).drop 24).drop 24).drop 24).drop 24).drop 24).drop 24).drop 24).all (fun c => isCode c || c.before args0 about1) = true := by decide +kernel
theorem w_tables : (allAtoms (Jvm.Cond.code x code maxLocals ret :: tables_1)).before args0 about1 = true := by
  rw [allAtoms_all]
  show words1.all (fun c => c.before args0 about1) = true
  refine all_split ?_ w_codes
  rw [← List.take_append_drop 24 words1, List.all_append, w_t1, ← List.take_append_drop 24 (words1.drop 24), List.all_append, w_t2, ← List.take_append_drop 24 ((words1.drop 24).drop 24), List.all_append, w_t3, ← List.take_append_drop 24 (((words1.drop 24).drop 24).drop 24), List.all_append, w_t4, ← List.take_append_drop 24 ((((words1.drop 24).drop 24).drop 24).drop 24), List.all_append, w_t5, ← List.take_append_drop 24 (((((words1.drop 24).drop 24).drop 24).drop 24).drop 24), List.all_append, w_t6, ← List.take_append_drop 24 ((((((words1.drop 24).drop 24).drop 24).drop 24).drop 24).drop 24), List.all_append, w_t7, ← List.take_append_drop 24 (((((((words1.drop 24).drop 24).drop 24).drop 24).drop 24).drop 24).drop 24), List.all_append, w_t8, w_t9]
  rfl
set_option maxRecDepth 65536 in
theorem w_rest : rest_1_c.before args0 about1 = true := by decide +kernel
set_option maxRecDepth 65536 in
theorem w_case : (Jvm.Cond.and given_1 narrow_1).before args0 about1 = true := by decide +kernel
set_option maxRecDepth 65536 in
theorem w_consts : constsHeld consts_1 about1 := Jvm.Lit.constsHeldB_iff.mp (by decide +kernel)
theorem w_applies : (headSpec (Jvm.Cond.code x code maxLocals ret :: tables_1) room_1).applies x e0.platform about1 = true :=
  (Spec.applies_iff w_frames).mpr ⟨w_running, w_runnable, w_alone, w_named, w_hears, w_ripe, w_room, w_tables⟩
theorem atStart : AtStart classFile x code maxLocals ret World_1 tables_1 room_1 Calls_1 rest_1 Pre_1 launch0 p0 e0 about1 theMethod args0 below0 :=
  ⟨lists_1, trivial, launch0.admits_env _ _ _, launch0.least_env, fairChoices_fair.cas, fairChoices_fair.clock, w_frames, w_args, w_heap, w_applies, ⟨w_consts, trivial⟩, w_rest, w_case⟩
end start1
theorem witness_1 : WitnessClaimed_1 := ⟨start1.p0, start1.e0, start1.about1, start1.theMethod, start1.args0, start1.below0, start1.atStart⟩
end Jvm.Pilot.@@N@@
