import JvmDerived
import JvmDerived.Pilot.@@N@@Statement
import JvmDerived.Pilot.@@N@@Code
set_option linter.unusedVariables false
set_option linter.unusedSimpArgs false
namespace Jvm.Pilot.@@N@@
open Jvm Jvm.ClassFile Sem Op Lib Jvm.Free Jvm.Stand Jvm.LawKit Jvm.RoadKit Bundle Jvm.Pilot.@@N@@.Jvm.D
section Own
variable {p : Program} {l : Launch} {e : Env} {R : Room} {s : State} {m : MethodId} {args : Array Value} {below : List Frame} {meth : Method} {c : Code} {Z : State} {a0 : Array Value} {EL : List (String × Nat)} {n0 : Nat} {y : MethodName} {bytes : ByteArray} {maxL : Nat} {ret : Option FieldType} {b : State} {T : State} {h : Heap} {locs : List Loc} {cells slots : Nat} {P : Outcome → State → Prop} {pc pc' : Nat} {Ls : Array Slot} {st : List Value}
def Goes (tb : Tables) (e : Env) (below : List Frame) (P : Outcome → State → Prop) (A : State) : Prop := ∃ s₂ o, Steps tb e below A s₂ ∧ s₂.status = .running ∧ Ended s₂ below o ∧ P o s₂
theorem go {tb : Tables} {A B : State} (q : ∀ t, Steps tb e below B t → Steps tb e below A t) (k : Goes tb e below P B) : Goes tb e below P A := by
  obtain ⟨t, o, h, r⟩ := k
  exact ⟨t, o, q t h, r⟩
def Sfe (Z : State) (EL : List (String × Nat)) (vm : Vm) (h : Heap) (x : Addr) : Prop := Safe Z EL vm h x
theorem sfe_new {vm : Vm} {x : Addr} (q : h.size ≤ x) : Sfe Z EL vm h x := Safe.new q
def Bs (Z : State) (a0 : Array Value) (EL : List (String × Nat)) (s b : State) (h : Heap) : Prop := (∃ vm0 k0, b = s.setVm vm0 ∧ s.Since vm0 k0 ∧ k0 ≤ h.size) ∧ CHr Z EL s.vm s.heap b.vm h ∧ EW Z a0 EL
def Wk (p : Program) (l : Launch) (e : Env) (R : Room) (s : State) (m : MethodId) (args : Array Value) (below : List Frame) (meth : Method) (c : Code) (Z : State) (a0 : Array Value) (EL : List (String × Nat)) (n0 : Nat) (y : MethodName) (bytes : ByteArray) (maxL : Nat) (ret : Option FieldType) (b : State) (T : State) (h : Heap) (locs : List Loc) (cells slots : Nat) : Prop := Stand p l e R b m args below meth c T locs cells slots ∧ T.heap = h ∧ Fr n0 locs ∧ p.tables.exec = Jvm.exec ∧ Z.Warmed39 b.vm ∧ b.vm.findClass y.cls = some m.cls ∧ c.code = bytes ∧ c.maxLocals = maxL ∧ meth.sig.returnType = ret ∧ meth.locks = false ∧ meth.name = y.name ∧ Old Z n0 h ∧ Bs Z a0 EL s b h
theorem Wk.X (K : Wk p l e R s m args below meth c Z a0 EL n0 y bytes maxL ret b T h locs cells slots) : Stand p l e R b m args below meth c T locs cells slots := K.1
theorem Wk.eT (K : Wk p l e R s m args below meth c Z a0 EL n0 y bytes maxL ret b T h locs cells slots) : T.heap = h := K.2.1
theorem Wk.fr (K : Wk p l e R s m args below meth c Z a0 EL n0 y bytes maxL ret b T h locs cells slots) : Fr n0 locs := K.2.2.1
theorem Wk.hx (K : Wk p l e R s m args below meth c Z a0 EL n0 y bytes maxL ret b T h locs cells slots) : p.tables.exec = Jvm.exec := K.2.2.2.1
theorem Wk.hZ (K : Wk p l e R s m args below meth c Z a0 EL n0 y bytes maxL ret b T h locs cells slots) : Z.Warmed39 b.vm := K.2.2.2.2.1
theorem Wk.hown (K : Wk p l e R s m args below meth c Z a0 EL n0 y bytes maxL ret b T h locs cells slots) : b.vm.findClass y.cls = some m.cls := K.2.2.2.2.2.1
theorem Wk.hby (K : Wk p l e R s m args below meth c Z a0 EL n0 y bytes maxL ret b T h locs cells slots) : c.code = bytes := K.2.2.2.2.2.2.1
theorem Wk.hml (K : Wk p l e R s m args below meth c Z a0 EL n0 y bytes maxL ret b T h locs cells slots) : c.maxLocals = maxL := K.2.2.2.2.2.2.2.1
theorem Wk.hret (K : Wk p l e R s m args below meth c Z a0 EL n0 y bytes maxL ret b T h locs cells slots) : meth.sig.returnType = ret := K.2.2.2.2.2.2.2.2.1
theorem Wk.hlk (K : Wk p l e R s m args below meth c Z a0 EL n0 y bytes maxL ret b T h locs cells slots) : meth.locks = false := K.2.2.2.2.2.2.2.2.2.1
theorem Wk.hnm (K : Wk p l e R s m args below meth c Z a0 EL n0 y bytes maxL ret b T h locs cells slots) : meth.name = y.name := K.2.2.2.2.2.2.2.2.2.2.1
theorem Wk.old (K : Wk p l e R s m args below meth c Z a0 EL n0 y bytes maxL ret b T h locs cells slots) : Old Z n0 h := K.2.2.2.2.2.2.2.2.2.2.2.1
theorem Wk.bs (K : Wk p l e R s m args below meth c Z a0 EL n0 y bytes maxL ret b T h locs cells slots) : Bs Z a0 EL s b h := K.2.2.2.2.2.2.2.2.2.2.2.2
theorem Wk.at (K : Wk p l e R s m args below meth c Z a0 EL n0 y bytes maxL ret b T h locs cells slots) : At T m c below := K.X.here
theorem Wk.move (K : Wk p l e R s m args below meth c Z a0 EL n0 y bytes maxL ret b T h locs cells slots) {T' : State} {h' : Heap} {locs' : List Loc} {cells' slots' : Nat} (X : Stand p l e R b m args below meth c T' locs' cells' slots') (eT : T'.heap = h') (hF : Fr n0 locs') (hO : Old Z n0 h') (hB : Bs Z a0 EL s b h') : Wk p l e R s m args below meth c Z a0 EL n0 y bytes maxL ret b T' h' locs' cells' slots' := ⟨X, eT, hF, K.hx, K.hZ, K.hown, K.hby, K.hml, K.hret, K.hlk, K.hnm, hO, hB⟩
theorem k_iload (K : Wk p l e R s m args below meth c Z a0 EL n0 y bytes maxL ret b T h locs cells slots) {i : Int32} {k : Nat} (hd : decode bytes pc = .ok (.iload k, 2)) (hp : pc + 2 = pc') (hl : Ls[k]? = some (.val (.int i))) (k : Goes p.tables e below P (T.setTop (mkF m pc' Ls (.int i :: st)))) : Goes p.tables e below P (T.setTop (mkF m pc Ls st)) := by
  subst hp
  exact go (fun t q => XS.iload K.at K.hx rfl (hb K.hby hd) hl q) k
theorem k_iloadN (K : Wk p l e R s m args below meth c Z a0 EL n0 y bytes maxL ret b T h locs cells slots) {i : Int32} {k : Fin 4} (hd : decode bytes pc = .ok (.iload_n k, 1)) (hp : pc + 1 = pc') (hl : Ls[k.val]? = some (.val (.int i))) (k : Goes p.tables e below P (T.setTop (mkF m pc' Ls (.int i :: st)))) : Goes p.tables e below P (T.setTop (mkF m pc Ls st)) := by
  subst hp
  exact go (fun t q => XS.iloadN K.at K.hx rfl (hb K.hby hd) hl q) k
theorem k_lload (K : Wk p l e R s m args below meth c Z a0 EL n0 y bytes maxL ret b T h locs cells slots) {i : Int64} {k : Nat} (hd : decode bytes pc = .ok (.lload k, 2)) (hp : pc + 2 = pc') (hl : Ls[k]? = some (.val (.long i))) (k : Goes p.tables e below P (T.setTop (mkF m pc' Ls (.long i :: st)))) : Goes p.tables e below P (T.setTop (mkF m pc Ls st)) := by
  subst hp
  exact go (fun t q => XT.lload K.at K.hx rfl (hb K.hby hd) hl q) k
theorem k_lloadN (K : Wk p l e R s m args below meth c Z a0 EL n0 y bytes maxL ret b T h locs cells slots) {i : Int64} {k : Fin 4} (hd : decode bytes pc = .ok (.lload_n k, 1)) (hp : pc + 1 = pc') (hl : Ls[k.val]? = some (.val (.long i))) (k : Goes p.tables e below P (T.setTop (mkF m pc' Ls (.long i :: st)))) : Goes p.tables e below P (T.setTop (mkF m pc Ls st)) := by
  subst hp
  exact go (fun t q => XT.lloadN K.at K.hx rfl (hb K.hby hd) hl q) k
theorem k_aload (K : Wk p l e R s m args below meth c Z a0 EL n0 y bytes maxL ret b T h locs cells slots) {v : Value} {k : Nat} (hd : decode bytes pc = .ok (.aload k, 2)) (hp : pc + 2 = pc') (hl : Ls[k]? = some (.val v)) (hv : v.isRef = true) (k : Goes p.tables e below P (T.setTop (mkF m pc' Ls (v :: st)))) : Goes p.tables e below P (T.setTop (mkF m pc Ls st)) := by
  subst hp
  exact go (fun t q => XS.aload K.at K.hx rfl (hb K.hby hd) hl hv q) k
theorem k_aloadN (K : Wk p l e R s m args below meth c Z a0 EL n0 y bytes maxL ret b T h locs cells slots) {v : Value} {k : Fin 4} (hd : decode bytes pc = .ok (.aload_n k, 1)) (hp : pc + 1 = pc') (hl : Ls[k.val]? = some (.val v)) (hv : v.isRef = true) (k : Goes p.tables e below P (T.setTop (mkF m pc' Ls (v :: st)))) : Goes p.tables e below P (T.setTop (mkF m pc Ls st)) := by
  subst hp
  exact go (fun t q => XS.aloadN K.at K.hx rfl (hb K.hby hd) hl hv q) k
theorem k_istore (K : Wk p l e R s m args below meth c Z a0 EL n0 y bytes maxL ret b T h locs cells slots) {i : Int32} {k : Nat} {L' : Array Slot} (hd : decode bytes pc = .ok (.istore k, 2)) (hp : pc + 2 = pc') (hl : storeLocals Ls k (.int i) = some L') (k : Goes p.tables e below P (T.setTop (mkF m pc' L' st))) : Goes p.tables e below P (T.setTop (mkF m pc Ls (.int i :: st))) := by
  subst hp
  exact go (fun t q => XS.istore K.at K.hx rfl (hb K.hby hd) rfl hl q) k
theorem k_istoreN (K : Wk p l e R s m args below meth c Z a0 EL n0 y bytes maxL ret b T h locs cells slots) {i : Int32} {k : Fin 4} {L' : Array Slot} (hd : decode bytes pc = .ok (.istore_n k, 1)) (hp : pc + 1 = pc') (hl : storeLocals Ls k.val (.int i) = some L') (k : Goes p.tables e below P (T.setTop (mkF m pc' L' st))) : Goes p.tables e below P (T.setTop (mkF m pc Ls (.int i :: st))) := by
  subst hp
  exact go (fun t q => XS.istoreN K.at K.hx rfl (hb K.hby hd) rfl hl q) k
theorem k_lstore (K : Wk p l e R s m args below meth c Z a0 EL n0 y bytes maxL ret b T h locs cells slots) {i : Int64} {k : Nat} {L' : Array Slot} (hd : decode bytes pc = .ok (.lstore k, 2)) (hp : pc + 2 = pc') (hl : storeLocals Ls k (.long i) = some L') (k : Goes p.tables e below P (T.setTop (mkF m pc' L' st))) : Goes p.tables e below P (T.setTop (mkF m pc Ls (.long i :: st))) := by
  subst hp
  exact go (fun t q => XT.lstore K.at K.hx rfl (hb K.hby hd) rfl hl q) k
theorem k_lstoreN (K : Wk p l e R s m args below meth c Z a0 EL n0 y bytes maxL ret b T h locs cells slots) {i : Int64} {k : Fin 4} {L' : Array Slot} (hd : decode bytes pc = .ok (.lstore_n k, 1)) (hp : pc + 1 = pc') (hl : storeLocals Ls k.val (.long i) = some L') (k : Goes p.tables e below P (T.setTop (mkF m pc' L' st))) : Goes p.tables e below P (T.setTop (mkF m pc Ls (.long i :: st))) := by
  subst hp
  exact go (fun t q => XT.lstoreN K.at K.hx rfl (hb K.hby hd) rfl hl q) k
theorem k_astore (K : Wk p l e R s m args below meth c Z a0 EL n0 y bytes maxL ret b T h locs cells slots) {v : Value} {k : Nat} {L' : Array Slot} (hd : decode bytes pc = .ok (.astore k, 2)) (hp : pc + 2 = pc') (hv : v.isRef = true) (hl : storeLocals Ls k v = some L') (k : Goes p.tables e below P (T.setTop (mkF m pc' L' st))) : Goes p.tables e below P (T.setTop (mkF m pc Ls (v :: st))) := by
  subst hp
  exact go (fun t q => XS.astore K.at K.hx rfl (hb K.hby hd) rfl hv hl q) k
theorem k_astoreN (K : Wk p l e R s m args below meth c Z a0 EL n0 y bytes maxL ret b T h locs cells slots) {v : Value} {k : Fin 4} {L' : Array Slot} (hd : decode bytes pc = .ok (.astore_n k, 1)) (hp : pc + 1 = pc') (hv : v.isRef = true) (hl : storeLocals Ls k.val v = some L') (k : Goes p.tables e below P (T.setTop (mkF m pc' L' st))) : Goes p.tables e below P (T.setTop (mkF m pc Ls (v :: st))) := by
  subst hp
  exact go (fun t q => XS.astoreN K.at K.hx rfl (hb K.hby hd) rfl hv hl q) k
theorem k_iconst (K : Wk p l e R s m args below meth c Z a0 EL n0 y bytes maxL ret b T h locs cells slots) {i : Int} (v : Int32) (hd : decode bytes pc = .ok (.iconst i, 1)) (hp : pc + 1 = pc') (hv : Int32.ofInt i = v) (k : Goes p.tables e below P (T.setTop (mkF m pc' Ls (.int v :: st)))) : Goes p.tables e below P (T.setTop (mkF m pc Ls st)) := by
  subst hp
  exact go (fun t q => XT.iconstV K.at K.hx rfl v (hb K.hby hd) hv q) k
theorem k_bipush (K : Wk p l e R s m args below meth c Z a0 EL n0 y bytes maxL ret b T h locs cells slots) {i : Int} (v : Int32) (hd : decode bytes pc = .ok (.bipush i, 2)) (hp : pc + 2 = pc') (hv : (Int8.ofInt i).toInt32 = v) (k : Goes p.tables e below P (T.setTop (mkF m pc' Ls (.int v :: st)))) : Goes p.tables e below P (T.setTop (mkF m pc Ls st)) := by
  subst hp
  exact go (fun t q => XT.bipushV K.at K.hx rfl v (hb K.hby hd) hv q) k
theorem k_sipush (K : Wk p l e R s m args below meth c Z a0 EL n0 y bytes maxL ret b T h locs cells slots) {i : Int} (v : Int32) (hd : decode bytes pc = .ok (.sipush i, 3)) (hp : pc + 3 = pc') (hv : (Int16.ofInt i).toInt32 = v) (k : Goes p.tables e below P (T.setTop (mkF m pc' Ls (.int v :: st)))) : Goes p.tables e below P (T.setTop (mkF m pc Ls st)) := by
  subst hp
  exact go (fun t q => XT.sipushV K.at K.hx rfl v (hb K.hby hd) hv q) k
theorem k_lconst (K : Wk p l e R s m args below meth c Z a0 EL n0 y bytes maxL ret b T h locs cells slots) {i : Fin 2} (v : Int64) (hd : decode bytes pc = .ok (.lconst i, 1)) (hp : pc + 1 = pc') (hv : Int64.ofNat i = v) (k : Goes p.tables e below P (T.setTop (mkF m pc' Ls (.long v :: st)))) : Goes p.tables e below P (T.setTop (mkF m pc Ls st)) := by
  subst hp
  exact go (fun t q => XT.lconstV K.at K.hx rfl v (hb K.hby hd) hv q) k
theorem k_aconst_null (K : Wk p l e R s m args below meth c Z a0 EL n0 y bytes maxL ret b T h locs cells slots)  (hd : decode bytes pc = .ok (.aconst_null, 1)) (hp : pc + 1 = pc') (k : Goes p.tables e below P (T.setTop (mkF m pc' Ls (.null :: st)))) : Goes p.tables e below P (T.setTop (mkF m pc Ls st)) := by
  subst hp
  exact go (fun t q => XS.aconstNull K.at K.hx rfl (hb K.hby hd) q) k
theorem k_ldcI (K : Wk p l e R s m args below meth c Z a0 EL n0 y bytes maxL ret b T h locs cells slots) {i : Nat} {v : Int32} (wd : (Cond.constant y.cls i v).before a0 Z = true) (hd : decode bytes pc = .ok (.ldc i, 2)) (hp : pc + 2 = pc') (k : Goes p.tables e below P (T.setTop (mkF m pc' Ls (.int v :: st)))) : Goes p.tables e below P (T.setTop (mkF m pc Ls st)) := by
  subst hp
  exact go (fun t q => Stand.ldcI K.X K.hx K.hown (mvT K.hZ wd) rfl (hb K.hby hd) q) k
theorem k_ldcWI (K : Wk p l e R s m args below meth c Z a0 EL n0 y bytes maxL ret b T h locs cells slots) {i : Nat} {v : Int32} (wd : (Cond.constant y.cls i v).before a0 Z = true) (hd : decode bytes pc = .ok (.ldc_w i, 3)) (hp : pc + 3 = pc') (k : Goes p.tables e below P (T.setTop (mkF m pc' Ls (.int v :: st)))) : Goes p.tables e below P (T.setTop (mkF m pc Ls st)) := by
  subst hp
  exact go (fun t q => Stand.ldcWI K.X K.hx K.hown (mvT K.hZ wd) rfl (hb K.hby hd) q) k
theorem k_ldcJ (K : Wk p l e R s m args below meth c Z a0 EL n0 y bytes maxL ret b T h locs cells slots) {i : Nat} {v : Int64} (wd : (Cond.constantLong y.cls i v).before a0 Z = true) (hd : decode bytes pc = .ok (.ldc2_w i, 3)) (hp : pc + 3 = pc') (k : Goes p.tables e below P (T.setTop (mkF m pc' Ls (.long v :: st)))) : Goes p.tables e below P (T.setTop (mkF m pc Ls st)) := by
  subst hp
  exact go (fun t q => Stand.ldc2J K.X K.hx K.hown (mvT K.hZ wd) rfl (hb K.hby hd) q) k
theorem k_iadd (K : Wk p l e R s m args below meth c Z a0 EL n0 y bytes maxL ret b T h locs cells slots) {i j : Int32} (hd : decode bytes pc = .ok (.iadd, 1)) (hp : pc + 1 = pc') (k : Goes p.tables e below P (T.setTop (mkF m pc' Ls (.int (i + j) :: st)))) : Goes p.tables e below P (T.setTop (mkF m pc Ls (.int j :: .int i :: st))) := by
  subst hp
  exact go (fun t q => XS.iadd K.at K.hx rfl (hb K.hby hd) rfl q) k
theorem k_isub (K : Wk p l e R s m args below meth c Z a0 EL n0 y bytes maxL ret b T h locs cells slots) {i j : Int32} (hd : decode bytes pc = .ok (.isub, 1)) (hp : pc + 1 = pc') (k : Goes p.tables e below P (T.setTop (mkF m pc' Ls (.int (i - j) :: st)))) : Goes p.tables e below P (T.setTop (mkF m pc Ls (.int j :: .int i :: st))) := by
  subst hp
  exact go (fun t q => XS.isub K.at K.hx rfl (hb K.hby hd) rfl q) k
theorem k_imul (K : Wk p l e R s m args below meth c Z a0 EL n0 y bytes maxL ret b T h locs cells slots) {i j : Int32} (hd : decode bytes pc = .ok (.imul, 1)) (hp : pc + 1 = pc') (k : Goes p.tables e below P (T.setTop (mkF m pc' Ls (.int (i * j) :: st)))) : Goes p.tables e below P (T.setTop (mkF m pc Ls (.int j :: .int i :: st))) := by
  subst hp
  exact go (fun t q => XS.imul K.at K.hx rfl (hb K.hby hd) rfl q) k
theorem k_iand (K : Wk p l e R s m args below meth c Z a0 EL n0 y bytes maxL ret b T h locs cells slots) {i j : Int32} (hd : decode bytes pc = .ok (.iand, 1)) (hp : pc + 1 = pc') (k : Goes p.tables e below P (T.setTop (mkF m pc' Ls (.int (i &&& j) :: st)))) : Goes p.tables e below P (T.setTop (mkF m pc Ls (.int j :: .int i :: st))) := by
  subst hp
  exact go (fun t q => XS.iand K.at K.hx rfl (hb K.hby hd) rfl q) k
theorem k_ior (K : Wk p l e R s m args below meth c Z a0 EL n0 y bytes maxL ret b T h locs cells slots) {i j : Int32} (hd : decode bytes pc = .ok (.ior, 1)) (hp : pc + 1 = pc') (k : Goes p.tables e below P (T.setTop (mkF m pc' Ls (.int (i ||| j) :: st)))) : Goes p.tables e below P (T.setTop (mkF m pc Ls (.int j :: .int i :: st))) := by
  subst hp
  exact go (fun t q => XT.ior K.at K.hx rfl (hb K.hby hd) rfl q) k
theorem k_ixor (K : Wk p l e R s m args below meth c Z a0 EL n0 y bytes maxL ret b T h locs cells slots) {i j : Int32} (hd : decode bytes pc = .ok (.ixor, 1)) (hp : pc + 1 = pc') (k : Goes p.tables e below P (T.setTop (mkF m pc' Ls (.int (i ^^^ j) :: st)))) : Goes p.tables e below P (T.setTop (mkF m pc Ls (.int j :: .int i :: st))) := by
  subst hp
  exact go (fun t q => XT.ixor K.at K.hx rfl (hb K.hby hd) rfl q) k
theorem k_ishl (K : Wk p l e R s m args below meth c Z a0 EL n0 y bytes maxL ret b T h locs cells slots) {i j : Int32} (hd : decode bytes pc = .ok (.ishl, 1)) (hp : pc + 1 = pc') (k : Goes p.tables e below P (T.setTop (mkF m pc' Ls (.int (i <<< (j &&& 31)) :: st)))) : Goes p.tables e below P (T.setTop (mkF m pc Ls (.int j :: .int i :: st))) := by
  subst hp
  exact go (fun t q => XT.ishl K.at K.hx rfl (hb K.hby hd) rfl q) k
theorem k_ishr (K : Wk p l e R s m args below meth c Z a0 EL n0 y bytes maxL ret b T h locs cells slots) {i j : Int32} (hd : decode bytes pc = .ok (.ishr, 1)) (hp : pc + 1 = pc') (k : Goes p.tables e below P (T.setTop (mkF m pc' Ls (.int (i >>> (j &&& 31)) :: st)))) : Goes p.tables e below P (T.setTop (mkF m pc Ls (.int j :: .int i :: st))) := by
  subst hp
  exact go (fun t q => XT.ishr K.at K.hx rfl (hb K.hby hd) rfl q) k
theorem k_iushr (K : Wk p l e R s m args below meth c Z a0 EL n0 y bytes maxL ret b T h locs cells slots) {i j : Int32} (hd : decode bytes pc = .ok (.iushr, 1)) (hp : pc + 1 = pc') (k : Goes p.tables e below P (T.setTop (mkF m pc' Ls (.int (XT.ushr i j) :: st)))) : Goes p.tables e below P (T.setTop (mkF m pc Ls (.int j :: .int i :: st))) := by
  subst hp
  exact go (fun t q => XT.iushr K.at K.hx rfl (hb K.hby hd) rfl q) k
theorem k_ladd (K : Wk p l e R s m args below meth c Z a0 EL n0 y bytes maxL ret b T h locs cells slots) {i j : Int64} (hd : decode bytes pc = .ok (.ladd, 1)) (hp : pc + 1 = pc') (k : Goes p.tables e below P (T.setTop (mkF m pc' Ls (.long (i + j) :: st)))) : Goes p.tables e below P (T.setTop (mkF m pc Ls (.long j :: .long i :: st))) := by
  subst hp
  exact go (fun t q => XT.ladd K.at K.hx rfl (hb K.hby hd) rfl q) k
theorem k_lsub (K : Wk p l e R s m args below meth c Z a0 EL n0 y bytes maxL ret b T h locs cells slots) {i j : Int64} (hd : decode bytes pc = .ok (.lsub, 1)) (hp : pc + 1 = pc') (k : Goes p.tables e below P (T.setTop (mkF m pc' Ls (.long (i - j) :: st)))) : Goes p.tables e below P (T.setTop (mkF m pc Ls (.long j :: .long i :: st))) := by
  subst hp
  exact go (fun t q => XT.lsub K.at K.hx rfl (hb K.hby hd) rfl q) k
theorem k_lmul (K : Wk p l e R s m args below meth c Z a0 EL n0 y bytes maxL ret b T h locs cells slots) {i j : Int64} (hd : decode bytes pc = .ok (.lmul, 1)) (hp : pc + 1 = pc') (k : Goes p.tables e below P (T.setTop (mkF m pc' Ls (.long (i * j) :: st)))) : Goes p.tables e below P (T.setTop (mkF m pc Ls (.long j :: .long i :: st))) := by
  subst hp
  exact go (fun t q => XT.lmul K.at K.hx rfl (hb K.hby hd) rfl q) k
theorem k_land (K : Wk p l e R s m args below meth c Z a0 EL n0 y bytes maxL ret b T h locs cells slots) {i j : Int64} (hd : decode bytes pc = .ok (.land, 1)) (hp : pc + 1 = pc') (k : Goes p.tables e below P (T.setTop (mkF m pc' Ls (.long (i &&& j) :: st)))) : Goes p.tables e below P (T.setTop (mkF m pc Ls (.long j :: .long i :: st))) := by
  subst hp
  exact go (fun t q => XT.land K.at K.hx rfl (hb K.hby hd) rfl q) k
theorem k_lor (K : Wk p l e R s m args below meth c Z a0 EL n0 y bytes maxL ret b T h locs cells slots) {i j : Int64} (hd : decode bytes pc = .ok (.lor, 1)) (hp : pc + 1 = pc') (k : Goes p.tables e below P (T.setTop (mkF m pc' Ls (.long (i ||| j) :: st)))) : Goes p.tables e below P (T.setTop (mkF m pc Ls (.long j :: .long i :: st))) := by
  subst hp
  exact go (fun t q => XT.lor K.at K.hx rfl (hb K.hby hd) rfl q) k
theorem k_lxor (K : Wk p l e R s m args below meth c Z a0 EL n0 y bytes maxL ret b T h locs cells slots) {i j : Int64} (hd : decode bytes pc = .ok (.lxor, 1)) (hp : pc + 1 = pc') (k : Goes p.tables e below P (T.setTop (mkF m pc' Ls (.long (i ^^^ j) :: st)))) : Goes p.tables e below P (T.setTop (mkF m pc Ls (.long j :: .long i :: st))) := by
  subst hp
  exact go (fun t q => XT.lxor K.at K.hx rfl (hb K.hby hd) rfl q) k
theorem k_lshl (K : Wk p l e R s m args below meth c Z a0 EL n0 y bytes maxL ret b T h locs cells slots) {i : Int64} {j : Int32} (hd : decode bytes pc = .ok (.lshl, 1)) (hp : pc + 1 = pc') (k : Goes p.tables e below P (T.setTop (mkF m pc' Ls (.long (i <<< (j.toInt64 &&& 63)) :: st)))) : Goes p.tables e below P (T.setTop (mkF m pc Ls (.int j :: .long i :: st))) := by
  subst hp
  exact go (fun t q => XT.lshl K.at K.hx rfl (hb K.hby hd) rfl q) k
theorem k_lshr (K : Wk p l e R s m args below meth c Z a0 EL n0 y bytes maxL ret b T h locs cells slots) {i : Int64} {j : Int32} (hd : decode bytes pc = .ok (.lshr, 1)) (hp : pc + 1 = pc') (k : Goes p.tables e below P (T.setTop (mkF m pc' Ls (.long (i >>> (j.toInt64 &&& 63)) :: st)))) : Goes p.tables e below P (T.setTop (mkF m pc Ls (.int j :: .long i :: st))) := by
  subst hp
  exact go (fun t q => XT.lshr K.at K.hx rfl (hb K.hby hd) rfl q) k
theorem k_lushr (K : Wk p l e R s m args below meth c Z a0 EL n0 y bytes maxL ret b T h locs cells slots) {i : Int64} {j : Int32} (hd : decode bytes pc = .ok (.lushr, 1)) (hp : pc + 1 = pc') (k : Goes p.tables e below P (T.setTop (mkF m pc' Ls (.long (XT.ushrL i j) :: st)))) : Goes p.tables e below P (T.setTop (mkF m pc Ls (.int j :: .long i :: st))) := by
  subst hp
  exact go (fun t q => XT.lushr K.at K.hx rfl (hb K.hby hd) rfl q) k
theorem k_idiv (K : Wk p l e R s m args below meth c Z a0 EL n0 y bytes maxL ret b T h locs cells slots) {i j : Int32} (hd : decode bytes pc = .ok (.idiv, 1)) (hp : pc + 1 = pc') (hj : j ≠ 0) (k : Goes p.tables e below P (T.setTop (mkF m pc' Ls (.int (i / j) :: st)))) : Goes p.tables e below P (T.setTop (mkF m pc Ls (.int j :: .int i :: st))) := by
  subst hp
  exact go (fun t q => XS.idiv K.at K.hx rfl (hb K.hby hd) rfl hj q) k
theorem k_irem (K : Wk p l e R s m args below meth c Z a0 EL n0 y bytes maxL ret b T h locs cells slots) {i j : Int32} (hd : decode bytes pc = .ok (.irem, 1)) (hp : pc + 1 = pc') (hj : j ≠ 0) (k : Goes p.tables e below P (T.setTop (mkF m pc' Ls (.int (i % j) :: st)))) : Goes p.tables e below P (T.setTop (mkF m pc Ls (.int j :: .int i :: st))) := by
  subst hp
  exact go (fun t q => Jvm.RoadKit.iremM K.X K.hx rfl (hb K.hby hd) rfl hj q) k
theorem k_ldiv (K : Wk p l e R s m args below meth c Z a0 EL n0 y bytes maxL ret b T h locs cells slots) {i j : Int64} (hd : decode bytes pc = .ok (.ldiv, 1)) (hp : pc + 1 = pc') (hj : j ≠ 0) (k : Goes p.tables e below P (T.setTop (mkF m pc' Ls (.long (i / j) :: st)))) : Goes p.tables e below P (T.setTop (mkF m pc Ls (.long j :: .long i :: st))) := by
  subst hp
  exact go (fun t q => XT.ldiv K.at K.hx rfl (hb K.hby hd) rfl hj q) k
theorem k_lrem (K : Wk p l e R s m args below meth c Z a0 EL n0 y bytes maxL ret b T h locs cells slots) {i j : Int64} (hd : decode bytes pc = .ok (.lrem, 1)) (hp : pc + 1 = pc') (hj : j ≠ 0) (k : Goes p.tables e below P (T.setTop (mkF m pc' Ls (.long (i - (i / j) * j) :: st)))) : Goes p.tables e below P (T.setTop (mkF m pc Ls (.long j :: .long i :: st))) := by
  subst hp
  exact go (fun t q => XT.lrem K.at K.hx rfl (hb K.hby hd) rfl hj q) k
theorem k_lcmp (K : Wk p l e R s m args below meth c Z a0 EL n0 y bytes maxL ret b T h locs cells slots) {i j : Int64} (hd : decode bytes pc = .ok (.lcmp, 1)) (hp : pc + 1 = pc') (k : Goes p.tables e below P (T.setTop (mkF m pc' Ls (.int (XT.cmpL i j) :: st)))) : Goes p.tables e below P (T.setTop (mkF m pc Ls (.long j :: .long i :: st))) := by
  subst hp
  exact go (fun t q => XT.lcmp K.at K.hx rfl (hb K.hby hd) rfl q) k
theorem k_ineg (K : Wk p l e R s m args below meth c Z a0 EL n0 y bytes maxL ret b T h locs cells slots) {i : Int32} (hd : decode bytes pc = .ok (.ineg, 1)) (hp : pc + 1 = pc') (k : Goes p.tables e below P (T.setTop (mkF m pc' Ls (.int (-i) :: st)))) : Goes p.tables e below P (T.setTop (mkF m pc Ls (.int i :: st))) := by
  subst hp
  exact go (fun t q => XS.ineg K.at K.hx rfl (hb K.hby hd) rfl q) k
theorem k_lneg (K : Wk p l e R s m args below meth c Z a0 EL n0 y bytes maxL ret b T h locs cells slots) {i : Int64} (hd : decode bytes pc = .ok (.lneg, 1)) (hp : pc + 1 = pc') (k : Goes p.tables e below P (T.setTop (mkF m pc' Ls (.long (-i) :: st)))) : Goes p.tables e below P (T.setTop (mkF m pc Ls (.long i :: st))) := by
  subst hp
  exact go (fun t q => XT.lneg K.at K.hx rfl (hb K.hby hd) rfl q) k
theorem k_i2l (K : Wk p l e R s m args below meth c Z a0 EL n0 y bytes maxL ret b T h locs cells slots) {i : Int32} (hd : decode bytes pc = .ok (.i2l, 1)) (hp : pc + 1 = pc') (k : Goes p.tables e below P (T.setTop (mkF m pc' Ls (.long i.toInt64 :: st)))) : Goes p.tables e below P (T.setTop (mkF m pc Ls (.int i :: st))) := by
  subst hp
  exact go (fun t q => XT.i2l K.at K.hx rfl (hb K.hby hd) rfl q) k
theorem k_l2i (K : Wk p l e R s m args below meth c Z a0 EL n0 y bytes maxL ret b T h locs cells slots) {i : Int64} (hd : decode bytes pc = .ok (.l2i, 1)) (hp : pc + 1 = pc') (k : Goes p.tables e below P (T.setTop (mkF m pc' Ls (.int i.toInt32 :: st)))) : Goes p.tables e below P (T.setTop (mkF m pc Ls (.long i :: st))) := by
  subst hp
  exact go (fun t q => XT.l2i K.at K.hx rfl (hb K.hby hd) rfl q) k
theorem k_i2b (K : Wk p l e R s m args below meth c Z a0 EL n0 y bytes maxL ret b T h locs cells slots) {i : Int32} (hd : decode bytes pc = .ok (.i2b, 1)) (hp : pc + 1 = pc') (k : Goes p.tables e below P (T.setTop (mkF m pc' Ls (.int i.toInt8.toInt32 :: st)))) : Goes p.tables e below P (T.setTop (mkF m pc Ls (.int i :: st))) := by
  subst hp
  exact go (fun t q => XT.i2b K.at K.hx rfl (hb K.hby hd) rfl q) k
theorem k_i2c (K : Wk p l e R s m args below meth c Z a0 EL n0 y bytes maxL ret b T h locs cells slots) {i : Int32} (hd : decode bytes pc = .ok (.i2c, 1)) (hp : pc + 1 = pc') (k : Goes p.tables e below P (T.setTop (mkF m pc' Ls (.int i.toUInt32.toUInt16.toUInt32.toInt32 :: st)))) : Goes p.tables e below P (T.setTop (mkF m pc Ls (.int i :: st))) := by
  subst hp
  exact go (fun t q => XT.i2c K.at K.hx rfl (hb K.hby hd) rfl q) k
theorem k_i2s (K : Wk p l e R s m args below meth c Z a0 EL n0 y bytes maxL ret b T h locs cells slots) {i : Int32} (hd : decode bytes pc = .ok (.i2s, 1)) (hp : pc + 1 = pc') (k : Goes p.tables e below P (T.setTop (mkF m pc' Ls (.int i.toInt16.toInt32 :: st)))) : Goes p.tables e below P (T.setTop (mkF m pc Ls (.int i :: st))) := by
  subst hp
  exact go (fun t q => XT.i2s K.at K.hx rfl (hb K.hby hd) rfl q) k
theorem k_iinc (K : Wk p l e R s m args below meth c Z a0 EL n0 y bytes maxL ret b T h locs cells slots) {i : Int32} {k : Nat} {ct : Int} {L' : Array Slot} (v : Int32) (hd : decode bytes pc = .ok (.iinc k ct, 3)) (hp : pc + 3 = pc') (hv : Int32.ofInt ct = v) (hl : Ls[k]? = some (.val (.int i))) (hl' : storeLocals Ls k (.int (i + v)) = some L') (k : Goes p.tables e below P (T.setTop (mkF m pc' L' st))) : Goes p.tables e below P (T.setTop (mkF m pc Ls st)) := by
  subst hp
  exact go (fun t q => XT.iincV K.at K.hx rfl v (hb K.hby hd) hv hl hl' q) k
theorem k_dup (K : Wk p l e R s m args below meth c Z a0 EL n0 y bytes maxL ret b T h locs cells slots) {v : Value} (hd : decode bytes pc = .ok (.dup, 1)) (hp : pc + 1 = pc') (hc : v.category = 1) (k : Goes p.tables e below P (T.setTop (mkF m pc' Ls (v :: v :: st)))) : Goes p.tables e below P (T.setTop (mkF m pc Ls (v :: st))) := by
  subst hp
  exact go (fun t q => XS.dup K.at K.hx rfl (hb K.hby hd) rfl hc q) k
theorem k_pop (K : Wk p l e R s m args below meth c Z a0 EL n0 y bytes maxL ret b T h locs cells slots) {v : Value} (hd : decode bytes pc = .ok (.pop, 1)) (hp : pc + 1 = pc') (hc : v.category = 1) (k : Goes p.tables e below P (T.setTop (mkF m pc' Ls st))) : Goes p.tables e below P (T.setTop (mkF m pc Ls (v :: st))) := by
  subst hp
  exact go (fun t q => XT.pop K.at K.hx rfl (hb K.hby hd) rfl hc q) k
theorem k_dup_x1 (K : Wk p l e R s m args below meth c Z a0 EL n0 y bytes maxL ret b T h locs cells slots) {v u : Value} (hd : decode bytes pc = .ok (.dup_x1, 1)) (hp : pc + 1 = pc') (hc : v.category = 1) (hc' : u.category = 1) (k : Goes p.tables e below P (T.setTop (mkF m pc' Ls (v :: u :: v :: st)))) : Goes p.tables e below P (T.setTop (mkF m pc Ls (v :: u :: st))) := by
  subst hp
  exact go (fun t q => XT.dupX1 K.at K.hx rfl (hb K.hby hd) rfl hc hc' q) k
theorem k_dup2J (K : Wk p l e R s m args below meth c Z a0 EL n0 y bytes maxL ret b T h locs cells slots) {i : Int64} (hd : decode bytes pc = .ok (.dup2, 1)) (hp : pc + 1 = pc') (k : Goes p.tables e below P (T.setTop (mkF m pc' Ls (.long i :: .long i :: st)))) : Goes p.tables e below P (T.setTop (mkF m pc Ls (.long i :: st))) := by
  subst hp
  refine go (fun t q => ?_) k
  have hd' := (hb K.hby hd)
  have hA := K.at
  have hx := K.hx
  jvm_step hA [hA.top, hx, hd', Value.category]
  exact q
theorem k_dup2II (K : Wk p l e R s m args below meth c Z a0 EL n0 y bytes maxL ret b T h locs cells slots) {i j : Int32} (hd : decode bytes pc = .ok (.dup2, 1)) (hp : pc + 1 = pc') (k : Goes p.tables e below P (T.setTop (mkF m pc' Ls (.int j :: .int i :: .int j :: .int i :: st)))) : Goes p.tables e below P (T.setTop (mkF m pc Ls (.int j :: .int i :: st))) := by
  subst hp
  refine go (fun t q => ?_) k
  have hd' := (hb K.hby hd)
  have hA := K.at
  have hx := K.hx
  jvm_step hA [hA.top, hx, hd', Value.category]
  exact q
theorem k_dup2AI (K : Wk p l e R s m args below meth c Z a0 EL n0 y bytes maxL ret b T h locs cells slots) {a : Addr} {j : Int32} (hd : decode bytes pc = .ok (.dup2, 1)) (hp : pc + 1 = pc') (k : Goes p.tables e below P (T.setTop (mkF m pc' Ls (.int j :: .ref a :: .int j :: .ref a :: st)))) : Goes p.tables e below P (T.setTop (mkF m pc Ls (.int j :: .ref a :: st))) := by
  subst hp
  refine go (fun t q => ?_) k
  have hd' := (hb K.hby hd)
  have hA := K.at
  have hx := K.hx
  jvm_step hA [hA.top, hx, hd', Value.category]
  exact q
theorem k_pop2J (K : Wk p l e R s m args below meth c Z a0 EL n0 y bytes maxL ret b T h locs cells slots) {i : Int64} (hd : decode bytes pc = .ok (.pop2, 1)) (hp : pc + 1 = pc') (k : Goes p.tables e below P (T.setTop (mkF m pc' Ls st))) : Goes p.tables e below P (T.setTop (mkF m pc Ls (.long i :: st))) := by
  subst hp
  refine go (fun t q => ?_) k
  have hd' := (hb K.hby hd)
  have hA := K.at
  have hx := K.hx
  jvm_step hA [hA.top, hx, hd', Value.category]
  exact q
theorem k_dup_x2AI (K : Wk p l e R s m args below meth c Z a0 EL n0 y bytes maxL ret b T h locs cells slots) {a : Addr} {i j : Int32} (hd : decode bytes pc = .ok (.dup_x2, 1)) (hp : pc + 1 = pc') (k : Goes p.tables e below P (T.setTop (mkF m pc' Ls (.int i :: .int j :: .ref a :: .int i :: st)))) : Goes p.tables e below P (T.setTop (mkF m pc Ls (.int i :: .int j :: .ref a :: st))) := by
  subst hp
  refine go (fun t q => ?_) k
  have hd' := (hb K.hby hd)
  have hA := K.at
  have hx := K.hx
  jvm_step hA [hA.top, hx, hd', Value.category]
  exact q
theorem k_dup2_x1JA (K : Wk p l e R s m args below meth c Z a0 EL n0 y bytes maxL ret b T h locs cells slots) {i : Int64} {a : Addr} (hd : decode bytes pc = .ok (.dup2_x1, 1)) (hp : pc + 1 = pc') (k : Goes p.tables e below P (T.setTop (mkF m pc' Ls (.long i :: .ref a :: .long i :: st)))) : Goes p.tables e below P (T.setTop (mkF m pc Ls (.long i :: .ref a :: st))) := by
  subst hp
  refine go (fun t q => ?_) k
  have hd' := (hb K.hby hd)
  have hA := K.at
  have hx := K.hx
  jvm_step hA [hA.top, hx, hd', Value.category]
  exact q
theorem k_dup2_x2JAI (K : Wk p l e R s m args below meth c Z a0 EL n0 y bytes maxL ret b T h locs cells slots) {i : Int64} {a : Addr} {j : Int32} (hd : decode bytes pc = .ok (.dup2_x2, 1)) (hp : pc + 1 = pc') (k : Goes p.tables e below P (T.setTop (mkF m pc' Ls (.long i :: .int j :: .ref a :: .long i :: st)))) : Goes p.tables e below P (T.setTop (mkF m pc Ls (.long i :: .int j :: .ref a :: st))) := by
  subst hp
  refine go (fun t q => ?_) k
  have hd' := (hb K.hby hd)
  have hA := K.at
  have hx := K.hx
  jvm_step hA [hA.top, hx, hd', Value.category]
  exact q
theorem k_goto (K : Wk p l e R s m args below meth c Z a0 EL n0 y bytes maxL ret b T h locs cells slots) {o : Int} (hd : decode bytes pc = .ok (.goto o, 3)) (ho : 0 ≤ (pc : Int) + o) (hp : ((pc : Int) + o).toNat = pc') (k : Goes p.tables e below P (T.setTop (mkF m pc' Ls st))) : Goes p.tables e below P (T.setTop (mkF m pc Ls st)) := go (fun t q => XS.goto K.at K.hx rfl rfl (hb K.hby hd) ho hp q) k
theorem k_icmp_eq (K : Wk p l e R s m args below meth c Z a0 EL n0 y bytes maxL ret b T h locs cells slots) {i j : Int32} {o : Int} {pc2 : Nat} (hd : decode bytes pc = .ok (.if_icmp .eq o, 3)) (ho : 0 ≤ (pc : Int) + o) (hp : ((pc : Int) + o).toNat = pc') (hp2 : pc + 3 = pc2) (kT : i = j → Goes p.tables e below P (T.setTop (mkF m pc' Ls st))) (kF : ¬ i = j → Goes p.tables e below P (T.setTop (mkF m pc2 Ls st))) : Goes p.tables e below P (T.setTop (mkF m pc Ls (.int j :: .int i :: st))) := by
  subst hp2
  by_cases q : i = j
  · exact go (fun t r => XS.icmpYes K.at K.hx rfl rfl (hb K.hby hd) rfl (XT.ii_eq_t q) ho hp r) (kT q)
  · exact go (fun t r => XS.icmpNo K.at K.hx rfl (hb K.hby hd) rfl (XT.ii_eq_f q) r) (kF q)
theorem k_if_eq (K : Wk p l e R s m args below meth c Z a0 EL n0 y bytes maxL ret b T h locs cells slots) {i : Int32} {o : Int} {pc2 : Nat} (hd : decode bytes pc = .ok (.ifCond .eq o, 3)) (ho : 0 ≤ (pc : Int) + o) (hp : ((pc : Int) + o).toNat = pc') (hp2 : pc + 3 = pc2) (kT : i = 0 → Goes p.tables e below P (T.setTop (mkF m pc' Ls st))) (kF : ¬ i = 0 → Goes p.tables e below P (T.setTop (mkF m pc2 Ls st))) : Goes p.tables e below P (T.setTop (mkF m pc Ls (.int i :: st))) := by
  subst hp2
  by_cases q : i = 0
  · exact go (fun t r => XS.ifYes K.at K.hx rfl rfl (hb K.hby hd) rfl (XT.i0_eq_t q) ho hp r) (kT q)
  · exact go (fun t r => XS.ifNo K.at K.hx rfl (hb K.hby hd) rfl (XT.i0_eq_f q) r) (kF q)
theorem k_lif_eq (K : Wk p l e R s m args below meth c Z a0 EL n0 y bytes maxL ret b T h locs cells slots) {i j : Int64} {o : Int} {pc2 : Nat} (hd : decode bytes pc = .ok (.ifCond .eq o, 3)) (ho : 0 ≤ (pc : Int) + o) (hp : ((pc : Int) + o).toNat = pc') (hp2 : pc + 3 = pc2) (kT : i = j → Goes p.tables e below P (T.setTop (mkF m pc' Ls st))) (kF : ¬ i = j → Goes p.tables e below P (T.setTop (mkF m pc2 Ls st))) : Goes p.tables e below P (T.setTop (mkF m pc Ls (.int (XT.cmpL i j) :: st))) := by
  subst hp2
  by_cases q : i = j
  · exact go (fun t r => XS.ifYes K.at K.hx rfl rfl (hb K.hby hd) rfl (XT.ll_eq_t q) ho hp r) (kT q)
  · exact go (fun t r => XS.ifNo K.at K.hx rfl (hb K.hby hd) rfl (XT.ll_eq_f q) r) (kF q)
theorem k_icmp_ne (K : Wk p l e R s m args below meth c Z a0 EL n0 y bytes maxL ret b T h locs cells slots) {i j : Int32} {o : Int} {pc2 : Nat} (hd : decode bytes pc = .ok (.if_icmp .ne o, 3)) (ho : 0 ≤ (pc : Int) + o) (hp : ((pc : Int) + o).toNat = pc') (hp2 : pc + 3 = pc2) (kT : ¬ i = j → Goes p.tables e below P (T.setTop (mkF m pc' Ls st))) (kF : i = j → Goes p.tables e below P (T.setTop (mkF m pc2 Ls st))) : Goes p.tables e below P (T.setTop (mkF m pc Ls (.int j :: .int i :: st))) := by
  subst hp2
  by_cases q : ¬ i = j
  · exact go (fun t r => XS.icmpYes K.at K.hx rfl rfl (hb K.hby hd) rfl (XT.ii_ne_t q) ho hp r) (kT q)
  · exact go (fun t r => XS.icmpNo K.at K.hx rfl (hb K.hby hd) rfl (XT.ii_ne_f (Classical.not_not.mp q)) r) (kF (Classical.not_not.mp q))
theorem k_if_ne (K : Wk p l e R s m args below meth c Z a0 EL n0 y bytes maxL ret b T h locs cells slots) {i : Int32} {o : Int} {pc2 : Nat} (hd : decode bytes pc = .ok (.ifCond .ne o, 3)) (ho : 0 ≤ (pc : Int) + o) (hp : ((pc : Int) + o).toNat = pc') (hp2 : pc + 3 = pc2) (kT : ¬ i = 0 → Goes p.tables e below P (T.setTop (mkF m pc' Ls st))) (kF : i = 0 → Goes p.tables e below P (T.setTop (mkF m pc2 Ls st))) : Goes p.tables e below P (T.setTop (mkF m pc Ls (.int i :: st))) := by
  subst hp2
  by_cases q : ¬ i = 0
  · exact go (fun t r => XS.ifYes K.at K.hx rfl rfl (hb K.hby hd) rfl (XT.i0_ne_t q) ho hp r) (kT q)
  · exact go (fun t r => XS.ifNo K.at K.hx rfl (hb K.hby hd) rfl (XT.i0_ne_f (Classical.not_not.mp q)) r) (kF (Classical.not_not.mp q))
theorem k_lif_ne (K : Wk p l e R s m args below meth c Z a0 EL n0 y bytes maxL ret b T h locs cells slots) {i j : Int64} {o : Int} {pc2 : Nat} (hd : decode bytes pc = .ok (.ifCond .ne o, 3)) (ho : 0 ≤ (pc : Int) + o) (hp : ((pc : Int) + o).toNat = pc') (hp2 : pc + 3 = pc2) (kT : ¬ i = j → Goes p.tables e below P (T.setTop (mkF m pc' Ls st))) (kF : i = j → Goes p.tables e below P (T.setTop (mkF m pc2 Ls st))) : Goes p.tables e below P (T.setTop (mkF m pc Ls (.int (XT.cmpL i j) :: st))) := by
  subst hp2
  by_cases q : ¬ i = j
  · exact go (fun t r => XS.ifYes K.at K.hx rfl rfl (hb K.hby hd) rfl (XT.ll_ne_t q) ho hp r) (kT q)
  · exact go (fun t r => XS.ifNo K.at K.hx rfl (hb K.hby hd) rfl (XT.ll_ne_f (Classical.not_not.mp q)) r) (kF (Classical.not_not.mp q))
theorem k_icmp_lt (K : Wk p l e R s m args below meth c Z a0 EL n0 y bytes maxL ret b T h locs cells slots) {i j : Int32} {o : Int} {pc2 : Nat} (hd : decode bytes pc = .ok (.if_icmp .lt o, 3)) (ho : 0 ≤ (pc : Int) + o) (hp : ((pc : Int) + o).toNat = pc') (hp2 : pc + 3 = pc2) (kT : i < j → Goes p.tables e below P (T.setTop (mkF m pc' Ls st))) (kF : ¬ i < j → Goes p.tables e below P (T.setTop (mkF m pc2 Ls st))) : Goes p.tables e below P (T.setTop (mkF m pc Ls (.int j :: .int i :: st))) := by
  subst hp2
  by_cases q : i < j
  · exact go (fun t r => XS.icmpYes K.at K.hx rfl rfl (hb K.hby hd) rfl (XT.ii_lt_t q) ho hp r) (kT q)
  · exact go (fun t r => XS.icmpNo K.at K.hx rfl (hb K.hby hd) rfl (XT.ii_lt_f q) r) (kF q)
theorem k_if_lt (K : Wk p l e R s m args below meth c Z a0 EL n0 y bytes maxL ret b T h locs cells slots) {i : Int32} {o : Int} {pc2 : Nat} (hd : decode bytes pc = .ok (.ifCond .lt o, 3)) (ho : 0 ≤ (pc : Int) + o) (hp : ((pc : Int) + o).toNat = pc') (hp2 : pc + 3 = pc2) (kT : i < 0 → Goes p.tables e below P (T.setTop (mkF m pc' Ls st))) (kF : ¬ i < 0 → Goes p.tables e below P (T.setTop (mkF m pc2 Ls st))) : Goes p.tables e below P (T.setTop (mkF m pc Ls (.int i :: st))) := by
  subst hp2
  by_cases q : i < 0
  · exact go (fun t r => XS.ifYes K.at K.hx rfl rfl (hb K.hby hd) rfl (XT.i0_lt_t q) ho hp r) (kT q)
  · exact go (fun t r => XS.ifNo K.at K.hx rfl (hb K.hby hd) rfl (XT.i0_lt_f q) r) (kF q)
theorem k_lif_lt (K : Wk p l e R s m args below meth c Z a0 EL n0 y bytes maxL ret b T h locs cells slots) {i j : Int64} {o : Int} {pc2 : Nat} (hd : decode bytes pc = .ok (.ifCond .lt o, 3)) (ho : 0 ≤ (pc : Int) + o) (hp : ((pc : Int) + o).toNat = pc') (hp2 : pc + 3 = pc2) (kT : i < j → Goes p.tables e below P (T.setTop (mkF m pc' Ls st))) (kF : ¬ i < j → Goes p.tables e below P (T.setTop (mkF m pc2 Ls st))) : Goes p.tables e below P (T.setTop (mkF m pc Ls (.int (XT.cmpL i j) :: st))) := by
  subst hp2
  by_cases q : i < j
  · exact go (fun t r => XS.ifYes K.at K.hx rfl rfl (hb K.hby hd) rfl (XT.ll_lt_t q) ho hp r) (kT q)
  · exact go (fun t r => XS.ifNo K.at K.hx rfl (hb K.hby hd) rfl (XT.ll_lt_f q) r) (kF q)
theorem k_icmp_ge (K : Wk p l e R s m args below meth c Z a0 EL n0 y bytes maxL ret b T h locs cells slots) {i j : Int32} {o : Int} {pc2 : Nat} (hd : decode bytes pc = .ok (.if_icmp .ge o, 3)) (ho : 0 ≤ (pc : Int) + o) (hp : ((pc : Int) + o).toNat = pc') (hp2 : pc + 3 = pc2) (kT : ¬ i < j → Goes p.tables e below P (T.setTop (mkF m pc' Ls st))) (kF : i < j → Goes p.tables e below P (T.setTop (mkF m pc2 Ls st))) : Goes p.tables e below P (T.setTop (mkF m pc Ls (.int j :: .int i :: st))) := by
  subst hp2
  by_cases q : ¬ i < j
  · exact go (fun t r => XS.icmpYes K.at K.hx rfl rfl (hb K.hby hd) rfl (XT.ii_ge_t q) ho hp r) (kT q)
  · exact go (fun t r => XS.icmpNo K.at K.hx rfl (hb K.hby hd) rfl (XT.ii_ge_f (Classical.not_not.mp q)) r) (kF (Classical.not_not.mp q))
theorem k_if_ge (K : Wk p l e R s m args below meth c Z a0 EL n0 y bytes maxL ret b T h locs cells slots) {i : Int32} {o : Int} {pc2 : Nat} (hd : decode bytes pc = .ok (.ifCond .ge o, 3)) (ho : 0 ≤ (pc : Int) + o) (hp : ((pc : Int) + o).toNat = pc') (hp2 : pc + 3 = pc2) (kT : ¬ i < 0 → Goes p.tables e below P (T.setTop (mkF m pc' Ls st))) (kF : i < 0 → Goes p.tables e below P (T.setTop (mkF m pc2 Ls st))) : Goes p.tables e below P (T.setTop (mkF m pc Ls (.int i :: st))) := by
  subst hp2
  by_cases q : ¬ i < 0
  · exact go (fun t r => XS.ifYes K.at K.hx rfl rfl (hb K.hby hd) rfl (XT.i0_ge_t q) ho hp r) (kT q)
  · exact go (fun t r => XS.ifNo K.at K.hx rfl (hb K.hby hd) rfl (XT.i0_ge_f (Classical.not_not.mp q)) r) (kF (Classical.not_not.mp q))
theorem k_lif_ge (K : Wk p l e R s m args below meth c Z a0 EL n0 y bytes maxL ret b T h locs cells slots) {i j : Int64} {o : Int} {pc2 : Nat} (hd : decode bytes pc = .ok (.ifCond .ge o, 3)) (ho : 0 ≤ (pc : Int) + o) (hp : ((pc : Int) + o).toNat = pc') (hp2 : pc + 3 = pc2) (kT : ¬ i < j → Goes p.tables e below P (T.setTop (mkF m pc' Ls st))) (kF : i < j → Goes p.tables e below P (T.setTop (mkF m pc2 Ls st))) : Goes p.tables e below P (T.setTop (mkF m pc Ls (.int (XT.cmpL i j) :: st))) := by
  subst hp2
  by_cases q : ¬ i < j
  · exact go (fun t r => XS.ifYes K.at K.hx rfl rfl (hb K.hby hd) rfl (XT.ll_ge_t q) ho hp r) (kT q)
  · exact go (fun t r => XS.ifNo K.at K.hx rfl (hb K.hby hd) rfl (XT.ll_ge_f (Classical.not_not.mp q)) r) (kF (Classical.not_not.mp q))
theorem k_icmp_gt (K : Wk p l e R s m args below meth c Z a0 EL n0 y bytes maxL ret b T h locs cells slots) {i j : Int32} {o : Int} {pc2 : Nat} (hd : decode bytes pc = .ok (.if_icmp .gt o, 3)) (ho : 0 ≤ (pc : Int) + o) (hp : ((pc : Int) + o).toNat = pc') (hp2 : pc + 3 = pc2) (kT : j < i → Goes p.tables e below P (T.setTop (mkF m pc' Ls st))) (kF : ¬ j < i → Goes p.tables e below P (T.setTop (mkF m pc2 Ls st))) : Goes p.tables e below P (T.setTop (mkF m pc Ls (.int j :: .int i :: st))) := by
  subst hp2
  by_cases q : j < i
  · exact go (fun t r => XS.icmpYes K.at K.hx rfl rfl (hb K.hby hd) rfl (XT.ii_gt_t q) ho hp r) (kT q)
  · exact go (fun t r => XS.icmpNo K.at K.hx rfl (hb K.hby hd) rfl (XT.ii_gt_f q) r) (kF q)
theorem k_if_gt (K : Wk p l e R s m args below meth c Z a0 EL n0 y bytes maxL ret b T h locs cells slots) {i : Int32} {o : Int} {pc2 : Nat} (hd : decode bytes pc = .ok (.ifCond .gt o, 3)) (ho : 0 ≤ (pc : Int) + o) (hp : ((pc : Int) + o).toNat = pc') (hp2 : pc + 3 = pc2) (kT : 0 < i → Goes p.tables e below P (T.setTop (mkF m pc' Ls st))) (kF : ¬ 0 < i → Goes p.tables e below P (T.setTop (mkF m pc2 Ls st))) : Goes p.tables e below P (T.setTop (mkF m pc Ls (.int i :: st))) := by
  subst hp2
  by_cases q : 0 < i
  · exact go (fun t r => XS.ifYes K.at K.hx rfl rfl (hb K.hby hd) rfl (XT.i0_gt_t q) ho hp r) (kT q)
  · exact go (fun t r => XS.ifNo K.at K.hx rfl (hb K.hby hd) rfl (XT.i0_gt_f q) r) (kF q)
theorem k_lif_gt (K : Wk p l e R s m args below meth c Z a0 EL n0 y bytes maxL ret b T h locs cells slots) {i j : Int64} {o : Int} {pc2 : Nat} (hd : decode bytes pc = .ok (.ifCond .gt o, 3)) (ho : 0 ≤ (pc : Int) + o) (hp : ((pc : Int) + o).toNat = pc') (hp2 : pc + 3 = pc2) (kT : j < i → Goes p.tables e below P (T.setTop (mkF m pc' Ls st))) (kF : ¬ j < i → Goes p.tables e below P (T.setTop (mkF m pc2 Ls st))) : Goes p.tables e below P (T.setTop (mkF m pc Ls (.int (XT.cmpL i j) :: st))) := by
  subst hp2
  by_cases q : j < i
  · exact go (fun t r => XS.ifYes K.at K.hx rfl rfl (hb K.hby hd) rfl (XT.ll_gt_t q) ho hp r) (kT q)
  · exact go (fun t r => XS.ifNo K.at K.hx rfl (hb K.hby hd) rfl (XT.ll_gt_f q) r) (kF q)
theorem k_icmp_le (K : Wk p l e R s m args below meth c Z a0 EL n0 y bytes maxL ret b T h locs cells slots) {i j : Int32} {o : Int} {pc2 : Nat} (hd : decode bytes pc = .ok (.if_icmp .le o, 3)) (ho : 0 ≤ (pc : Int) + o) (hp : ((pc : Int) + o).toNat = pc') (hp2 : pc + 3 = pc2) (kT : ¬ j < i → Goes p.tables e below P (T.setTop (mkF m pc' Ls st))) (kF : j < i → Goes p.tables e below P (T.setTop (mkF m pc2 Ls st))) : Goes p.tables e below P (T.setTop (mkF m pc Ls (.int j :: .int i :: st))) := by
  subst hp2
  by_cases q : ¬ j < i
  · exact go (fun t r => XS.icmpYes K.at K.hx rfl rfl (hb K.hby hd) rfl (XT.ii_le_t q) ho hp r) (kT q)
  · exact go (fun t r => XS.icmpNo K.at K.hx rfl (hb K.hby hd) rfl (XT.ii_le_f (Classical.not_not.mp q)) r) (kF (Classical.not_not.mp q))
theorem k_if_le (K : Wk p l e R s m args below meth c Z a0 EL n0 y bytes maxL ret b T h locs cells slots) {i : Int32} {o : Int} {pc2 : Nat} (hd : decode bytes pc = .ok (.ifCond .le o, 3)) (ho : 0 ≤ (pc : Int) + o) (hp : ((pc : Int) + o).toNat = pc') (hp2 : pc + 3 = pc2) (kT : ¬ 0 < i → Goes p.tables e below P (T.setTop (mkF m pc' Ls st))) (kF : 0 < i → Goes p.tables e below P (T.setTop (mkF m pc2 Ls st))) : Goes p.tables e below P (T.setTop (mkF m pc Ls (.int i :: st))) := by
  subst hp2
  by_cases q : ¬ 0 < i
  · exact go (fun t r => XS.ifYes K.at K.hx rfl rfl (hb K.hby hd) rfl (XT.i0_le_t q) ho hp r) (kT q)
  · exact go (fun t r => XS.ifNo K.at K.hx rfl (hb K.hby hd) rfl (XT.i0_le_f (Classical.not_not.mp q)) r) (kF (Classical.not_not.mp q))
theorem k_lif_le (K : Wk p l e R s m args below meth c Z a0 EL n0 y bytes maxL ret b T h locs cells slots) {i j : Int64} {o : Int} {pc2 : Nat} (hd : decode bytes pc = .ok (.ifCond .le o, 3)) (ho : 0 ≤ (pc : Int) + o) (hp : ((pc : Int) + o).toNat = pc') (hp2 : pc + 3 = pc2) (kT : ¬ j < i → Goes p.tables e below P (T.setTop (mkF m pc' Ls st))) (kF : j < i → Goes p.tables e below P (T.setTop (mkF m pc2 Ls st))) : Goes p.tables e below P (T.setTop (mkF m pc Ls (.int (XT.cmpL i j) :: st))) := by
  subst hp2
  by_cases q : ¬ j < i
  · exact go (fun t r => XS.ifYes K.at K.hx rfl rfl (hb K.hby hd) rfl (XT.ll_le_t q) ho hp r) (kT q)
  · exact go (fun t r => XS.ifNo K.at K.hx rfl (hb K.hby hd) rfl (XT.ll_le_f (Classical.not_not.mp q)) r) (kF (Classical.not_not.mp q))
theorem k_acmp_eq (K : Wk p l e R s m args below meth c Z a0 EL n0 y bytes maxL ret b T h locs cells slots) {u v : Value} (hu : u.isRef = true) (hv : v.isRef = true) {o : Int} {pc2 : Nat} (hd : decode bytes pc = .ok (.if_acmp .eq o, 3)) (ho : 0 ≤ (pc : Int) + o) (hp : ((pc : Int) + o).toNat = pc') (hp2 : pc + 3 = pc2) (kE : u = v → Goes p.tables e below P (T.setTop (mkF m pc' Ls st))) (kN : ¬ u = v → Goes p.tables e below P (T.setTop (mkF m pc2 Ls st))) : Goes p.tables e below P (T.setTop (mkF m pc Ls (v :: u :: st))) := by
  subst hp2 hp
  by_cases q : u = v
  · exact go (fun t r => Jvm.RoadKit.acmp (g := mkF m pc Ls (v :: u :: st)) K.X K.hx rfl hu hv (pc0 := pc) (same := true) rfl (hb K.hby hd) rfl (decide_eq_true q) ho rfl r) (kE q)
  · exact go (fun t r => Jvm.RoadKit.acmp (g := mkF m pc Ls (v :: u :: st)) K.X K.hx rfl hu hv (pc0 := pc) (same := false) rfl (hb K.hby hd) rfl (decide_eq_false q) ho rfl r) (kN q)
theorem k_acmp_ne (K : Wk p l e R s m args below meth c Z a0 EL n0 y bytes maxL ret b T h locs cells slots) {u v : Value} (hu : u.isRef = true) (hv : v.isRef = true) {o : Int} {pc2 : Nat} (hd : decode bytes pc = .ok (.if_acmp .ne o, 3)) (ho : 0 ≤ (pc : Int) + o) (hp : ((pc : Int) + o).toNat = pc') (hp2 : pc + 3 = pc2) (kE : u = v → Goes p.tables e below P (T.setTop (mkF m pc2 Ls st))) (kN : ¬ u = v → Goes p.tables e below P (T.setTop (mkF m pc' Ls st))) : Goes p.tables e below P (T.setTop (mkF m pc Ls (v :: u :: st))) := by
  subst hp2 hp
  by_cases q : u = v
  · exact go (fun t r => Jvm.RoadKit.acmp (g := mkF m pc Ls (v :: u :: st)) K.X K.hx rfl hu hv (pc0 := pc) (same := true) rfl (hb K.hby hd) rfl (decide_eq_true q) ho rfl r) (kE q)
  · exact go (fun t r => Jvm.RoadKit.acmp (g := mkF m pc Ls (v :: u :: st)) K.X K.hx rfl hu hv (pc0 := pc) (same := false) rfl (hb K.hby hd) rfl (decide_eq_false q) ho rfl r) (kN q)
theorem k_ifnull (K : Wk p l e R s m args below meth c Z a0 EL n0 y bytes maxL ret b T h locs cells slots) {v : Value} (hv : v.isRef = true) {o : Int} {pc2 : Nat} (hd : decode bytes pc = .ok (.ifnull o, 3)) (ho : 0 ≤ (pc : Int) + o) (hp : ((pc : Int) + o).toNat = pc') (hp2 : pc + 3 = pc2) (kT : v = .null → Goes p.tables e below P (T.setTop (mkF m pc' Ls st))) (kF : ¬ v = .null → Goes p.tables e below P (T.setTop (mkF m pc2 Ls st))) : Goes p.tables e below P (T.setTop (mkF m pc Ls (v :: st))) := by
  subst hp2
  by_cases qn : v = .null
  · exact go (fun t r => XT.nullYes K.at K.hx rfl rfl (hb K.hby hd) rfl qn ho hp r) (kT qn)
  · exact go (fun t r => XT.nullNo K.at K.hx rfl (hb K.hby hd) rfl hv qn r) (kF qn)
theorem k_ifnonnull (K : Wk p l e R s m args below meth c Z a0 EL n0 y bytes maxL ret b T h locs cells slots) {v : Value} (hv : v.isRef = true) {o : Int} {pc2 : Nat} (hd : decode bytes pc = .ok (.ifnonnull o, 3)) (ho : 0 ≤ (pc : Int) + o) (hp : ((pc : Int) + o).toNat = pc') (hp2 : pc + 3 = pc2) (kT : ¬ v = .null → Goes p.tables e below P (T.setTop (mkF m pc' Ls st))) (kF : v = .null → Goes p.tables e below P (T.setTop (mkF m pc2 Ls st))) : Goes p.tables e below P (T.setTop (mkF m pc Ls (v :: st))) := by
  subst hp2
  by_cases qn : v = .null
  · exact go (fun t r => XT.nonnullNo K.at K.hx rfl (hb K.hby hd) rfl qn r) (kF qn)
  · exact go (fun t r => XT.nonnullYes K.at K.hx rfl rfl (hb K.hby hd) rfl hv qn ho hp r) (kT qn)
theorem k_getF (K : Wk p l e R s m args below meth c Z a0 EL n0 y bytes maxL ret b T h locs cells slots) {R0 O n d : String} {i : Nat} {a : Addr} {v : Value} (wd : (Cond.fieldLink y.cls i R0 n d).before a0 Z = true) (via : Via Z R0 O n d) (F : Fld Z h a O n d v) (hd : decode bytes pc = .ok (.getfield i, 3)) (hp : pc + 3 = pc') (k : ∀ T', Wk p l e R s m args below meth c Z a0 EL n0 y bytes maxL ret b T' h locs cells slots → Goes p.tables e below P (T'.setTop (mkF m pc' Ls (v :: st)))) : Goes p.tables e below P (T.setTop (mkF m pc Ls (.ref a :: st))) := by
  subst hp
  obtain ⟨T', X', e', q⟩ := Jvm.RoadKit.getF K.X K.hx K.hZ (host := "") K.hown (Or.inl wd) via K.eT F (g := mkF m pc Ls (.ref a :: st)) rfl rfl (hb K.hby hd)
  exact go q (k T' (K.move X' e' K.fr K.old K.bs))
theorem k_getFN (K : Wk p l e R s m args below meth c Z a0 EL n0 y bytes maxL ret b T h locs cells slots) {R0 O n d host : String} {i : Nat} {a : Addr} {v : Value} (wd : (Cond.fieldLinkNest y.cls i R0 n d host).before a0 Z = true) (via : Via Z R0 O n d) (F : Fld Z h a O n d v) (hd : decode bytes pc = .ok (.getfield i, 3)) (hp : pc + 3 = pc') (k : ∀ T', Wk p l e R s m args below meth c Z a0 EL n0 y bytes maxL ret b T' h locs cells slots → Goes p.tables e below P (T'.setTop (mkF m pc' Ls (v :: st)))) : Goes p.tables e below P (T.setTop (mkF m pc Ls (.ref a :: st))) := by
  subst hp
  obtain ⟨T', X', e', q⟩ := Jvm.RoadKit.getF K.X K.hx K.hZ K.hown (Or.inr wd) via K.eT F (g := mkF m pc Ls (.ref a :: st)) rfl rfl (hb K.hby hd)
  exact go q (k T' (K.move X' e' K.fr K.old K.bs))
theorem k_getS (K : Wk p l e R s m args below meth c Z a0 EL n0 y bytes maxL ret b T h locs cells slots) {R0 O n d : String} {i : Nat} {v : Value} (wd : (Cond.fieldLink y.cls i R0 n d).before a0 Z = true) (via : Via Z R0 O n d) (F : Sta Z Z.heap O n d v) (hd : decode bytes pc = .ok (.getstatic i, 3)) (hp : pc + 3 = pc') (k : ∀ T', Wk p l e R s m args below meth c Z a0 EL n0 y bytes maxL ret b T' h locs cells slots → Goes p.tables e below P (T'.setTop (mkF m pc' Ls (v :: st)))) : Goes p.tables e below P (T.setTop (mkF m pc Ls st)) := by
  subst hp
  obtain ⟨T', X', e', q⟩ := getS2 K.X K.hx K.hZ K.hown (host := "") (Or.inl wd) via K.eT (F.ext K.old.2) (g := mkF m pc Ls st) rfl (hb K.hby hd)
  exact go q (k T' (K.move X' e' K.fr K.old K.bs))
theorem k_getSN (K : Wk p l e R s m args below meth c Z a0 EL n0 y bytes maxL ret b T h locs cells slots) {R0 O n d host : String} {i : Nat} {v : Value} (wd : (Cond.fieldLinkNest y.cls i R0 n d host).before a0 Z = true) (via : Via Z R0 O n d) (F : Sta Z Z.heap O n d v) (hd : decode bytes pc = .ok (.getstatic i, 3)) (hp : pc + 3 = pc') (k : ∀ T', Wk p l e R s m args below meth c Z a0 EL n0 y bytes maxL ret b T' h locs cells slots → Goes p.tables e below P (T'.setTop (mkF m pc' Ls (v :: st)))) : Goes p.tables e below P (T.setTop (mkF m pc Ls st)) := by
  subst hp
  obtain ⟨T', X', e', q⟩ := getS2 K.X K.hx K.hZ K.hown (Or.inr wd) via K.eT (F.ext K.old.2) (g := mkF m pc Ls st) rfl (hb K.hby hd)
  exact go q (k T' (K.move X' e' K.fr K.old K.bs))
theorem k_castY (K : Wk p l e R s m args below meth c Z a0 EL n0 y bytes maxL ret b T h locs cells slots) {C : String} {i : Nat} {a : Addr} (wd : (Cond.classLink y.cls i C).before a0 Z = true) (F : Ins Z h a C true) (hd : decode bytes pc = .ok (.checkcast i, 3)) (hp : pc + 3 = pc') (k : ∀ T', Wk p l e R s m args below meth c Z a0 EL n0 y bytes maxL ret b T' h locs cells slots → Goes p.tables e below P (T'.setTop (mkF m pc' Ls (.ref a :: st)))) : Goes p.tables e below P (T.setTop (mkF m pc Ls (.ref a :: st))) := by
  subst hp
  obtain ⟨T', X', e', q⟩ := castY K.X K.hx K.hZ K.hown wd K.eT F (g := mkF m pc Ls (.ref a :: st)) rfl rfl (hb K.hby hd)
  exact go q (k T' (K.move X' e' K.fr K.old K.bs))
theorem k_instY (K : Wk p l e R s m args below meth c Z a0 EL n0 y bytes maxL ret b T h locs cells slots) {C : String} {i : Nat} {a : Addr} (wd : (Cond.classLink y.cls i C).before a0 Z = true) (F : Ins Z h a C true) (hd : decode bytes pc = .ok (.instanceof i, 3)) (hp : pc + 3 = pc') (k : ∀ T', Wk p l e R s m args below meth c Z a0 EL n0 y bytes maxL ret b T' h locs cells slots → Goes p.tables e below P (T'.setTop (mkF m pc' Ls (.int 1 :: st)))) : Goes p.tables e below P (T.setTop (mkF m pc Ls (.ref a :: st))) := by
  subst hp
  obtain ⟨T', X', e', q⟩ := instY K.X K.hx K.hZ K.hown wd K.eT F (g := mkF m pc Ls (.ref a :: st)) rfl rfl (hb K.hby hd)
  exact go q (k T' (K.move X' e' K.fr K.old K.bs))
theorem instN_at (X : Stand p l e R s m args below meth c T locs cells slots) (hx : p.tables.exec = Jvm.exec) (hZ : Z.Warmed39 s.vm) {own C D : String} {index : Nat} (hown : s.vm.findClass own = some m.cls) (w : (Cond.classLink own index C).before a0 Z = true) (eT : T.heap = h) {a : Addr} (F : Ins Z h a C false) (E : Exa Z h a D)
    {g : JFrame} (hg : g.method = m) {rest : List Value} (hs : g.stack = .ref a :: rest) (hd : decode c.code g.pc = .ok (.instanceof index, 3)) : ∃ T', Stand p l e R s m args below meth c T' locs cells slots ∧ T'.heap = h ∧ ∀ target, Steps p.tables e below (T'.setTop { g with pc := g.pc + 3, stack := .int 0 :: rest }) target → Steps p.tables e below (T.setTop g) target := by
  obtain ⟨cell, cT, h1, h2, h3⟩ := F
  obtain ⟨cell', k, e1, -, e3, e4, -⟩ := E
  cases h1.symm.trans e1
  obtain ⟨k', q, -⟩ := hZ.alike.2.2 _ _ e3
  obtain ⟨vm', X', st⟩ := Jvm.Sym.instanceofNoAt X hx hown (mvT hZ w) (by rw [eT]; exact h1) e4 q (by rw [hZ.alike.findClass]; exact h2) (by rw [hZ.alike.assignable]; simpa [e4] using h3) hg hs hd
  exact ⟨_, X', eT, st⟩
theorem k_instN (K : Wk p l e R s m args below meth c Z a0 EL n0 y bytes maxL ret b T h locs cells slots) {C D : String} {i : Nat} {a : Addr} (wd : (Cond.classLink y.cls i C).before a0 Z = true) (F : Ins Z h a C false) (E : Exa Z h a D) (hd : decode bytes pc = .ok (.instanceof i, 3)) (hp : pc + 3 = pc') (k : ∀ T', Wk p l e R s m args below meth c Z a0 EL n0 y bytes maxL ret b T' h locs cells slots → Goes p.tables e below P (T'.setTop (mkF m pc' Ls (.int 0 :: st)))) : Goes p.tables e below P (T.setTop (mkF m pc Ls (.ref a :: st))) := by
  subst hp
  obtain ⟨T', X', e', q⟩ := instN_at K.X K.hx K.hZ K.hown wd K.eT F E (g := mkF m pc Ls (.ref a :: st)) rfl rfl (hb K.hby hd)
  exact go q (k T' (K.move X' e' K.fr K.old K.bs))
theorem k_instNull (K : Wk p l e R s m args below meth c Z a0 EL n0 y bytes maxL ret b T h locs cells slots) {i : Nat} (hd : decode bytes pc = .ok (.instanceof i, 3)) (hp : pc + 3 = pc') (k : Goes p.tables e below P (T.setTop (mkF m pc' Ls (.int 0 :: st)))) : Goes p.tables e below P (T.setTop (mkF m pc Ls (.null :: st))) := by
  subst hp
  exact go (fun t q => K.X.instanceofNull K.hx (g := mkF m pc Ls (.null :: st)) rfl rfl (hb K.hby hd) _ q) k
theorem k_castNull (K : Wk p l e R s m args below meth c Z a0 EL n0 y bytes maxL ret b T h locs cells slots) {i : Nat} (hd : decode bytes pc = .ok (.checkcast i, 3)) (hp : pc + 3 = pc') (k : Goes p.tables e below P (T.setTop (mkF m pc' Ls (.null :: st)))) : Goes p.tables e below P (T.setTop (mkF m pc Ls (.null :: st))) := by
  subst hp
  exact go (fun t q => K.X.checkcastNull K.hx (g := mkF m pc Ls (.null :: st)) rfl rfl (hb K.hby hd) _ q) k
theorem k_iaload (K : Wk p l e R s m args below meth c Z a0 EL n0 y bytes maxL ret b T h locs cells slots) {a : Addr} {kk : ClassId} {z j : Int32} {vs : List Value} {dv : Value} {v : Int32} (F : Arv Z h a kk .int z vs dv) (hj : ¬ j < 0 ∧ j < z) (hv : vs.getD j.toNatClampNeg dv = .int v) (hd : decode bytes pc = .ok (.iaload, 1)) (hp : pc + 1 = pc') (k : Goes p.tables e below P (T.setTop (mkF m pc' Ls (.int v :: st)))) : Goes p.tables e below P (T.setTop (mkF m pc Ls (.int j :: .ref a :: st))) := by
  subst hp
  obtain ⟨cl, Ar, -, S, -, H, -⟩ := F
  exact go (fun t q => K.X.iaload K.hx (j := j) (v := .int v) (by rw [K.eT]; exact Ar.1) (State.isArrayOf_alike K.hZ.alike Ar.2.1) Ar.2.2 (inb_of S hj) (H.at (inb_of S hj) hv) (g := mkF m pc Ls (.int j :: .ref a :: st)) rfl rfl (hb K.hby hd) _ q) k
theorem k_caload (K : Wk p l e R s m args below meth c Z a0 EL n0 y bytes maxL ret b T h locs cells slots) {a : Addr} {kk : ClassId} {z j : Int32} {vs : List Value} {dv : Value} {v : Int32} (F : Arv Z h a kk .char z vs dv) (hj : ¬ j < 0 ∧ j < z) (hv : vs.getD j.toNatClampNeg dv = .int v) (hd : decode bytes pc = .ok (.caload, 1)) (hp : pc + 1 = pc') (k : Goes p.tables e below P (T.setTop (mkF m pc' Ls (.int v :: st)))) : Goes p.tables e below P (T.setTop (mkF m pc Ls (.int j :: .ref a :: st))) := by
  subst hp
  obtain ⟨cl, Ar, -, S, -, H, -⟩ := F
  exact go (fun t q => K.X.caload K.hx (j := j) (v := .int v) (by rw [K.eT]; exact Ar.1) (State.isArrayOf_alike K.hZ.alike Ar.2.1) Ar.2.2 (inb_of S hj) (H.at (inb_of S hj) hv) (g := mkF m pc Ls (.int j :: .ref a :: st)) rfl rfl (hb K.hby hd) _ q) k
theorem k_baload (K : Wk p l e R s m args below meth c Z a0 EL n0 y bytes maxL ret b T h locs cells slots) {a : Addr} {kk : ClassId} {z j : Int32} {vs : List Value} {dv : Value} {v : Int32} (F : Arv Z h a kk .byte z vs dv) (hj : ¬ j < 0 ∧ j < z) (hv : vs.getD j.toNatClampNeg dv = .int v) (hd : decode bytes pc = .ok (.baload, 1)) (hp : pc + 1 = pc') (k : Goes p.tables e below P (T.setTop (mkF m pc' Ls (.int v :: st)))) : Goes p.tables e below P (T.setTop (mkF m pc Ls (.int j :: .ref a :: st))) := by
  subst hp
  obtain ⟨cl, Ar, -, S, -, H, -⟩ := F
  exact go (fun t q => K.X.baloadBytes K.hx (j := j) (v := .int v) (by rw [K.eT]; exact Ar.1) (State.isArrayOf_alike K.hZ.alike Ar.2.1) Ar.2.2 (inb_of S hj) (H.at (inb_of S hj) hv) (g := mkF m pc Ls (.int j :: .ref a :: st)) rfl rfl (hb K.hby hd) _ q) k
theorem k_laload (K : Wk p l e R s m args below meth c Z a0 EL n0 y bytes maxL ret b T h locs cells slots) {a : Addr} {kk : ClassId} {z j : Int32} {vs : List Value} {dv : Value} {v : Int64} (F : Arv Z h a kk .long z vs dv) (hj : ¬ j < 0 ∧ j < z) (hv : vs.getD j.toNatClampNeg dv = .long v) (hd : decode bytes pc = .ok (.laload, 1)) (hp : pc + 1 = pc') (k : Goes p.tables e below P (T.setTop (mkF m pc' Ls (.long v :: st)))) : Goes p.tables e below P (T.setTop (mkF m pc Ls (.int j :: .ref a :: st))) := by
  subst hp
  obtain ⟨cl, Ar, -, S, -, H, -⟩ := F
  exact go (fun t q => K.X.laload K.hx (j := j) (v := .long v) (by rw [K.eT]; exact Ar.1) (State.isArrayOf_alike K.hZ.alike Ar.2.1) Ar.2.2 (inb_of S hj) (H.at (inb_of S hj) hv) (g := mkF m pc Ls (.int j :: .ref a :: st)) rfl rfl (hb K.hby hd) _ q) k
theorem k_aaload (K : Wk p l e R s m args below meth c Z a0 EL n0 y bytes maxL ret b T h locs cells slots) {a : Addr} {kk : ClassId} {ty : FieldType} {z j : Int32} {vs : List Value} {dv v : Value} (F : Arv Z h a kk ty z vs dv) (hty : ty.isReference = true) (hj : ¬ j < 0 ∧ j < z) (hv : vs.getD j.toNatClampNeg dv = v) (hd : decode bytes pc = .ok (.aaload, 1)) (hp : pc + 1 = pc') (k : Goes p.tables e below P (T.setTop (mkF m pc' Ls (v :: st)))) : Goes p.tables e below P (T.setTop (mkF m pc Ls (.int j :: .ref a :: st))) := by
  subst hp
  obtain ⟨cl, Ar, -, S, -, H, -⟩ := F
  exact go (fun t q => K.X.aaload K.hx (j := j) (v := v) (by rw [K.eT]; exact Ar.1) (State.isArrayOf_alike K.hZ.alike Ar.2.1) hty Ar.2.2 (inb_of S hj) (H.at (inb_of S hj) hv) (g := mkF m pc Ls (.int j :: .ref a :: st)) rfl rfl (hb K.hby hd) _ q) k
theorem k_len (K : Wk p l e R s m args below meth c Z a0 EL n0 y bytes maxL ret b T h locs cells slots) {a : Addr} {kk : ClassId} {ty : FieldType} {z : Int32} {vs : List Value} {dv : Value} (F : Arv Z h a kk ty z vs dv) (hd : decode bytes pc = .ok (.arraylength, 1)) (hp : pc + 1 = pc') (k : Goes p.tables e below P (T.setTop (mkF m pc' Ls (.int z :: st)))) : Goes p.tables e below P (T.setTop (mkF m pc Ls (.ref a :: st))) := by
  subst hp
  obtain ⟨cl, Ar, -, S, N, -, -⟩ := F
  refine go (fun t q => K.X.arraylength K.hx (by rw [K.eT]; exact Ar.1) (State.isArrayOf_alike K.hZ.alike Ar.2.1) (g := mkF m pc Ls (.ref a :: st)) rfl rfl (hb K.hby hd) _ (by rw [len_of S N]; exact q)) k
theorem bs_ext (K : Wk p l e R s m args below meth c Z a0 EL n0 y bytes maxL ret b T h locs cells slots) {h' : Heap} (E : Ext h h') : Bs Z a0 EL s b h' := by
  obtain ⟨⟨vm0, k0, e1, e2, e3⟩, e4, e5⟩ := K.bs
  exact ⟨⟨vm0, k0, e1, e2, Nat.le_trans e3 E.1⟩, e4.trans (CHr.ext E e4.1), e5⟩
theorem bs_wr (K : Wk p l e R s m args below meth c Z a0 EL n0 y bytes maxL ret b T h locs cells slots) {h' : Heap} {a : Addr} {sl : Nat} {v : Value} (W : Wr h h' a sl v) (sf : Sfe Z EL b.vm h a) : Bs Z a0 EL s b h' := by
  obtain ⟨⟨vm0, k0, e1, e2, e3⟩, e4, e5⟩ := K.bs
  exact ⟨⟨vm0, k0, e1, e2, by rw [W.size]; exact e3⟩, e4.trans (CHr.wr W sf e4.1), e5⟩
theorem sfe_ext (K : Wk p l e R s m args below meth c Z a0 EL n0 y bytes maxL ret b T h locs cells slots) {h' : Heap} (E : Ext h h') (x : Addr) (_ : x < h.size) (q : Sfe Z EL b.vm h x) : Sfe Z EL b.vm h' x := Safe.ext E K.bs.2.1.1 q
theorem sfe_wr (K : Wk p l e R s m args below meth c Z a0 EL n0 y bytes maxL ret b T h locs cells slots) {h' : Heap} {a : Addr} {sl : Nat} {v : Value} (W : Wr h h' a sl v) (sf : Sfe Z EL b.vm h a) (x : Addr) (_ : x < h.size) (q : Sfe Z EL b.vm h x) : Sfe Z EL b.vm h' x := Safe.wr W sf K.bs.2.1.1 q
theorem sfe_ext_new (K : Wk p l e R s m args below meth c Z a0 EL n0 y bytes maxL ret b T h locs cells slots) {h' : Heap} (E : Ext h h') : Sfe Z EL b.vm h' h.size := fun B => sfe_new (Nat.le_refl _) ((CHv.step K.bs.2.1.1 fun _ _ _ q => E.2 _ _ q).2 _ B)
theorem k_new (K : Wk p l e R s m args below meth c Z a0 EL n0 y bytes maxL ret b T h locs cells slots) {C : String} {i n : Nat} (wl : (Cond.classLink y.cls i C).before a0 Z = true) (wi : (Cond.instantiable C n).before a0 Z = true) (wz : (Cond.initialized C).before a0 Z = true) (hd : decode bytes pc = .ok (.new i, 3)) (hp : pc + 3 = pc') (hce : cells + 1 ≤ R.cells) (hsl : slots + n ≤ R.slots) (k : ∀ T' h' a, a = h.size → Wk p l e R s m args below meth c Z a0 EL n0 y bytes maxL ret b T' h' locs (cells + 1) (slots + n) → Ext h h' → (∀ x, x < h.size → Sfe Z EL b.vm h x → Sfe Z EL b.vm h' x) → Sfe Z EL b.vm h' a → Exa Z h' a C → (∀ {O nm d : String} {ty : FieldType}, Laid Z a0 C O nm d → parseFieldDescriptor d = some ty → Fld Z h' a O nm d (defaultValue ty)) → Unt h' a → Goes p.tables e below P (T'.setTop (mkF m pc' Ls (.ref a :: st)))) : Goes p.tables e below P (T.setTop (mkF m pc Ls st)) := by
  subst hp
  obtain ⟨T', h', X', e', E', A', D', U', q⟩ := newO K.X K.hx K.hZ K.hown wl wi wz K.eT (g := mkF m pc Ls st) rfl (hb K.hby hd) hce hsl
  exact go q (k T' h' _ rfl (K.move X' e' K.fr (K.old.ext E') (bs_ext K E')) E' (sfe_ext K E') (sfe_ext_new K E') A' D' U')
theorem k_putF (K : Wk p l e R s m args below meth c Z a0 EL n0 y bytes maxL ret b T h locs cells slots) {R0 O n d C : String} {i kk : Nat} {ty : FieldType} {a : Addr} {v old : Value} (wd : (Cond.fieldLink y.cls i R0 n d).before a0 Z = true) (via : Via Z R0 O n d) (F : Fld Z h a O n d old) (E : Exa Z h a C) (L : (Cond.lays C O n d).before a0 Z = true ∨ ((Cond.laysFinal C O n d).before a0 Z = true ∧ y.cls = O ∧ y.name = "<init>")) (wi : (Cond.instantiable C kk).before a0 Z = true) (hty : parseFieldDescriptor d = some ty) (hn : narrow ty v = v) (hf : fits ty v = true) (ga : n0 ≤ a) (sf : Sfe Z EL b.vm h a) (hd : decode bytes pc = .ok (.putfield i, 3)) (hp : pc + 3 = pc') (k : ∀ T' h', Wk p l e R s m args below meth c Z a0 EL n0 y bytes maxL ret b T' h' (locs ++ [⟨a, Jvm.RoadKit.slotOf Z O n d⟩]) cells slots → Wr h h' a (Jvm.RoadKit.slotOf Z O n d) v → (∀ x, x < h.size → Sfe Z EL b.vm h x → Sfe Z EL b.vm h' x) → Goes p.tables e below P (T'.setTop (mkF m pc' Ls st))) : Goes p.tables e below P (T.setTop (mkF m pc Ls (v :: .ref a :: st))) := by
  subst hp
  obtain ⟨T', h', X', e', W', q⟩ := putF K.X K.hx K.hZ (host := "") K.hown (Or.inl wd) via K.eT F E (L.imp id fun ⟨q1, q2, q3⟩ => ⟨q1, q2, K.hnm.trans q3⟩) wi hty hn hf (g := mkF m pc Ls (v :: .ref a :: st)) rfl rfl (hb K.hby hd)
  exact go q (k T' h' (K.move X' e' (Fr.snoc X' K.fr ga) (K.old.wr W' ga) (bs_wr K W' sf)) W' (sfe_wr K W' sf))
theorem k_putFH (K : Wk p l e R s m args below meth c Z a0 EL n0 y bytes maxL ret b T h locs cells slots) {R0 O n d C host : String} {i kk : Nat} {ty : FieldType} {a : Addr} {v old : Value} (wd : (Cond.fieldLinkNest y.cls i R0 n d host).before a0 Z = true) (via : Via Z R0 O n d) (F : Fld Z h a O n d old) (E : Exa Z h a C) (L : (Cond.lays C O n d).before a0 Z = true ∨ ((Cond.laysFinal C O n d).before a0 Z = true ∧ y.cls = O ∧ y.name = "<init>")) (wi : (Cond.instantiable C kk).before a0 Z = true) (hty : parseFieldDescriptor d = some ty) (hn : narrow ty v = v) (hf : fits ty v = true) (ga : n0 ≤ a) (sf : Sfe Z EL b.vm h a) (hd : decode bytes pc = .ok (.putfield i, 3)) (hp : pc + 3 = pc') (k : ∀ T' h', Wk p l e R s m args below meth c Z a0 EL n0 y bytes maxL ret b T' h' (locs ++ [⟨a, Jvm.RoadKit.slotOf Z O n d⟩]) cells slots → Wr h h' a (Jvm.RoadKit.slotOf Z O n d) v → (∀ x, x < h.size → Sfe Z EL b.vm h x → Sfe Z EL b.vm h' x) → Goes p.tables e below P (T'.setTop (mkF m pc' Ls st))) : Goes p.tables e below P (T.setTop (mkF m pc Ls (v :: .ref a :: st))) := by
  subst hp
  obtain ⟨T', h', X', e', W', q⟩ := putF K.X K.hx K.hZ K.hown (Or.inr wd) via K.eT F E (L.imp id fun ⟨q1, q2, q3⟩ => ⟨q1, q2, K.hnm.trans q3⟩) wi hty hn hf (g := mkF m pc Ls (v :: .ref a :: st)) rfl rfl (hb K.hby hd)
  exact go q (k T' h' (K.move X' e' (Fr.snoc X' K.fr ga) (K.old.wr W' ga) (bs_wr K W' sf)) W' (sfe_wr K W' sf))
theorem k_putFN (K : Wk p l e R s m args below meth c Z a0 EL n0 y bytes maxL ret b T h locs cells slots) {R0 O n d C : String} {i kk : Nat} {ty : FieldType} {a : Addr} {v v' old : Value} (wd : (Cond.fieldLink y.cls i R0 n d).before a0 Z = true) (via : Via Z R0 O n d) (F : Fld Z h a O n d old) (E : Exa Z h a C) (L : (Cond.lays C O n d).before a0 Z = true ∨ ((Cond.laysFinal C O n d).before a0 Z = true ∧ y.cls = O ∧ y.name = "<init>")) (wi : (Cond.instantiable C kk).before a0 Z = true) (hty : parseFieldDescriptor d = some ty) (hn : narrow ty v = v') (hf : fits ty v' = true) (ga : n0 ≤ a) (sf : Sfe Z EL b.vm h a) (hd : decode bytes pc = .ok (.putfield i, 3)) (hp : pc + 3 = pc') (k : ∀ T' h', Wk p l e R s m args below meth c Z a0 EL n0 y bytes maxL ret b T' h' (locs ++ [⟨a, Jvm.RoadKit.slotOf Z O n d⟩]) cells slots → Wr h h' a (Jvm.RoadKit.slotOf Z O n d) v' → (∀ x, x < h.size → Sfe Z EL b.vm h x → Sfe Z EL b.vm h' x) → Goes p.tables e below P (T'.setTop (mkF m pc' Ls st))) : Goes p.tables e below P (T.setTop (mkF m pc Ls (v :: .ref a :: st))) := by
  subst hp
  obtain ⟨T', h', X', e', W', q⟩ := putFN K.X K.hx K.hZ K.hown wd via K.eT F E (L.imp id fun ⟨q1, q2, q3⟩ => ⟨q1, q2, K.hnm.trans q3⟩) wi hty hn hf (g := mkF m pc Ls (v :: .ref a :: st)) rfl rfl (hb K.hby hd)
  exact go q (k T' h' (K.move X' e' (Fr.snoc X' K.fr ga) (K.old.wr W' ga) (bs_wr K W' sf)) W' (sfe_wr K W' sf))
theorem k_newarray (K : Wk p l e R s m args below meth c Z a0 EL n0 y bytes maxL ret b T h locs cells slots) {aty : ArrayType} {z : Int32} (wa : (Cond.arrayClass (newarray.typeOf aty)).before a0 Z = true) (hz : ¬ z < 0) {cap : Nat} (hcap : z.toNatClampNeg ≤ cap) (hbig : cap * 8 ≤ 536870912) (hd : decode bytes pc = .ok (.newarray aty, 2)) (hp : pc + 2 = pc') (hce : cells + 1 ≤ R.cells) (hsl : slots + cap ≤ R.slots) (k : ∀ T' h' a kk, a = h.size → Wk p l e R s m args below meth c Z a0 EL n0 y bytes maxL ret b T' h' locs (cells + 1) (slots + cap) → Ext h h' → (∀ x, x < h.size → Sfe Z EL b.vm h x → Sfe Z EL b.vm h' x) → Sfe Z EL b.vm h' a → Arv Z h' a kk (newarray.typeOf aty) z [] (defaultValue (newarray.typeOf aty)) → Goes p.tables e below P (T'.setTop (mkF m pc' Ls (.ref a :: st)))) : Goes p.tables e below P (T.setTop (mkF m pc Ls (.int z :: st))) := by
  subst hp
  obtain ⟨T', h', kk, X', e', E', A', q⟩ := newP K.X K.hx K.hZ wa K.eT (g := mkF m pc Ls (.int z :: st)) rfl (hb K.hby hd) rfl hz hcap hbig hce hsl
  exact go q (k T' h' _ kk rfl (K.move X' e' K.fr (K.old.ext E') (bs_ext K E')) E' (sfe_ext K E') (sfe_ext_new K E') (Arv.new A' hz))
theorem k_anewarray (K : Wk p l e R s m args below meth c Z a0 EL n0 y bytes maxL ret b T h locs cells slots) {C : String} {i : Nat} {z : Int32} (wl : (Cond.classLink y.cls i C).before a0 Z = true) (wa : (Cond.arrayOver (.object C)).before a0 Z = true) (hz : ¬ z < 0) {cap : Nat} (hcap : z.toNatClampNeg ≤ cap) (hbig : cap * 8 ≤ 536870912) (hd : decode bytes pc = .ok (.anewarray i, 3)) (hp : pc + 3 = pc') (hce : cells + 1 ≤ R.cells) (hsl : slots + cap ≤ R.slots) (k : ∀ T' h' a kk, a = h.size → Wk p l e R s m args below meth c Z a0 EL n0 y bytes maxL ret b T' h' locs (cells + 1) (slots + cap) → Ext h h' → (∀ x, x < h.size → Sfe Z EL b.vm h x → Sfe Z EL b.vm h' x) → Sfe Z EL b.vm h' a → Arv Z h' a kk (.object C) z [] .null → Ovr Z kk C → Goes p.tables e below P (T'.setTop (mkF m pc' Ls (.ref a :: st)))) : Goes p.tables e below P (T.setTop (mkF m pc Ls (.int z :: st))) := by
  subst hp
  obtain ⟨T', h', kk, X', e', E', A', O', q⟩ := newR K.X K.hx K.hZ K.hown wl wa K.eT (g := mkF m pc Ls (.int z :: st)) rfl (hb K.hby hd) rfl hz hcap hbig hce hsl
  exact go q (k T' h' _ kk rfl (K.move X' e' K.fr (K.old.ext E') (bs_ext K E')) E' (sfe_ext K E') (sfe_ext_new K E') (Arv.new A' hz) O')
theorem k_iastore (K : Wk p l e R s m args below meth c Z a0 EL n0 y bytes maxL ret b T h locs cells slots) {a : Addr} {kk : ClassId} {z j : Int32} {vs : List Value} {dv : Value} {v : Int32} (F : Arv Z h a kk .int z vs dv) (hj : ¬ j < 0 ∧ j < z) (hlen : j.toNatClampNeg < vs.length) (ga : n0 ≤ a) (sf : Sfe Z EL b.vm h a) (hd : decode bytes pc = .ok (.iastore, 1)) (hp : pc + 1 = pc') (k : ∀ T' h', Wk p l e R s m args below meth c Z a0 EL n0 y bytes maxL ret b T' h' (locs ++ [⟨a, j.toNatClampNeg⟩]) cells slots → Wr h h' a j.toNatClampNeg (.int v) → (∀ x, x < h.size → Sfe Z EL b.vm h x → Sfe Z EL b.vm h' x) → Arv Z h' a kk .int z (vs.set j.toNatClampNeg (.int v)) dv → Goes p.tables e below P (T'.setTop (mkF m pc' Ls st))) : Goes p.tables e below P (T.setTop (mkF m pc Ls (.int v :: .int j :: .ref a :: st))) := by
  subst hp
  obtain ⟨cl, Ar, q1, S, N, H, G⟩ := F
  obtain ⟨T', h', X', e', W', q⟩ := stI K.X K.hx K.hZ K.eT Ar (j := j) (inb_of S hj) (g := mkF m pc Ls (.int v :: .int j :: .ref a :: st)) rfl rfl (hb K.hby hd)
  exact go q (k T' h' (K.move X' e' (Fr.snoc X' K.fr ga) (K.old.wr W' ga) (bs_wr K W' sf)) W' (sfe_wr K W' sf) (Arv.set Ar q1 S N H G rfl W' _ rfl hlen))
theorem k_castore (K : Wk p l e R s m args below meth c Z a0 EL n0 y bytes maxL ret b T h locs cells slots) {a : Addr} {kk : ClassId} {z j : Int32} {vs : List Value} {dv : Value} {v : Int32} (F : Arv Z h a kk .char z vs dv) (hj : ¬ j < 0 ∧ j < z) (hlen : j.toNatClampNeg < vs.length) (ga : n0 ≤ a) (sf : Sfe Z EL b.vm h a) (hd : decode bytes pc = .ok (.castore, 1)) (hp : pc + 1 = pc') (k : ∀ T' h', Wk p l e R s m args below meth c Z a0 EL n0 y bytes maxL ret b T' h' (locs ++ [⟨a, j.toNatClampNeg⟩]) cells slots → Wr h h' a j.toNatClampNeg (.int (nar .char v)) → (∀ x, x < h.size → Sfe Z EL b.vm h x → Sfe Z EL b.vm h' x) → Arv Z h' a kk .char z (vs.set j.toNatClampNeg (.int (nar .char v))) dv → Goes p.tables e below P (T'.setTop (mkF m pc' Ls st))) : Goes p.tables e below P (T.setTop (mkF m pc Ls (.int v :: .int j :: .ref a :: st))) := by
  subst hp
  obtain ⟨cl, Ar, q1, S, N, H, G⟩ := F
  obtain ⟨T', h', X', e', W', q⟩ := stC K.X K.hx K.hZ K.eT Ar (j := j) (inb_of S hj) (g := mkF m pc Ls (.int v :: .int j :: .ref a :: st)) rfl rfl (hb K.hby hd)
  exact go q (k T' h' (K.move X' e' (Fr.snoc X' K.fr ga) (K.old.wr W' ga) (bs_wr K W' sf)) W' (sfe_wr K W' sf) (Arv.set Ar q1 S N H G (fits_nar_char _) W' _ rfl hlen))
theorem k_bastore (K : Wk p l e R s m args below meth c Z a0 EL n0 y bytes maxL ret b T h locs cells slots) {a : Addr} {kk : ClassId} {z j : Int32} {vs : List Value} {dv : Value} {v : Int32} (F : Arv Z h a kk .byte z vs dv) (hj : ¬ j < 0 ∧ j < z) (hlen : j.toNatClampNeg < vs.length) (ga : n0 ≤ a) (sf : Sfe Z EL b.vm h a) (hd : decode bytes pc = .ok (.bastore, 1)) (hp : pc + 1 = pc') (k : ∀ T' h', Wk p l e R s m args below meth c Z a0 EL n0 y bytes maxL ret b T' h' (locs ++ [⟨a, j.toNatClampNeg⟩]) cells slots → Wr h h' a j.toNatClampNeg (.int (nar .byte v)) → (∀ x, x < h.size → Sfe Z EL b.vm h x → Sfe Z EL b.vm h' x) → Arv Z h' a kk .byte z (vs.set j.toNatClampNeg (.int (nar .byte v))) dv → Goes p.tables e below P (T'.setTop (mkF m pc' Ls st))) : Goes p.tables e below P (T.setTop (mkF m pc Ls (.int v :: .int j :: .ref a :: st))) := by
  subst hp
  obtain ⟨cl, Ar, q1, S, N, H, G⟩ := F
  obtain ⟨T', h', X', e', W', q⟩ := stB K.X K.hx K.hZ K.eT Ar (j := j) (inb_of S hj) (g := mkF m pc Ls (.int v :: .int j :: .ref a :: st)) rfl rfl (hb K.hby hd)
  exact go q (k T' h' (K.move X' e' (Fr.snoc X' K.fr ga) (K.old.wr W' ga) (bs_wr K W' sf)) W' (sfe_wr K W' sf) (Arv.set Ar q1 S N H G (fits_nar_byte _) W' _ rfl hlen))
theorem k_lastore (K : Wk p l e R s m args below meth c Z a0 EL n0 y bytes maxL ret b T h locs cells slots) {a : Addr} {kk : ClassId} {z j : Int32} {vs : List Value} {dv : Value} {v : Int64} (F : Arv Z h a kk .long z vs dv) (hj : ¬ j < 0 ∧ j < z) (hlen : j.toNatClampNeg < vs.length) (ga : n0 ≤ a) (sf : Sfe Z EL b.vm h a) (hd : decode bytes pc = .ok (.lastore, 1)) (hp : pc + 1 = pc') (k : ∀ T' h', Wk p l e R s m args below meth c Z a0 EL n0 y bytes maxL ret b T' h' (locs ++ [⟨a, j.toNatClampNeg⟩]) cells slots → Wr h h' a j.toNatClampNeg (.long v) → (∀ x, x < h.size → Sfe Z EL b.vm h x → Sfe Z EL b.vm h' x) → Arv Z h' a kk .long z (vs.set j.toNatClampNeg (.long v)) dv → Goes p.tables e below P (T'.setTop (mkF m pc' Ls st))) : Goes p.tables e below P (T.setTop (mkF m pc Ls (.long v :: .int j :: .ref a :: st))) := by
  subst hp
  obtain ⟨cl, Ar, q1, S, N, H, G⟩ := F
  obtain ⟨T', h', X', e', W', q⟩ := stJ K.X K.hx K.hZ K.eT Ar (j := j) (inb_of S hj) (g := mkF m pc Ls (.long v :: .int j :: .ref a :: st)) rfl rfl (hb K.hby hd)
  exact go q (k T' h' (K.move X' e' (Fr.snoc X' K.fr ga) (K.old.wr W' ga) (bs_wr K W' sf)) W' (sfe_wr K W' sf) (Arv.set Ar q1 S N H G rfl W' _ rfl hlen))
theorem k_aastore (K : Wk p l e R s m args below meth c Z a0 EL n0 y bytes maxL ret b T h locs cells slots) {a : Addr} {kk : ClassId} {ty : FieldType} {z j : Int32} {vs : List Value} {dv v : Value} (F : Arv Z h a kk ty z vs dv) (hty : ty.isReference = true) (hs : Sto Z h a v) (hfit : fits ty v = true) (hj : ¬ j < 0 ∧ j < z) (hlen : j.toNatClampNeg < vs.length) (ga : n0 ≤ a) (sf : Sfe Z EL b.vm h a) (hd : decode bytes pc = .ok (.aastore, 1)) (hp : pc + 1 = pc') (k : ∀ T' h', Wk p l e R s m args below meth c Z a0 EL n0 y bytes maxL ret b T' h' (locs ++ [⟨a, j.toNatClampNeg⟩]) cells slots → Wr h h' a j.toNatClampNeg v → (∀ x, x < h.size → Sfe Z EL b.vm h x → Sfe Z EL b.vm h' x) → Arv Z h' a kk ty z (vs.set j.toNatClampNeg v) dv → Goes p.tables e below P (T'.setTop (mkF m pc' Ls st))) : Goes p.tables e below P (T.setTop (mkF m pc Ls (v :: .int j :: .ref a :: st))) := by
  subst hp
  obtain ⟨cl, Ar, q1, S, N, H, G⟩ := F
  obtain ⟨T', h', X', e', W', q⟩ := stR K.X K.hx K.hZ K.eT Ar (j := j) (inb_of S hj) hty hs (g := mkF m pc Ls (v :: .int j :: .ref a :: st)) rfl rfl (hb K.hby hd)
  exact go q (k T' h' (K.move X' e' (Fr.snoc X' K.fr ga) (K.old.wr W' ga) (bs_wr K W' sf)) W' (sfe_wr K W' sf) (Arv.set Ar q1 S N H G hfit W' _ rfl hlen))
theorem k_clone (K : Wk p l e R s m args below meth c Z a0 EL n0 y bytes maxL ret b T h locs cells slots) {i : Nat} {ad : String} {a : Addr} {kk : ClassId} {ty : FieldType} {z : Int32} {vs : List Value} {dv : Value} (w1 : (Cond.methodLink y.cls i ⟨ad, "clone", "()Ljava/lang/Object;"⟩).before a0 Z = true) (w2 : (Cond.sameMethod ad "java/lang/Object" "clone" "()Ljava/lang/Object;").before a0 Z = true) (w3 : (Cond.native ⟨"java/lang/Object", "clone", "()Ljava/lang/Object;"⟩).before a0 Z = true) (w4 : (Cond.instanceMethod ⟨"java/lang/Object", "clone", "()Ljava/lang/Object;"⟩).before a0 Z = true) (w5 : (Cond.selects ad ⟨ad, "clone", "()Ljava/lang/Object;"⟩ ⟨"java/lang/Object", "clone", "()Ljava/lang/Object;"⟩).before a0 Z = true) (w6 : (Cond.castable ad "java/lang/Cloneable").before a0 Z = true) (F : Arv Z Z.heap a kk ty z vs dv) (E : Exa Z Z.heap a ad) (hfit : Fit Z) (hd : decode bytes pc = .ok (.invokevirtual i, 3)) (hp : pc + 3 = pc') (hsz : Ls.size = maxL) (hfr : 1 ≤ R.frames) (W : Nat) (hW : (st.map fun v => v.category).sum ≤ W) (hlo : W + 14 ≤ R.locals) {cap : Nat} (hcap : z.toNatClampNeg ≤ cap) (hce : cells + 1 ≤ R.cells) (hsl : slots + cap ≤ R.slots) (k : ∀ T' h' a', a' = h.size → Wk p l e R s m args below meth c Z a0 EL n0 y bytes maxL ret b T' h' locs (cells + 1) (slots + cap) → Ext h h' → (∀ x, x < h.size → Sfe Z EL b.vm h x → Sfe Z EL b.vm h' x) → Sfe Z EL b.vm h' a' → Arv Z h' a' kk ty z vs dv → Exa Z h' a' ad → Goes p.tables e below P (T'.setTop (mkF m pc' Ls (.ref a' :: st)))) : Goes p.tables e below P (T.setTop (mkF m pc Ls (.ref a :: st))) := by
  subst hp
  obtain ⟨cl, Ar, q1, S, N, H, G⟩ := F
  obtain ⟨T', h', X', e', E', A', D', q⟩ := cloneA K.X K.hx K.hZ K.hown w1 w2 w3 w4 w5 w6 K.eT (Ar.ext K.old.2) (E.ext K.old.2) (FitC.start hfit Ar) (g := mkF m pc Ls (.ref a :: st)) rfl (hsz.trans K.hml.symm) rfl (hb K.hby hd) hfr (W := W) (cap := cap) (by show 2 * 0 + _ ≤ _; rw [Nat.mul_zero, Nat.zero_add]; exact hW) hlo (by rw [S]; exact hcap) hce hsl
  exact go q (k T' h' _ rfl (K.move X' e' K.fr (K.old.ext E') (bs_ext K E')) E' (sfe_ext K E') (sfe_ext_new K E') ⟨_, A', q1, S, N, H, G⟩ D')
theorem bs_keep (K : Wk p l e R s m args below meth c Z a0 EL n0 y bytes maxL ret b T h locs cells slots) {h' : Heap} {da : Addr} (KQ : Keep h h' [da]) (sf : Sfe Z EL b.vm h da) : Bs Z a0 EL s b h' := by
  obtain ⟨⟨vm0, k0, e1, e2, e3⟩, e4, e5⟩ := K.bs
  exact ⟨⟨vm0, k0, e1, e2, Nat.le_trans e3 KQ.1⟩, e4.trans (CHr.keep KQ (allS sf all0) e4.1), e5⟩
theorem sfe_keep (K : Wk p l e R s m args below meth c Z a0 EL n0 y bytes maxL ret b T h locs cells slots) {h' : Heap} {da : Addr} (KQ : Keep h h' [da]) (sf : Sfe Z EL b.vm h da) (x : Addr) (_ : x < h.size) (q : Sfe Z EL b.vm h x) : Sfe Z EL b.vm h' x := Safe.keep KQ (allS sf all0) K.bs.2.1.1 q
theorem k_arraycopy (K : Wk p l e R s m args below meth c Z a0 EL n0 y bytes maxL ret b T h locs cells slots) {i : Nat} {sa da : Addr} {ks kd : ClassId} {ty : FieldType} {zs zd sp dp nn : Int32} {vs vd us : List Value} {dv dd : Value} (wl : (Cond.methodLink y.cls i Jvm.Stand.acN).before a0 Z = true) (wn : (Cond.native Jvm.Stand.acN).before a0 Z = true) (wt : (Cond.static Jvm.Stand.acN).before a0 Z = true) (wz : (Cond.initialized "java/lang/System").before a0 Z = true) (A : Arv Z h sa ks ty zs vs dv) (B : Arv Z h da kd ty zd vd dd) (hty : refKind ty = false) (h1 : ¬ sp < 0) (h2 : ¬ dp < 0) (h3 : ¬ nn < 0) (h4 : sp.toNatClampNeg + nn.toNatClampNeg ≤ zs.toNatClampNeg) (h5 : dp.toNatClampNeg + nn.toNatClampNeg ≤ zd.toNatClampNeg) (hus : us = (List.range nn.toNatClampNeg).map fun i => vs.getD (sp.toNatClampNeg + i) dv) (hl : dp.toNatClampNeg + nn.toNatClampNeg ≤ vd.length) (ga : n0 ≤ da) (sf : Sfe Z EL b.vm h da) (hd : decode bytes pc = .ok (.invokestatic i, 3)) (hp : pc + 3 = pc') (hsz : Ls.size = maxL) (hfr : 1 ≤ R.frames) (W : Nat) (hW : (st.map fun v => v.category).sum ≤ W) (hlo : W + 18 ≤ R.locals) (k : ∀ T' h' locs', Wk p l e R s m args below meth c Z a0 EL n0 y bytes maxL ret b T' h' locs' cells slots → Keep h h' [da] → (∀ x, x < h.size → Sfe Z EL b.vm h x → Sfe Z EL b.vm h' x) → Arv Z h' da kd ty zd (vd.take dp.toNatClampNeg ++ us ++ vd.drop (dp.toNatClampNeg + nn.toNatClampNeg)) dd → Goes p.tables e below P (T'.setTop (mkF m pc' Ls st))) : Goes p.tables e below P (T.setTop (mkF m pc Ls (.int nn :: .int dp :: .ref da :: .int sp :: .ref sa :: st))) := by
  subst hp
  obtain ⟨T', h', L', X', e', N', KQ, V', q⟩ := cpA K.X K.hx K.hZ K.hown wl wn wt wz K.eT A B (Or.inl ⟨rfl, hty⟩) h1 h2 h3 h4 h5 hus hl K.fr ga (g := mkF m pc Ls (.int nn :: .int dp :: .ref da :: .int sp :: .ref sa :: st)) rfl (hsz.trans K.hml.symm) rfl (hb K.hby hd) hfr (W := W) (by show 2 * 0 + _ ≤ _; rw [Nat.mul_zero, Nat.zero_add]; exact hW) hlo
  exact go q (k T' h' L' (K.move X' e' N' (K.old.keep KQ (allS ga all0)) (bs_keep K KQ sf)) KQ (sfe_keep K KQ sf) V')
theorem own_nf {args : Array Value} {C0 : String} {y' yy : MethodName} (hc : y'.cls = yy.cls) (ws : (Cond.selects C0 y' y').before args b = true) : NotFace b yy := fun r0 h0 => by
  obtain ⟨c2, r2, m2, q1, q2, q3, q4, kP, hkP, hkPi⟩ := Cond.selects_spec ws
  have e1 := findClass_of_methodNamed h0
  have e2 := findClass_of_methodNamed q3
  rw [hc] at e2
  have e3 := Option.some.inj (e1.symm.trans e2)
  exact ⟨kP, by rw [e3]; exact hkP, hkPi⟩
theorem own_same {args : Array Value} {C0 : String} {y' yy : MethodName} (hc : y'.cls = yy.cls) (ws : (Cond.selects C0 y' y').before args b = true) (wi : (Cond.instanceMethod yy).before args b = true) (hy : yy.cls ≠ "java/lang/invoke/MethodHandle" ∧ yy.cls ≠ "java/lang/invoke/VarHandle") : (Cond.sameMethod yy.cls yy.cls yy.name yy.desc).before args b = true := by
  obtain ⟨mk, methM, hnamed, hmethM, -, -⟩ := Cond.instanceMethod_spec wi
  obtain ⟨kP, hk, hki⟩ := own_nf hc ws mk hnamed
  have hfound := State.methodFound?_of_named hnamed hy
  have hcl := findClass_of_methodNamed hnamed
  have hn2 : b.methodNamed? ⟨yy.cls, yy.name, yy.desc⟩ = some mk := hnamed
  simp only [Cond.before, Cond.holds, Cond.value, hcl, hfound, hn2, hk]
  simp [hki]
theorem own_priv2 (K : Wk p l e R s m args below meth c Z a0 EL n0 y bytes maxL ret b T h locs cells slots) {C0 : String} {yy : MethodName} (ws : (Cond.selects C0 yy yy).before a0 Z = true) (wim : (Cond.instanceMethod yy).before a0 Z = true) (wpr : (Cond.privateMethod yy).before a0 Z = true) (hy : yy.cls ≠ "java/lang/invoke/MethodHandle" ∧ yy.cls ≠ "java/lang/invoke/VarHandle") : (Cond.selects yy.cls yy yy).before a0 b = true := by
  have wi : (Cond.instanceMethod yy).before a0 b = true := mvT K.hZ wim
  obtain ⟨mk, methM, hnamed, hmethM, -, -⟩ := Cond.instanceMethod_spec wi
  obtain ⟨kP, hk, hki⟩ := own_nf (args := a0) rfl (mvT K.hZ ws) mk hnamed
  exact selects_self_of_private (findClass_of_methodNamed hnamed) hk hki (Cond.privateMethod_at (mvP K.hZ wpr (args := #[]))) wi hy
theorem newPX (X : Stand p l e R s m args below meth c T locs cells slots) (hx : p.tables.exec = Jvm.exec) (hZ : Z.Warmed39 s.vm) {aty : ArrayType} (w : (Cond.arrayClass (newarray.typeOf aty)).before a0 Z = true) (eT : T.heap = h) {g : JFrame} (hg : g.method = m) (hd : decode c.code g.pc = .ok (.newarray aty, 2)) {n : Int32} {rest : List Value} (hs : g.stack = .int n :: rest)
    (hn : ¬ n < 0) {cap : Nat} (hcap : n.toNatClampNeg ≤ cap) (hb : cap * 8 ≤ 536870912) (hc : cells + 1 ≤ R.cells) (hl : slots + cap ≤ R.slots) :
    ∃ T' h' cA, Stand p l e R s m args below meth c T' locs (cells + 1) (slots + cap) ∧ T'.heap = h' ∧ Ext h h' ∧ Arr Z h' h.size (newA cA (newarray.typeOf aty) n) (newarray.typeOf aty) ∧ Exa Z h' h.size ("[" ++ (newarray.typeOf aty).toString) ∧
      ∀ target, Steps p.tables e below (T'.setTop { g with pc := g.pc + 2, stack := .ref h.size :: rest }) target → Steps p.tables e below (T.setTop g) target := by
  have hcb : componentBytes (newarray.typeOf aty) ≤ 8 := by cases aty <;> decide
  obtain ⟨cA, kA, comp, h1, h2, h3, X', st⟩ := X.newarrayPrim hx (mvA hZ w) hg hd hs hn (Nat.le_trans (Nat.mul_le_mul hcap hcb) hb) hc (by omega)
  subst eT
  rw [hZ.alike.findClass] at h1
  obtain ⟨kZ, z1, -⟩ := Vm.findClass_spec h1
  obtain ⟨k', z2, z3⟩ := hZ.alike.2.2 _ _ z1
  cases h2.symm.trans z2
  have hk : kZ.kind = .array comp (newarray.typeOf aty) := by rw [← h3, z3]
  refine ⟨_, _, cA, X'.more (Nat.le_refl _) (by omega), rfl, ⟨by show T.heap.size ≤ (T.heap.push _).size; simp, fun a c h => ?_⟩, ⟨by show (T.heap.push _)[T.heap.size]? = _; simp [newA], ⟨by simp [newA], kZ, z1, comp, hk⟩, by simp [newA]⟩, ⟨newA cA (newarray.typeOf aty) n, kZ, by show (T.heap.push _)[T.heap.size]? = _; simp [newA], h1, z1, rfl, fun q => by rw [hk] at q; cases q⟩, st⟩
  show (T.heap.push _)[a]? = _
  rw [Array.getElem?_push_lt (Array.getElem?_eq_some_iff.mp h).1]; exact (Array.getElem?_eq_getElem _).symm.trans h
theorem k_newarrayX (K : Wk p l e R s m args below meth c Z a0 EL n0 y bytes maxL ret b T h locs cells slots) {aty : ArrayType} {z : Int32} (wa : (Cond.arrayClass (newarray.typeOf aty)).before a0 Z = true) (hz : ¬ z < 0) {cap : Nat} (hcap : z.toNatClampNeg ≤ cap) (hbig : cap * 8 ≤ 536870912) (hd : decode bytes pc = .ok (.newarray aty, 2)) (hp : pc + 2 = pc') (hce : cells + 1 ≤ R.cells) (hsl : slots + cap ≤ R.slots) (k : ∀ T' h' a kk, a = h.size → Wk p l e R s m args below meth c Z a0 EL n0 y bytes maxL ret b T' h' locs (cells + 1) (slots + cap) → Ext h h' → (∀ x, x < h.size → Sfe Z EL b.vm h x → Sfe Z EL b.vm h' x) → Sfe Z EL b.vm h' a → Arv Z h' a kk (newarray.typeOf aty) z [] (defaultValue (newarray.typeOf aty)) → Exa Z h' a ("[" ++ (newarray.typeOf aty).toString) → Goes p.tables e below P (T'.setTop (mkF m pc' Ls (.ref a :: st)))) : Goes p.tables e below P (T.setTop (mkF m pc Ls (.int z :: st))) := by
  subst hp
  obtain ⟨T', h', kk, X', e', E', A', Y', q⟩ := newPX K.X K.hx K.hZ wa K.eT (g := mkF m pc Ls (.int z :: st)) rfl (hb K.hby hd) rfl hz hcap hbig hce hsl
  exact go q (k T' h' _ kk rfl (K.move X' e' K.fr (K.old.ext E') (bs_ext K E')) E' (sfe_ext K E') (sfe_ext_new K E') (Arv.new A' hz) Y')
theorem k_cloneH (K : Wk p l e R s m args below meth c Z a0 EL n0 y bytes maxL ret b T h locs cells slots) {i : Nat} {ad : String} {a : Addr} {kk : ClassId} {ty : FieldType} {z : Int32} {vs : List Value} {dv : Value} (w1 : (Cond.methodLink y.cls i ⟨ad, "clone", "()Ljava/lang/Object;"⟩).before a0 Z = true) (w2 : (Cond.sameMethod ad "java/lang/Object" "clone" "()Ljava/lang/Object;").before a0 Z = true) (w3 : (Cond.native ⟨"java/lang/Object", "clone", "()Ljava/lang/Object;"⟩).before a0 Z = true) (w4 : (Cond.instanceMethod ⟨"java/lang/Object", "clone", "()Ljava/lang/Object;"⟩).before a0 Z = true) (w5 : (Cond.selects ad ⟨ad, "clone", "()Ljava/lang/Object;"⟩ ⟨"java/lang/Object", "clone", "()Ljava/lang/Object;"⟩).before a0 Z = true) (w6 : (Cond.castable ad "java/lang/Cloneable").before a0 Z = true) (F : Arv Z h a kk ty z vs dv) (E : Exa Z h a ad) (hd : decode bytes pc = .ok (.invokevirtual i, 3)) (hp : pc + 3 = pc') (hsz : Ls.size = maxL) (hfr : 1 ≤ R.frames) (W : Nat) (hW : (st.map fun v => v.category).sum ≤ W) (hlo : W + 14 ≤ R.locals) {cap : Nat} (hcap : z.toNatClampNeg ≤ cap) (hce : cells + 1 ≤ R.cells) (hsl : slots + cap ≤ R.slots) (k : ∀ T' h' a', a' = h.size → Wk p l e R s m args below meth c Z a0 EL n0 y bytes maxL ret b T' h' locs (cells + 1) (slots + cap) → Ext h h' → (∀ x, x < h.size → Sfe Z EL b.vm h x → Sfe Z EL b.vm h' x) → Sfe Z EL b.vm h' a' → Arv Z h' a' kk ty z vs dv → Exa Z h' a' ad → Goes p.tables e below P (T'.setTop (mkF m pc' Ls (.ref a' :: st)))) : Goes p.tables e below P (T.setTop (mkF m pc Ls (.ref a :: st))) := by
  subst hp
  obtain ⟨cl, Ar, q1, S, N, H, G⟩ := F
  obtain ⟨T', h', X', e', E', A', D', q⟩ := cloneA K.X K.hx K.hZ K.hown w1 w2 w3 w4 w5 w6 K.eT Ar E (fitC_of Ar fun i hi v hv => by rw [H i hi] at hv; cases hv; exact G i hi) (g := mkF m pc Ls (.ref a :: st)) rfl (hsz.trans K.hml.symm) rfl (hb K.hby hd) hfr (W := W) (cap := cap) (by show 2 * 0 + _ ≤ _; rw [Nat.mul_zero, Nat.zero_add]; exact hW) hlo (by rw [S]; exact hcap) hce hsl
  exact go q (k T' h' _ rfl (K.move X' e' K.fr (K.old.ext E') (bs_ext K E')) E' (sfe_ext K E') (sfe_ext_new K E') ⟨_, A', q1, S, N, H, G⟩ D')
def FinW (Z : State) (EL : List (String × Nat)) (U : State) (n0 : Nat) (rm : Room) (Q : Option Value → Heap → (Addr → Prop) → Prop) (o : Outcome) (U' : State) : Prop := ∃ v L, o = .returned v ∧ (Fr n0 L ∧ Old Z n0 U'.heap ∧ Q v U'.heap (Sfe Z EL U'.vm U'.heap)) ∧ CHr Z EL U.vm U.heap U'.vm U'.heap ∧ ReturnedEndW U o U' L rm.cells rm.slots
def Ct (l : Launch) (Z : State) (EL : List (String × Nat)) (n0 : Nat) (y : MethodName) (bytes : ByteArray) (maxL : Nat) (ret : Option FieldType) (rm : Room) (as : Array Value) (h : Heap) (SP : List Addr) (Q : Option Value → Heap → (Addr → Prop) → Prop) : Prop := ∀ ws, MetFree l y (head1 (Cond.code y bytes maxL ret :: ws) rm) (fun a U => a = as ∧ Z.Warmed39 U.vm ∧ U.heap = h ∧ (∀ x ∈ SP, Sfe Z EL U.vm h x) ∧ CHv Z EL U.vm h) (fun _ _ _ _ _ => True) (fun _ U o U' => ∃ v L, o = .returned v ∧ (Fr n0 L ∧ Old Z n0 U'.heap ∧ Q v U'.heap (Sfe Z EL U'.vm U'.heap)) ∧ CHr Z EL U.vm U.heap U'.vm U'.heap ∧ ReturnedEndW U o U' L rm.cells rm.slots)
theorem Ct.of {as : Array Value} {rm : Room} {SP : List Addr} {Q : Option Value → Heap → (Addr → Prop) → Prop} (LE : Array Slot) (hEW : EW Z a0 EL) (hO : Old Z n0 h) (hpl : plainFor y = true) (hef : ∀ m, entryFrame m as maxL = mkF m 0 LE []) (body : ∀ {p : Program} {e : Env} {s : State} {m : MethodId} {below : List Frame} {meth : Method} {c : Code} {b T : State}, Wk p l e rm s m as below meth c Z a0 EL n0 y bytes maxL ret b T h [] 0 0 → (∀ x ∈ SP, Sfe Z EL b.vm h x) → Goes p.tables e below (FinW Z EL s n0 rm Q) (T.setTop (mkF m 0 LE []))) : Ct l Z EL n0 y bytes maxL ret rm as h SP Q := by
  intro ws
  refine MetFree.of_bodySF hpl hisR ?_
  intro p e s m args below meth c s₁ Bd hml0 hP hK
  obtain ⟨ha, hZ, hh, hSP, hC⟩ := hP
  subst ha
  have K : Wk p l e rm s m args below meth c Z a0 EL n0 y bytes maxL ret s s₁ h [] 0 0 := ⟨Stand.of_body Bd, by rw [← hh, Bd.state]; rfl, Fr.nil n0, Bd.exec, hZ, findClass_of_methodNamed Bd.named, Bd.bytes, hml0, Bd.returns, Bd.notSynchronized, (name_of_methodNamed Bd.named Bd.method).1, hO, ⟨⟨s.vm, 0, rfl, State.WarmedH.since (State.WarmedH.refl s) 0, Nat.zero_le _⟩, by rw [hh]; exact CHr.refl hC, hEW⟩⟩
  obtain ⟨t, o, h1, h2, h3, h4⟩ := body K hSP
  exact ⟨t, o, castTop (hef m) h1, h2, h3, h4⟩
theorem k_return (K : Wk p l e R s m args below meth c Z a0 EL n0 y bytes maxL ret b T h locs cells slots) {Q : Option Value → Heap → (Addr → Prop) → Prop} (hd : decode bytes pc = .ok (.return_, 1)) (hr : ret = none) (hq : ∀ sf : Addr → Prop, (∀ x, x < h.size → Sfe Z EL b.vm h x → sf x) → Q none h sf) (hc : cells ≤ R.cells) (hs : slots ≤ R.slots) : Goes p.tables e below (FinW Z EL s n0 R Q) (T.setTop (mkF m pc Ls [])) := by
  have hbs := K.bs
  obtain ⟨⟨vm0, k0, eb, hS, hk⟩, hCH, hEW⟩ := hbs
  subst eb
  have A := CHv.at K.X K.hZ hEW hCH.1
  obtain ⟨fs, hr', hrun, hended, hend⟩ := K.X.leaveW hS (by rw [K.eT]; exact hk) (v := none) (fun _ => rfl) K.hlk
  refine ⟨_, _, ?_, hrun, hended, _, _, rfl, ⟨K.fr, ?_, ?_⟩, ?_, ⟨hend.1, hend.2.1, hend.2.2.1, hend.2.2.2.mono hc hs⟩⟩
  · exact K.X.returnOut K.hx (K.hret.trans hr) (hb K.hby hd) hr'
  · show Old Z n0 T.heap
    rw [K.eT]; exact K.old
  · show Q _ T.heap (Sfe Z EL T.vm T.heap)
    rw [K.eT]; exact hq _ fun x hx q => CHr.safe A hx q
  · show CHr Z EL s.vm s.heap T.vm T.heap
    rw [K.eT]; exact hCH.trans A
theorem k_ret (K : Wk p l e R s m args below meth c Z a0 EL n0 y bytes maxL ret b T h locs cells slots) {Q : Option Value → Heap → (Addr → Prop) → Prop} {t : FieldType} {v : Value} {i : Instr} (hd : decode bytes pc = .ok (i, 1)) (hr : ret = some t) (hn : narrow t v = v) (hi : (i = .ireturn ∧ (t = .int ∨ t = .boolean ∨ t = .byte ∨ t = .char ∨ t = .short) ∧ ∃ z, v = .int z) ∨ (i = .lreturn ∧ t = .long ∧ ∃ z, v = .long z) ∨ (i = .dreturn ∧ t = .double ∧ ∃ z, v = .double z) ∨ (i = .freturn ∧ t = .float ∧ ∃ z, v = .float z) ∨ (i = .areturn ∧ t.isReference = true ∧ v.isRef = true)) (hq : ∀ sf : Addr → Prop, (∀ x, x < h.size → Sfe Z EL b.vm h x → sf x) → Q (some v) h sf) (hc : cells ≤ R.cells) (hs : slots ≤ R.slots) : Goes p.tables e below (FinW Z EL s n0 R Q) (T.setTop (mkF m pc Ls (v :: st))) := by
  have hbs := K.bs
  obtain ⟨⟨vm0, k0, eb, hS, hk⟩, hCH, hEW⟩ := hbs
  subst eb
  have A := CHv.at K.X K.hZ hEW hCH.1
  obtain ⟨fs, hr', hrun, hended, hend⟩ := K.X.leaveW hS (by rw [K.eT]; exact hk) (v := some v) (fun h => by rw [K.hret, hr] at h; cases h) K.hlk
  refine ⟨_, _, ?_, hrun, hended, _, _, rfl, ⟨K.fr, ?_, ?_⟩, ?_, ⟨hend.1, hend.2.1, hend.2.2.1, hend.2.2.2.mono hc hs⟩⟩
  · exact retOut K.X K.hx (K.hret.trans hr) hn hi (hb K.hby hd) hr'
  · show Old Z n0 T.heap
    rw [K.eT]; exact K.old
  · show Q _ T.heap (Sfe Z EL T.vm T.heap)
    rw [K.eT]; exact hq _ fun x hx q => CHr.safe A hx q
  · show CHr Z EL s.vm s.heap T.vm T.heap
    rw [K.eT]; exact hCH.trans A
theorem k_iret (K : Wk p l e R s m args below meth c Z a0 EL n0 y bytes maxL ret b T h locs cells slots) {Q : Option Value → Heap → (Addr → Prop) → Prop} {i : Int32} (hd : decode bytes pc = .ok (.ireturn, 1)) (hr : ret = some .int) (hq : ∀ sf : Addr → Prop, (∀ x, x < h.size → Sfe Z EL b.vm h x → sf x) → Q (some (.int i)) h sf) (hc : cells ≤ R.cells) (hs : slots ≤ R.slots) : Goes p.tables e below (FinW Z EL s n0 R Q) (T.setTop (mkF m pc Ls (.int i :: st))) := k_ret K hd hr rfl (Or.inl ⟨rfl, Or.inl rfl, i, rfl⟩) hq hc hs
theorem k_lret (K : Wk p l e R s m args below meth c Z a0 EL n0 y bytes maxL ret b T h locs cells slots) {Q : Option Value → Heap → (Addr → Prop) → Prop} {i : Int64} (hd : decode bytes pc = .ok (.lreturn, 1)) (hr : ret = some .long) (hq : ∀ sf : Addr → Prop, (∀ x, x < h.size → Sfe Z EL b.vm h x → sf x) → Q (some (.long i)) h sf) (hc : cells ≤ R.cells) (hs : slots ≤ R.slots) : Goes p.tables e below (FinW Z EL s n0 R Q) (T.setTop (mkF m pc Ls (.long i :: st))) := k_ret K hd hr rfl (Or.inr (Or.inl ⟨rfl, rfl, i, rfl⟩)) hq hc hs
theorem k_aret (K : Wk p l e R s m args below meth c Z a0 EL n0 y bytes maxL ret b T h locs cells slots) {Q : Option Value → Heap → (Addr → Prop) → Prop} {v : Value} {t : FieldType} (hd : decode bytes pc = .ok (.areturn, 1)) (hr : ret = some t) (ht : t.isReference = true) (hv : v.isRef = true) (hq : ∀ sf : Addr → Prop, (∀ x, x < h.size → Sfe Z EL b.vm h x → sf x) → Q (some v) h sf) (hc : cells ≤ R.cells) (hs : slots ≤ R.slots) : Goes p.tables e below (FinW Z EL s n0 R Q) (T.setTop (mkF m pc Ls (v :: st))) := k_ret K hd hr (by cases t <;> first | rfl | cases ht) (Or.inr (Or.inr (Or.inr (Or.inr ⟨rfl, ht, hv⟩)))) hq hc hs
theorem k_nret (K : Wk p l e R s m args below meth c Z a0 EL n0 y bytes maxL ret b T h locs cells slots) {Q : Option Value → Heap → (Addr → Prop) → Prop} {i : Int32} {t : FieldType} (hd : decode bytes pc = .ok (.ireturn, 1)) (hr : ret = some t) (ht : t = .boolean ∨ t = .byte ∨ t = .char ∨ t = .short) (hn : narrow t (.int i) = .int i) (hq : ∀ sf : Addr → Prop, (∀ x, x < h.size → Sfe Z EL b.vm h x → sf x) → Q (some (.int i)) h sf) (hc : cells ≤ R.cells) (hs : slots ≤ R.slots) : Goes p.tables e below (FinW Z EL s n0 R Q) (T.setTop (mkF m pc Ls (.int i :: st))) := k_ret K hd hr hn (Or.inl ⟨rfl, Or.inr ht, i, rfl⟩) hq hc hs
def Pu (w : Option Value) (h : Heap) (v : Option Value) (h' : Heap) (_ : Addr → Prop) : Prop := v = w ∧ h' = h
theorem own_back {yy : MethodName} {yb : ByteArray} {yml : Nat} {yret : Option FieldType} {rm : Room} {len W : Nat} {as' : Array Value} {SP : List Addr} {Q : Option Value → Heap → (Addr → Prop) → Prop} {vm0 : Vm} (hM : Ct l Z EL n0 yy yb yml yret rm as' h SP Q) (hZ : Z.Warmed39 vm0) (wc : (Cond.code yy yb yml yret).before a0 Z = true) (wz : (Cond.initialized yy.cls).before a0 Z = true) (hf : rm.frames + 1 ≤ R.frames) (hl : W + (yml + 11) + rm.locals ≤ R.locals) (hEL : EW Z a0 EL) (H : CHv Z EL vm0 h) (hSP : ∀ x ∈ SP, x < h.size ∧ Sfe Z EL vm0 h x) :
    BackS l R p e below (s.setVm vm0) args yy len W (fun A a => a = as' ∧ A.U.heap = h ∧ A.cells + rm.cells ≤ R.cells ∧ A.slots + rm.slots ≤ R.slots)
      (fun A _ v B => ∃ L, (Fr n0 L ∧ Old Z n0 B.U.heap ∧ Q v B.U.heap (Sfe Z EL B.U.vm B.U.heap)) ∧ B.locs = A.locs ++ L ∧ B.cells = A.cells + rm.cells ∧ B.slots = A.slots + rm.slots ∧ CHr Z EL vm0 h B.U.vm B.U.heap) :=
  BackS.of_freeW (bytes := yb) (maxL := yml) (ret := yret) (E := fun _ first o t L k n => k = rm.cells ∧ n = rm.slots ∧ (∃ v, o = .returned v ∧ (Fr n0 L ∧ Old Z n0 t.heap ∧ Q v t.heap (Sfe Z EL t.vm t.heap))) ∧ CHr Z EL first.vm first.heap t.vm t.heap) (hM []) hf hl
    (fun m meth c A a Y hp => have hU : Z.Warmed39 A.U.vm := wtrans (s := s.setVm vm0) hZ Y.warmed
      ⟨by show (Cond.and _ .tt).before a A.U = true; rw [Cond.before_and, mvT hU wc]; rfl, mvT hU wc, mvT hU wz, hp.2.2.1, hp.2.2.2⟩)
    (fun m meth c A a g mk Y hp => have q := CHv.at Y hZ hEL H
      ⟨hp.1, wtrans (s := s.setVm vm0) hZ Y.warmed, hp.2.1, fun x hx => CHr.safe q (hSP x hx).1 (hSP x hx).2, q.1⟩) (fun _ _ _ _ _ _ _ _ _ => trivial)
    (fun _ _ _ _ ⟨v, L, h1, h2, h3, h4⟩ => ⟨L, _, _, h4, rfl, rfl, ⟨v, h1, h2⟩, h3⟩)
    (fun m meth c A a g mk v t L k n Y hp _ _ ⟨e1, e2, ⟨v', e3, e4⟩, e5⟩ => by
      cases e3; subst e1 e2
      refine ⟨L, e4, rfl, rfl, rfl, (CHv.at Y hZ hEL H).trans ?_⟩
      rw [← hp.2.1]; exact e5)
theorem callSS (X : Stand p l e R s m args below meth c T locs cells slots) (hexec : p.tables.exec = Jvm.exec) {own : String} {index : Nat} {yy : MethodName} {yb : ByteArray} {yml : Nat} {yret : Option FieldType}
    (hown : s.vm.findClass own = some m.cls) (hlink : (Cond.methodLink own index yy).before args s = true) (hstat : (Cond.static yy).before args s = true) (hinit : (Cond.initialized yy.cls).before args s = true)
    (hcode : (Cond.code yy yb yml yret).before args s = true) (hy : yy.cls ≠ "java/lang/invoke/MethodHandle" ∧ yy.cls ≠ "java/lang/invoke/VarHandle")
    {W : Nat} {Pre : Pt → Array Value → Prop} {Post : Pt → Array Value → Option Value → Pt → Prop} (hK : BackS l R p e below s args yy 3 W Pre Post)
    {g : JFrame} (hg : g.method = m) (hsize : g.locals.size = c.maxLocals) {argsL rest : List Value} (hlen : ∀ sig, parseMethodDescriptor yy.desc = some sig → argsL.length = sig.parameters.length)
    (hstack : g.stack = argsL.reverse ++ rest) (hW : 2 * g.monitorRoom + (rest.map fun v => v.category).sum ≤ W) (hdg : decode c.code g.pc = .ok (.invokestatic index, 3))
    (hpre : ∀ vm₁, s.WarmedH vm₁ → Pre ⟨T.setVm vm₁, locs, cells, slots⟩ argsL.toArray) :
    ∃ (v : Option Value) (vm₁ : Vm) (B : Pt), s.WarmedH vm₁ ∧ Stand p l e R (s.setVm B.U.vm) m args below meth c B.U B.locs B.cells B.slots ∧ s.Since B.U.vm B.U.heap.size ∧ T.heap.size ≤ B.U.heap.size ∧ Post ⟨T.setVm vm₁, locs, cells, slots⟩ argsL.toArray v B ∧
      Steps p.tables e below (T.setTop g) (B.U.setTop { g with pc := g.pc + 3, stack := v.toList ++ rest }) := by
  obtain ⟨mk, hnamed⟩ := Cond.code_named hcode
  obtain ⟨methM, cM, hmethM, -, -, -, -, -, -, hsigM⟩ := Cond.code_spec hnamed hcode
  exact X.staticBackS hexec hown hlink hstat hinit hnamed hmethM hsigM hy hK hg hsize (Steps.refl _) hlen hstack hW hdg hpre
theorem wk_called (K : Wk p l e R s m args below meth c Z a0 EL n0 y bytes maxL ret b T h locs cells slots) {b0 T' : State} {Lc : List Loc} {c' n' : Nat} (eb : b = s.setVm b0.vm) (X' : Stand p l e R (b.setVm T'.vm) m args below meth c T' (locs ++ Lc) c' n') (hS : b.Since T'.vm T'.heap.size) (hsz : T.heap.size ≤ T'.heap.size) (hCH : CHr Z EL b.vm h T'.vm T'.heap) (hF : Fr n0 Lc) (hO : Old Z n0 T'.heap) : Wk p l e R s m args below meth c Z a0 EL n0 y bytes maxL ret (b.setVm T'.vm) T' T'.heap (locs ++ Lc) c' n' := by
  obtain ⟨⟨vm0, k0, eb', g1, g2⟩, g3, g4⟩ := K.bs
  subst eb'
  have hW : Z.Warmed39 T'.vm := State.Warmed39.trans (t := s.setVm vm0) K.hZ hS.1
  have hf : T'.vm.findClass y.cls = some m.cls := by rw [hS.1.alike.findClass]; exact K.hown
  exact ⟨X', rfl, K.fr.app hF, K.hx, hW, hf, K.hby, K.hml, K.hret, K.hlk, K.hnm, hO, ⟨⟨T'.vm, T'.heap.size, rfl, g1.trans hS (by rw [K.eT] at hsz; exact Nat.le_trans g2 hsz), Nat.le_refl _⟩, g3.trans hCH, g4⟩⟩
theorem k_static (K : Wk p l e R s m args below meth c Z a0 EL n0 y bytes maxL ret b T h locs cells slots) {i : Nat} {yy : MethodName} {yb : ByteArray} {yml : Nat} {yret : Option FieldType} {rm : Room} {SP : List Addr} {Q : Option Value → Heap → (Addr → Prop) → Prop} {ps : List FieldType} {r : Option FieldType} (argsL rest : List Value) (W : Nat) (wl : (Cond.methodLink y.cls i yy).before a0 Z = true) (ws : (Cond.static yy).before a0 Z = true) (wz : (Cond.initialized yy.cls).before a0 Z = true) (wc : (Cond.code yy yb yml yret).before a0 Z = true) (hy : yy.cls ≠ "java/lang/invoke/MethodHandle" ∧ yy.cls ≠ "java/lang/invoke/VarHandle") (hpd : parseMethodDescriptor yy.desc = some ⟨ps, r⟩) (C : Ct l Z EL n0 yy yb yml yret rm argsL.toArray h SP Q) (hd : decode bytes pc = .ok (.invokestatic i, 3)) (hSP : ∀ x ∈ SP, x < h.size ∧ Sfe Z EL b.vm h x) (hp : pc + 3 = pc') (hsz : Ls.size = maxL) (hlen : argsL.length = ps.length) (hst : st = argsL.reverse ++ rest) (hW : (rest.map fun v => v.category).sum ≤ W) (hfr : rm.frames + 1 ≤ R.frames) (hlo : W + (yml + 11) + rm.locals ≤ R.locals) (hce : cells + rm.cells ≤ R.cells) (hsl : slots + rm.slots ≤ R.slots) (k : ∀ b' T' h' locs' v, Wk p l e R s m args below meth c Z a0 EL n0 y bytes maxL ret b' T' h' locs' (cells + rm.cells) (slots + rm.slots) → (∀ x, x < h.size → Sfe Z EL b.vm h x → Sfe Z EL b'.vm h' x) → Q v h' (Sfe Z EL b'.vm h') → Goes p.tables e below P (T'.setTop (mkF m pc' Ls (v.toList ++ rest)))) : Goes p.tables e below P (T.setTop (mkF m pc Ls st)) := by
  subst hp
  obtain ⟨⟨vm0, k0, eb, g1, g2⟩, g3, g4⟩ := K.bs
  subst eb
  obtain ⟨v, vm1, ⟨T', L', c', n'⟩, -, X', hS', hsz', ⟨Lc, ⟨hF, hO', hQ⟩, l', y', z', hCH⟩, q⟩ := callSS K.X K.hx (yy := yy) K.hown (mvT K.hZ wl) (mvT K.hZ ws) (mvT K.hZ wz) (mvT K.hZ wc) hy (own_back (s := s) (vm0 := vm0) (W := W) C K.hZ wc wz hfr hlo g4 g3.1 hSP) (g := mkF m pc Ls st) rfl (hsz.trans K.hml.symm) (argsL := argsL) (rest := rest) (lenOf hpd hlen) hst (by show 2 * 0 + _ ≤ _; rw [Nat.mul_zero, Nat.zero_add]; exact hW) (hb K.hby hd) (fun _ _ => ⟨rfl, K.eT, hce, hsl⟩)
  dsimp only [Pt.U, Pt.locs, Pt.cells, Pt.slots] at X' l' y' z' q hQ hCH hS' hsz' hO'
  subst l' y' z'
  exact go (fun _ z => q.trans z) (k _ _ _ _ _ (wk_called K (b0 := (s.setVm vm0)) rfl X' hS' hsz' hCH hF hO') (fun x hx z => CHr.safe hCH hx z) hQ)
theorem k_staticP (K : Wk p l e R s m args below meth c Z a0 EL n0 y bytes maxL ret b T h locs cells slots) {i : Nat} {yy : MethodName} {yb : ByteArray} {yml : Nat} {yret : Option FieldType} {rm : Room} {SP : List Addr} {ps : List FieldType} {r : Option FieldType} (argsL rest : List Value) (W : Nat) (wl : (Cond.methodLink y.cls i yy).before a0 Z = true) (ws : (Cond.static yy).before a0 Z = true) (wz : (Cond.initialized yy.cls).before a0 Z = true) (wc : (Cond.code yy yb yml yret).before a0 Z = true) (hy : yy.cls ≠ "java/lang/invoke/MethodHandle" ∧ yy.cls ≠ "java/lang/invoke/VarHandle") (hpd : parseMethodDescriptor yy.desc = some ⟨ps, r⟩) {vv : Option Value} (C : Ct l Z EL n0 yy yb yml yret rm argsL.toArray h SP (Pu vv h)) (hd : decode bytes pc = .ok (.invokestatic i, 3)) (hSP : ∀ x ∈ SP, x < h.size ∧ Sfe Z EL b.vm h x) (hp : pc + 3 = pc') (hsz : Ls.size = maxL) (hlen : argsL.length = ps.length) (hst : st = argsL.reverse ++ rest) (hW : (rest.map fun v => v.category).sum ≤ W) (hfr : rm.frames + 1 ≤ R.frames) (hlo : W + (yml + 11) + rm.locals ≤ R.locals) (hce : cells + rm.cells ≤ R.cells) (hsl : slots + rm.slots ≤ R.slots) (k : ∀ b' T' locs', Wk p l e R s m args below meth c Z a0 EL n0 y bytes maxL ret b' T' h locs' (cells + rm.cells) (slots + rm.slots) → (∀ x, x < h.size → Sfe Z EL b.vm h x → Sfe Z EL b'.vm h x) → Goes p.tables e below P (T'.setTop (mkF m pc' Ls (vv.toList ++ rest)))) : Goes p.tables e below P (T.setTop (mkF m pc Ls st)) := k_static K argsL rest W wl ws wz wc hy hpd C hd hSP hp hsz hlen hst hW hfr hlo hce hsl (fun b' T' h' locs' v K' tr q => by obtain ⟨rfl, rfl⟩ := q; exact k _ _ _ K' tr)
theorem k_special (K : Wk p l e R s m args below meth c Z a0 EL n0 y bytes maxL ret b T h locs cells slots) {i : Nat} {yy : MethodName} {yb : ByteArray} {yml : Nat} {yret : Option FieldType} {rm : Room} {SP : List Addr} {Q : Option Value → Heap → (Addr → Prop) → Prop} {ps : List FieldType} {r : Option FieldType} (argsL rest : List Value) (W : Nat) {a : Addr} (wl : (Cond.methodLink y.cls i yy).before a0 Z = true) (wi : (Cond.instanceMethod yy).before a0 Z = true) (wz : (Cond.initialized yy.cls).before a0 Z = true) (wc : (Cond.code yy yb yml yret).before a0 Z = true) (hin : yy.name = "<init>") (hnr : yret = none) (hy : yy.cls ≠ "java/lang/invoke/MethodHandle" ∧ yy.cls ≠ "java/lang/invoke/VarHandle") (hpd : parseMethodDescriptor yy.desc = some ⟨ps, r⟩) (C : Ct l Z EL n0 yy yb yml yret rm (.ref a :: argsL).toArray h SP Q) (hd : decode bytes pc = .ok (.invokespecial i, 3)) (hSP : ∀ x ∈ SP, x < h.size ∧ Sfe Z EL b.vm h x) (hp : pc + 3 = pc') (hsz : Ls.size = maxL) (hlen : argsL.length = ps.length) (hst : st = argsL.reverse ++ .ref a :: rest) (hW : (rest.map fun v => v.category).sum ≤ W) (hfr : rm.frames + 1 ≤ R.frames) (hlo : W + (yml + 11) + rm.locals ≤ R.locals) (hce : cells + rm.cells ≤ R.cells) (hsl : slots + rm.slots ≤ R.slots) (k : ∀ b' T' h' locs' v, Wk p l e R s m args below meth c Z a0 EL n0 y bytes maxL ret b' T' h' locs' (cells + rm.cells) (slots + rm.slots) → (∀ x, x < h.size → Sfe Z EL b.vm h x → Sfe Z EL b'.vm h' x) → Q v h' (Sfe Z EL b'.vm h') → Goes p.tables e below P (T'.setTop (mkF m pc' Ls (v.toList ++ rest)))) : Goes p.tables e below P (T.setTop (mkF m pc Ls st)) := by
  subst hp
  subst hnr
  obtain ⟨⟨vm0, k0, eb, g1, g2⟩, g3, g4⟩ := K.bs
  subst eb
  obtain ⟨v, vm1, ⟨T', L', c', n'⟩, -, X', hS', hsz', ⟨Lc, ⟨hF, hO', hQ⟩, l', y', z', hCH⟩, q⟩ := K.X.specialBackS K.hx (y := yy) hin K.hown (mvT K.hZ wl) (mvT K.hZ wi) (mvT K.hZ wc) hy (own_back (s := s) (vm0 := vm0) (W := W) C K.hZ wc wz hfr hlo g4 g3.1 hSP) (g := mkF m pc Ls st) rfl (hsz.trans K.hml.symm) (Steps.refl _) (a := a) (argsL := argsL) (rest := rest) (lenOf hpd hlen) hst (by show 2 * 0 + _ ≤ _; rw [Nat.mul_zero, Nat.zero_add]; exact hW) (hb K.hby hd) (fun _ _ => ⟨rfl, K.eT, hce, hsl⟩)
  dsimp only [Pt.U, Pt.locs, Pt.cells, Pt.slots] at X' l' y' z' q hQ hCH hS' hsz' hO'
  subst l' y' z'
  exact go (fun _ z => q.trans z) (k _ _ _ _ _ (wk_called K (b0 := (s.setVm vm0)) rfl X' hS' hsz' hCH hF hO') (fun x hx z => CHr.safe hCH hx z) hQ)
theorem k_specialP (K : Wk p l e R s m args below meth c Z a0 EL n0 y bytes maxL ret b T h locs cells slots) {i : Nat} {yy : MethodName} {yb : ByteArray} {yml : Nat} {yret : Option FieldType} {rm : Room} {SP : List Addr} {ps : List FieldType} {r : Option FieldType} (argsL rest : List Value) (W : Nat) {a : Addr} (wl : (Cond.methodLink y.cls i yy).before a0 Z = true) (wi : (Cond.instanceMethod yy).before a0 Z = true) (wz : (Cond.initialized yy.cls).before a0 Z = true) (wc : (Cond.code yy yb yml yret).before a0 Z = true) (hin : yy.name = "<init>") (hnr : yret = none) (hy : yy.cls ≠ "java/lang/invoke/MethodHandle" ∧ yy.cls ≠ "java/lang/invoke/VarHandle") (hpd : parseMethodDescriptor yy.desc = some ⟨ps, r⟩) {vv : Option Value} (C : Ct l Z EL n0 yy yb yml yret rm (.ref a :: argsL).toArray h SP (Pu vv h)) (hd : decode bytes pc = .ok (.invokespecial i, 3)) (hSP : ∀ x ∈ SP, x < h.size ∧ Sfe Z EL b.vm h x) (hp : pc + 3 = pc') (hsz : Ls.size = maxL) (hlen : argsL.length = ps.length) (hst : st = argsL.reverse ++ .ref a :: rest) (hW : (rest.map fun v => v.category).sum ≤ W) (hfr : rm.frames + 1 ≤ R.frames) (hlo : W + (yml + 11) + rm.locals ≤ R.locals) (hce : cells + rm.cells ≤ R.cells) (hsl : slots + rm.slots ≤ R.slots) (k : ∀ b' T' locs', Wk p l e R s m args below meth c Z a0 EL n0 y bytes maxL ret b' T' h locs' (cells + rm.cells) (slots + rm.slots) → (∀ x, x < h.size → Sfe Z EL b.vm h x → Sfe Z EL b'.vm h x) → Goes p.tables e below P (T'.setTop (mkF m pc' Ls (vv.toList ++ rest)))) : Goes p.tables e below P (T.setTop (mkF m pc Ls st)) := k_special K argsL rest W wl wi wz wc hin hnr hy hpd C hd hSP hp hsz hlen hst hW hfr hlo hce hsl (fun b' T' h' locs' v K' tr q => by obtain ⟨rfl, rfl⟩ := q; exact k _ _ _ K' tr)
theorem k_virtual (K : Wk p l e R s m args below meth c Z a0 EL n0 y bytes maxL ret b T h locs cells slots) {i : Nat} {yy : MethodName} {yb : ByteArray} {yml : Nat} {yret : Option FieldType} {rm : Room} {SP : List Addr} {Q : Option Value → Heap → (Addr → Prop) → Prop} {ps : List FieldType} {r : Option FieldType} (argsL rest : List Value) (W : Nat) {a : Addr} {C0 : String} {yv : MethodName} (wl : (Cond.methodLink y.cls i yv).before a0 Z = true) (wd : (Cond.declares yv).before a0 Z = true) (wi : (Cond.instanceMethod yy).before a0 Z = true) (wse : (Cond.selects C0 yv yy).before a0 Z = true) (wz : (Cond.initialized yy.cls).before a0 Z = true) (wc : (Cond.code yy yb yml yret).before a0 Z = true) (hnf : NotFace b yv) (hvd : yv.desc = yy.desc) (hyv : yv.cls ≠ "java/lang/invoke/MethodHandle" ∧ yv.cls ≠ "java/lang/invoke/VarHandle") (E : Exa Z h a C0) (hy : yy.cls ≠ "java/lang/invoke/MethodHandle" ∧ yy.cls ≠ "java/lang/invoke/VarHandle") (hpd : parseMethodDescriptor yy.desc = some ⟨ps, r⟩) (C : Ct l Z EL n0 yy yb yml yret rm (.ref a :: argsL).toArray h SP Q) (hd : decode bytes pc = .ok (.invokevirtual i, 3)) (hSP : ∀ x ∈ SP, x < h.size ∧ Sfe Z EL b.vm h x) (hp : pc + 3 = pc') (hsz : Ls.size = maxL) (hlen : argsL.length = ps.length) (hst : st = argsL.reverse ++ .ref a :: rest) (hW : (rest.map fun v => v.category).sum ≤ W) (hfr : rm.frames + 1 ≤ R.frames) (hlo : W + (yml + 11) + rm.locals ≤ R.locals) (hce : cells + rm.cells ≤ R.cells) (hsl : slots + rm.slots ≤ R.slots) (k : ∀ b' T' h' locs' v, Wk p l e R s m args below meth c Z a0 EL n0 y bytes maxL ret b' T' h' locs' (cells + rm.cells) (slots + rm.slots) → (∀ x, x < h.size → Sfe Z EL b.vm h x → Sfe Z EL b'.vm h' x) → Q v h' (Sfe Z EL b'.vm h') → Goes p.tables e below P (T'.setTop (mkF m pc' Ls (v.toList ++ rest)))) : Goes p.tables e below P (T.setTop (mkF m pc Ls st)) := by
  subst hp
  obtain ⟨cq, kq, qa, qb, qc⟩ := isOf K.hZ K.eT E
  obtain ⟨⟨vm0, k0, eb, g1, g2⟩, g3, g4⟩ := K.bs
  subst eb
  obtain ⟨v, vm1, ⟨T', L', c', n'⟩, -, X', hS', hsz', ⟨Lc, ⟨hF, hO', hQ⟩, l', y', z', hCH⟩, q⟩ := K.X.virtualBackS K.hx (y := yv) (z := yy) K.hown (mvT K.hZ wl) (mvT K.hZ wd) hnf (mvT K.hZ wse) (mvT K.hZ wi) hyv (own_back (s := s) (vm0 := vm0) (W := W) C K.hZ wc wz hfr hlo g4 g3.1 hSP) qa qc (g := mkF m pc Ls st) rfl (hsz.trans K.hml.symm) (Steps.refl _) (argsL := argsL) (rest := rest) (lenOf (hvd ▸ hpd) hlen) hst (by show 2 * 0 + _ ≤ _; rw [Nat.mul_zero, Nat.zero_add]; exact hW) (hb K.hby hd) (fun _ _ => ⟨rfl, K.eT, hce, hsl⟩)
  dsimp only [Pt.U, Pt.locs, Pt.cells, Pt.slots] at X' l' y' z' q hQ hCH hS' hsz' hO'
  subst l' y' z'
  exact go (fun _ z => q.trans z) (k _ _ _ _ _ (wk_called K (b0 := (s.setVm vm0)) rfl X' hS' hsz' hCH hF hO') (fun x hx z => CHr.safe hCH hx z) hQ)
theorem k_virtualP (K : Wk p l e R s m args below meth c Z a0 EL n0 y bytes maxL ret b T h locs cells slots) {i : Nat} {yy : MethodName} {yb : ByteArray} {yml : Nat} {yret : Option FieldType} {rm : Room} {SP : List Addr} {ps : List FieldType} {r : Option FieldType} (argsL rest : List Value) (W : Nat) {a : Addr} {C0 : String} {yv : MethodName} (wl : (Cond.methodLink y.cls i yv).before a0 Z = true) (wd : (Cond.declares yv).before a0 Z = true) (wi : (Cond.instanceMethod yy).before a0 Z = true) (wse : (Cond.selects C0 yv yy).before a0 Z = true) (wz : (Cond.initialized yy.cls).before a0 Z = true) (wc : (Cond.code yy yb yml yret).before a0 Z = true) (hnf : NotFace b yv) (hvd : yv.desc = yy.desc) (hyv : yv.cls ≠ "java/lang/invoke/MethodHandle" ∧ yv.cls ≠ "java/lang/invoke/VarHandle") (E : Exa Z h a C0) (hy : yy.cls ≠ "java/lang/invoke/MethodHandle" ∧ yy.cls ≠ "java/lang/invoke/VarHandle") (hpd : parseMethodDescriptor yy.desc = some ⟨ps, r⟩) {vv : Option Value} (C : Ct l Z EL n0 yy yb yml yret rm (.ref a :: argsL).toArray h SP (Pu vv h)) (hd : decode bytes pc = .ok (.invokevirtual i, 3)) (hSP : ∀ x ∈ SP, x < h.size ∧ Sfe Z EL b.vm h x) (hp : pc + 3 = pc') (hsz : Ls.size = maxL) (hlen : argsL.length = ps.length) (hst : st = argsL.reverse ++ .ref a :: rest) (hW : (rest.map fun v => v.category).sum ≤ W) (hfr : rm.frames + 1 ≤ R.frames) (hlo : W + (yml + 11) + rm.locals ≤ R.locals) (hce : cells + rm.cells ≤ R.cells) (hsl : slots + rm.slots ≤ R.slots) (k : ∀ b' T' locs', Wk p l e R s m args below meth c Z a0 EL n0 y bytes maxL ret b' T' h locs' (cells + rm.cells) (slots + rm.slots) → (∀ x, x < h.size → Sfe Z EL b.vm h x → Sfe Z EL b'.vm h x) → Goes p.tables e below P (T'.setTop (mkF m pc' Ls (vv.toList ++ rest)))) : Goes p.tables e below P (T.setTop (mkF m pc Ls st)) := k_virtual K argsL rest W wl wd wi wse wz wc hnf hvd hyv E hy hpd C hd hSP hp hsz hlen hst hW hfr hlo hce hsl (fun b' T' h' locs' v K' tr q => by obtain ⟨rfl, rfl⟩ := q; exact k _ _ _ K' tr)
theorem own_sel {args args' : Array Value} {C0 : String} {yv yy : MethodName} (w : (Cond.selects C0 yv yy).before args b = true) : (Cond.selects C0 yv yy).before args' b = true := mvT (State.Warmed39.refl b) w
theorem own_priv (K : Wk p l e R s m args below meth c Z a0 EL n0 y bytes maxL ret b T h locs cells slots) {C0 : String} {n : Nat} {yy : MethodName} (hc0 : C0 = yy.cls) (wi : (Cond.instantiable C0 n).before a0 Z = true) (wim : (Cond.instanceMethod yy).before a0 Z = true) (wpr : (Cond.privateMethod yy).before a0 Z = true) (hy : yy.cls ≠ "java/lang/invoke/MethodHandle" ∧ yy.cls ≠ "java/lang/invoke/VarHandle") : (Cond.selects yy.cls yy yy).before a0 b = true := by
  subst hc0
  have q : (Cond.instantiable yy.cls n).before a0 b = true := mvT K.hZ wi
  obtain ⟨c, k, h1, h2, h3, h4, -⟩ := Cond.instantiable_spec q
  simp only [Bool.or_eq_false_iff] at h4
  exact selects_self_of_private h1 h2 h4.1 (Cond.privateMethod_at (mvP K.hZ wpr (args := #[]))) (mvT K.hZ wim) hy
theorem k_private (K : Wk p l e R s m args below meth c Z a0 EL n0 y bytes maxL ret b T h locs cells slots) {i : Nat} {yy : MethodName} {yb : ByteArray} {yml : Nat} {yret : Option FieldType} {rm : Room} {SP : List Addr} {Q : Option Value → Heap → (Addr → Prop) → Prop} {ps : List FieldType} {r : Option FieldType} (argsL rest : List Value) (W : Nat) {a : Addr} {C0 : String} (wl : (Cond.methodLink y.cls i yy).before a0 Z = true) (wi : (Cond.instanceMethod yy).before a0 Z = true) (wse : (Cond.selects yy.cls yy yy).before a0 b = true) (wpr : (Cond.privateMethod yy).before a0 Z = true) (wz : (Cond.initialized yy.cls).before a0 Z = true) (wc : (Cond.code yy yb yml yret).before a0 Z = true) (E : Exa Z h a C0) (hy : yy.cls ≠ "java/lang/invoke/MethodHandle" ∧ yy.cls ≠ "java/lang/invoke/VarHandle") (hpd : parseMethodDescriptor yy.desc = some ⟨ps, r⟩) (C : Ct l Z EL n0 yy yb yml yret rm (.ref a :: argsL).toArray h SP Q) (hd : decode bytes pc = .ok (.invokevirtual i, 3)) (hSP : ∀ x ∈ SP, x < h.size ∧ Sfe Z EL b.vm h x) (hp : pc + 3 = pc') (hsz : Ls.size = maxL) (hlen : argsL.length = ps.length) (hst : st = argsL.reverse ++ .ref a :: rest) (hW : (rest.map fun v => v.category).sum ≤ W) (hfr : rm.frames + 1 ≤ R.frames) (hlo : W + (yml + 11) + rm.locals ≤ R.locals) (hce : cells + rm.cells ≤ R.cells) (hsl : slots + rm.slots ≤ R.slots) (k : ∀ b' T' h' locs' v, Wk p l e R s m args below meth c Z a0 EL n0 y bytes maxL ret b' T' h' locs' (cells + rm.cells) (slots + rm.slots) → (∀ x, x < h.size → Sfe Z EL b.vm h x → Sfe Z EL b'.vm h' x) → Q v h' (Sfe Z EL b'.vm h') → Goes p.tables e below P (T'.setTop (mkF m pc' Ls (v.toList ++ rest)))) : Goes p.tables e below P (T.setTop (mkF m pc Ls st)) := by
  subst hp
  obtain ⟨cq, qa, qb⟩ := E.cell
  obtain ⟨⟨vm0, k0, eb, g1, g2⟩, g3, g4⟩ := K.bs
  subst eb
  obtain ⟨v, vm1, ⟨T', L', c', n'⟩, -, X', hS', hsz', ⟨Lc, ⟨hF, hO', hQ⟩, l', y', z', hCH⟩, q⟩ := K.X.privateBackS K.hx (y := yy) K.hown (mvT K.hZ wl) (mvT K.hZ wi) (own_sel wse) (Cond.privateMethod_at (mvP K.hZ wpr (args := #[]))) (mvT K.hZ wc) hy (own_back (s := s) (vm0 := vm0) (W := W) C K.hZ wc wz hfr hlo g4 g3.1 hSP) (g := mkF m pc Ls st) rfl (hsz.trans K.hml.symm) (Steps.refl _) (a := a) (by rw [K.eT]; exact qa) qb (argsL := argsL) (rest := rest) (lenOf hpd hlen) hst (by show 2 * 0 + _ ≤ _; rw [Nat.mul_zero, Nat.zero_add]; exact hW) (hb K.hby hd) (fun _ _ => ⟨rfl, K.eT, hce, hsl⟩)
  dsimp only [Pt.U, Pt.locs, Pt.cells, Pt.slots] at X' l' y' z' q hQ hCH hS' hsz' hO'
  subst l' y' z'
  exact go (fun _ z => q.trans z) (k _ _ _ _ _ (wk_called K (b0 := (s.setVm vm0)) rfl X' hS' hsz' hCH hF hO') (fun x hx z => CHr.safe hCH hx z) hQ)
theorem k_privateP (K : Wk p l e R s m args below meth c Z a0 EL n0 y bytes maxL ret b T h locs cells slots) {i : Nat} {yy : MethodName} {yb : ByteArray} {yml : Nat} {yret : Option FieldType} {rm : Room} {SP : List Addr} {ps : List FieldType} {r : Option FieldType} (argsL rest : List Value) (W : Nat) {a : Addr} {C0 : String} (wl : (Cond.methodLink y.cls i yy).before a0 Z = true) (wi : (Cond.instanceMethod yy).before a0 Z = true) (wse : (Cond.selects yy.cls yy yy).before a0 b = true) (wpr : (Cond.privateMethod yy).before a0 Z = true) (wz : (Cond.initialized yy.cls).before a0 Z = true) (wc : (Cond.code yy yb yml yret).before a0 Z = true) (E : Exa Z h a C0) (hy : yy.cls ≠ "java/lang/invoke/MethodHandle" ∧ yy.cls ≠ "java/lang/invoke/VarHandle") (hpd : parseMethodDescriptor yy.desc = some ⟨ps, r⟩) {vv : Option Value} (C : Ct l Z EL n0 yy yb yml yret rm (.ref a :: argsL).toArray h SP (Pu vv h)) (hd : decode bytes pc = .ok (.invokevirtual i, 3)) (hSP : ∀ x ∈ SP, x < h.size ∧ Sfe Z EL b.vm h x) (hp : pc + 3 = pc') (hsz : Ls.size = maxL) (hlen : argsL.length = ps.length) (hst : st = argsL.reverse ++ .ref a :: rest) (hW : (rest.map fun v => v.category).sum ≤ W) (hfr : rm.frames + 1 ≤ R.frames) (hlo : W + (yml + 11) + rm.locals ≤ R.locals) (hce : cells + rm.cells ≤ R.cells) (hsl : slots + rm.slots ≤ R.slots) (k : ∀ b' T' locs', Wk p l e R s m args below meth c Z a0 EL n0 y bytes maxL ret b' T' h locs' (cells + rm.cells) (slots + rm.slots) → (∀ x, x < h.size → Sfe Z EL b.vm h x → Sfe Z EL b'.vm h x) → Goes p.tables e below P (T'.setTop (mkF m pc' Ls (vv.toList ++ rest)))) : Goes p.tables e below P (T.setTop (mkF m pc Ls st)) := k_private K argsL rest W wl wi wse wpr wz wc E hy hpd C hd hSP hp hsz hlen hst hW hfr hlo hce hsl (fun b' T' h' locs' v K' tr q => by obtain ⟨rfl, rfl⟩ := q; exact k _ _ _ K' tr)
theorem k_interface (K : Wk p l e R s m args below meth c Z a0 EL n0 y bytes maxL ret b T h locs cells slots) {i : Nat} {yy : MethodName} {yb : ByteArray} {yml : Nat} {yret : Option FieldType} {rm : Room} {SP : List Addr} {Q : Option Value → Heap → (Addr → Prop) → Prop} {ps : List FieldType} {r : Option FieldType} (argsL rest : List Value) (W : Nat) {a : Addr} {C0 : String} {yv : MethodName} {cnt : Nat} (wl : (Cond.methodLink y.cls i yv).before a0 Z = true) (wd : (Cond.declares yv).before a0 Z = true) (wf : (Cond.interfaceMethod yv.cls yv.cls yv.name yv.desc).before args b = true) (wse : (Cond.selects C0 yv yy).before a0 Z = true) (wi : (Cond.instanceMethod yy).before a0 Z = true) (wpu : (Cond.publicMethod yy).before a0 Z = true) (wun : (Cond.unhidden C0 yv.name yv.desc).before a0 Z = true) (wca : (Cond.castable C0 yv.cls).before a0 Z = true) (wz : (Cond.initialized yy.cls).before a0 Z = true) (wc : (Cond.code yy yb yml yret).before a0 Z = true) (hvd : yv.desc = yy.desc) (hyv : yv.cls ≠ "java/lang/invoke/MethodHandle" ∧ yv.cls ≠ "java/lang/invoke/VarHandle") (E : Exa Z h a C0) (hy : yy.cls ≠ "java/lang/invoke/MethodHandle" ∧ yy.cls ≠ "java/lang/invoke/VarHandle") (hpd : parseMethodDescriptor yy.desc = some ⟨ps, r⟩) (C : Ct l Z EL n0 yy yb yml yret rm (.ref a :: argsL).toArray h SP Q) (hd : decode bytes pc = .ok (.invokeinterface i cnt, 5)) (hSP : ∀ x ∈ SP, x < h.size ∧ Sfe Z EL b.vm h x) (hp : pc + 5 = pc') (hsz : Ls.size = maxL) (hlen : argsL.length = ps.length) (hst : st = argsL.reverse ++ .ref a :: rest) (hW : (rest.map fun v => v.category).sum ≤ W) (hfr : rm.frames + 1 ≤ R.frames) (hlo : W + (yml + 11) + rm.locals ≤ R.locals) (hce : cells + rm.cells ≤ R.cells) (hsl : slots + rm.slots ≤ R.slots) (k : ∀ b' T' h' locs' v, Wk p l e R s m args below meth c Z a0 EL n0 y bytes maxL ret b' T' h' locs' (cells + rm.cells) (slots + rm.slots) → (∀ x, x < h.size → Sfe Z EL b.vm h x → Sfe Z EL b'.vm h' x) → Q v h' (Sfe Z EL b'.vm h') → Goes p.tables e below P (T'.setTop (mkF m pc' Ls (v.toList ++ rest)))) : Goes p.tables e below P (T.setTop (mkF m pc Ls st)) := by
  subst hp
  obtain ⟨cq, kq, qa, qb, qc⟩ := isOf K.hZ K.eT E
  obtain ⟨⟨vm0, k0, eb, g1, g2⟩, g3, g4⟩ := K.bs
  subst eb
  obtain ⟨v, vm1, ⟨T', L', c', n'⟩, -, X', hS', hsz', ⟨Lc, ⟨hF, hO', hQ⟩, l', y', z', hCH⟩, q⟩ := K.X.interfaceBackS K.hx (xi := yv) (y := yy) K.hown (mvT K.hZ wl) (mvT K.hZ wd) wf (mvT K.hZ wse) (mvT K.hZ wi) (mvT K.hZ wpu) (mvT K.hZ wun) (mvT K.hZ wca) hyv (own_back (s := s) (vm0 := vm0) (W := W) C K.hZ wc wz hfr hlo g4 g3.1 hSP) qa qb qc (g := mkF m pc Ls st) rfl (hsz.trans K.hml.symm) (Steps.refl _) (argsL := argsL) (rest := rest) (lenOf (hvd ▸ hpd) hlen) hst (by show 2 * 0 + _ ≤ _; rw [Nat.mul_zero, Nat.zero_add]; exact hW) (hb K.hby hd) (fun _ _ => ⟨rfl, K.eT, hce, hsl⟩)
  dsimp only [Pt.U, Pt.locs, Pt.cells, Pt.slots] at X' l' y' z' q hQ hCH hS' hsz' hO'
  subst l' y' z'
  exact go (fun _ z => q.trans z) (k _ _ _ _ _ (wk_called K (b0 := (s.setVm vm0)) rfl X' hS' hsz' hCH hF hO') (fun x hx z => CHr.safe hCH hx z) hQ)
theorem k_interfaceP (K : Wk p l e R s m args below meth c Z a0 EL n0 y bytes maxL ret b T h locs cells slots) {i : Nat} {yy : MethodName} {yb : ByteArray} {yml : Nat} {yret : Option FieldType} {rm : Room} {SP : List Addr} {ps : List FieldType} {r : Option FieldType} (argsL rest : List Value) (W : Nat) {a : Addr} {C0 : String} {yv : MethodName} {cnt : Nat} (wl : (Cond.methodLink y.cls i yv).before a0 Z = true) (wd : (Cond.declares yv).before a0 Z = true) (wf : (Cond.interfaceMethod yv.cls yv.cls yv.name yv.desc).before args b = true) (wse : (Cond.selects C0 yv yy).before a0 Z = true) (wi : (Cond.instanceMethod yy).before a0 Z = true) (wpu : (Cond.publicMethod yy).before a0 Z = true) (wun : (Cond.unhidden C0 yv.name yv.desc).before a0 Z = true) (wca : (Cond.castable C0 yv.cls).before a0 Z = true) (wz : (Cond.initialized yy.cls).before a0 Z = true) (wc : (Cond.code yy yb yml yret).before a0 Z = true) (hvd : yv.desc = yy.desc) (hyv : yv.cls ≠ "java/lang/invoke/MethodHandle" ∧ yv.cls ≠ "java/lang/invoke/VarHandle") (E : Exa Z h a C0) (hy : yy.cls ≠ "java/lang/invoke/MethodHandle" ∧ yy.cls ≠ "java/lang/invoke/VarHandle") (hpd : parseMethodDescriptor yy.desc = some ⟨ps, r⟩) {vv : Option Value} (C : Ct l Z EL n0 yy yb yml yret rm (.ref a :: argsL).toArray h SP (Pu vv h)) (hd : decode bytes pc = .ok (.invokeinterface i cnt, 5)) (hSP : ∀ x ∈ SP, x < h.size ∧ Sfe Z EL b.vm h x) (hp : pc + 5 = pc') (hsz : Ls.size = maxL) (hlen : argsL.length = ps.length) (hst : st = argsL.reverse ++ .ref a :: rest) (hW : (rest.map fun v => v.category).sum ≤ W) (hfr : rm.frames + 1 ≤ R.frames) (hlo : W + (yml + 11) + rm.locals ≤ R.locals) (hce : cells + rm.cells ≤ R.cells) (hsl : slots + rm.slots ≤ R.slots) (k : ∀ b' T' locs', Wk p l e R s m args below meth c Z a0 EL n0 y bytes maxL ret b' T' h locs' (cells + rm.cells) (slots + rm.slots) → (∀ x, x < h.size → Sfe Z EL b.vm h x → Sfe Z EL b'.vm h x) → Goes p.tables e below P (T'.setTop (mkF m pc' Ls (vv.toList ++ rest)))) : Goes p.tables e below P (T.setTop (mkF m pc Ls st)) := k_interface K argsL rest W wl wd wf wse wi wpu wun wca wz wc hvd hyv E hy hpd C hd hSP hp hsz hlen hst hW hfr hlo hce hsl (fun b' T' h' locs' v K' tr q => by obtain ⟨rfl, rfl⟩ := q; exact k _ _ _ K' tr)
theorem k_super (K : Wk p l e R s m args below meth c Z a0 EL n0 y bytes maxL ret b T h locs cells slots) {i : Nat} {yy : MethodName} {yb : ByteArray} {yml : Nat} {yret : Option FieldType} {rm : Room} {SP : List Addr} {Q : Option Value → Heap → (Addr → Prop) → Prop} {ps : List FieldType} {r : Option FieldType} (argsL rest : List Value) (W : Nat) {a : Addr} {C0 : String} (wl : (Cond.methodLink y.cls i yy).before a0 Z = true) (wsm : (Cond.sameMethod yy.cls yy.cls yy.name yy.desc).before a0 Z = true) (wi : (Cond.instanceMethod yy).before a0 Z = true) (wsu : (Cond.superclass y.cls yy.cls).before a0 Z = true) (hni : yy.name ≠ "<init>") (wz : (Cond.initialized yy.cls).before a0 Z = true) (wc : (Cond.code yy yb yml yret).before a0 Z = true) (E : Ins Z h a C0 true) (hy : yy.cls ≠ "java/lang/invoke/MethodHandle" ∧ yy.cls ≠ "java/lang/invoke/VarHandle") (hpd : parseMethodDescriptor yy.desc = some ⟨ps, r⟩) (C : Ct l Z EL n0 yy yb yml yret rm (.ref a :: argsL).toArray h SP Q) (hd : decode bytes pc = .ok (.invokespecial i, 3)) (hSP : ∀ x ∈ SP, x < h.size ∧ Sfe Z EL b.vm h x) (hp : pc + 3 = pc') (hsz : Ls.size = maxL) (hlen : argsL.length = ps.length) (hst : st = argsL.reverse ++ .ref a :: rest) (hW : (rest.map fun v => v.category).sum ≤ W) (hfr : rm.frames + 1 ≤ R.frames) (hlo : W + (yml + 11) + rm.locals ≤ R.locals) (hce : cells + rm.cells ≤ R.cells) (hsl : slots + rm.slots ≤ R.slots) (k : ∀ b' T' h' locs' v, Wk p l e R s m args below meth c Z a0 EL n0 y bytes maxL ret b' T' h' locs' (cells + rm.cells) (slots + rm.slots) → (∀ x, x < h.size → Sfe Z EL b.vm h x → Sfe Z EL b'.vm h' x) → Q v h' (Sfe Z EL b'.vm h') → Goes p.tables e below P (T'.setTop (mkF m pc' Ls (v.toList ++ rest)))) : Goes p.tables e below P (T.setTop (mkF m pc Ls st)) := by
  subst hp
  obtain ⟨⟨vm0, k0, eb, g1, g2⟩, g3, g4⟩ := K.bs
  subst eb
  obtain ⟨v, vm1, ⟨T', L', c', n'⟩, -, X', hS', hsz', ⟨Lc, ⟨hF, hO', hQ⟩, l', y', z', hCH⟩, q⟩ := superBackS K.X K.hx K.hZ (y := yy) K.hown wl wsm wi wsu hni (own_back (s := s) (vm0 := vm0) (W := W) C K.hZ wc wz hfr hlo g4 g3.1 hSP) K.eT E (g := mkF m pc Ls st) rfl (hsz.trans K.hml.symm) wc (argsL := argsL) (rest := rest) (lenOf hpd hlen) hst (by show 2 * 0 + _ ≤ _; rw [Nat.mul_zero, Nat.zero_add]; exact hW) (hb K.hby hd) (fun _ _ => ⟨rfl, K.eT, hce, hsl⟩)
  dsimp only [Pt.U, Pt.locs, Pt.cells, Pt.slots] at X' l' y' z' q hQ hCH hS' hsz' hO'
  subst l' y' z'
  exact go (fun _ z => q.trans z) (k _ _ _ _ _ (wk_called K (b0 := (s.setVm vm0)) rfl X' hS' hsz' hCH hF hO') (fun x hx z => CHr.safe hCH hx z) hQ)
theorem k_superP (K : Wk p l e R s m args below meth c Z a0 EL n0 y bytes maxL ret b T h locs cells slots) {i : Nat} {yy : MethodName} {yb : ByteArray} {yml : Nat} {yret : Option FieldType} {rm : Room} {SP : List Addr} {ps : List FieldType} {r : Option FieldType} (argsL rest : List Value) (W : Nat) {a : Addr} {C0 : String} (wl : (Cond.methodLink y.cls i yy).before a0 Z = true) (wsm : (Cond.sameMethod yy.cls yy.cls yy.name yy.desc).before a0 Z = true) (wi : (Cond.instanceMethod yy).before a0 Z = true) (wsu : (Cond.superclass y.cls yy.cls).before a0 Z = true) (hni : yy.name ≠ "<init>") (wz : (Cond.initialized yy.cls).before a0 Z = true) (wc : (Cond.code yy yb yml yret).before a0 Z = true) (E : Ins Z h a C0 true) (hy : yy.cls ≠ "java/lang/invoke/MethodHandle" ∧ yy.cls ≠ "java/lang/invoke/VarHandle") (hpd : parseMethodDescriptor yy.desc = some ⟨ps, r⟩) {vv : Option Value} (C : Ct l Z EL n0 yy yb yml yret rm (.ref a :: argsL).toArray h SP (Pu vv h)) (hd : decode bytes pc = .ok (.invokespecial i, 3)) (hSP : ∀ x ∈ SP, x < h.size ∧ Sfe Z EL b.vm h x) (hp : pc + 3 = pc') (hsz : Ls.size = maxL) (hlen : argsL.length = ps.length) (hst : st = argsL.reverse ++ .ref a :: rest) (hW : (rest.map fun v => v.category).sum ≤ W) (hfr : rm.frames + 1 ≤ R.frames) (hlo : W + (yml + 11) + rm.locals ≤ R.locals) (hce : cells + rm.cells ≤ R.cells) (hsl : slots + rm.slots ≤ R.slots) (k : ∀ b' T' locs', Wk p l e R s m args below meth c Z a0 EL n0 y bytes maxL ret b' T' h locs' (cells + rm.cells) (slots + rm.slots) → (∀ x, x < h.size → Sfe Z EL b.vm h x → Sfe Z EL b'.vm h x) → Goes p.tables e below P (T'.setTop (mkF m pc' Ls (vv.toList ++ rest)))) : Goes p.tables e below P (T.setTop (mkF m pc Ls st)) := k_super K argsL rest W wl wsm wi wsu hni wz wc E hy hpd C hd hSP hp hsz hlen hst hW hfr hlo hce hsl (fun b' T' h' locs' v K' tr q => by obtain ⟨rfl, rfl⟩ := q; exact k _ _ _ K' tr)
theorem k_initO (K : Wk p l e R s m args below meth c Z a0 EL n0 y bytes maxL ret b T h locs cells slots) {i : Nat} {a : Addr} (wl : (Cond.methodLink y.cls i Lib.objectInit).before a0 Z = true) (wi : (Cond.instanceMethod Lib.objectInit).before a0 Z = true) (wc : (Cond.code Lib.objectInit ⟨#[0xb1]⟩ 1 none).before a0 Z = true) (hd : decode bytes pc = .ok (.invokespecial i, 3)) (hp : pc + 3 = pc') (hsz : Ls.size = maxL) (hfr : 1 ≤ R.frames) (W : Nat) (hW : (st.map fun v => v.category).sum ≤ W) (hlo : W + 12 ≤ R.locals) (k : ∀ T', Wk p l e R s m args below meth c Z a0 EL n0 y bytes maxL ret b T' h locs cells slots → Goes p.tables e below P (T'.setTop (mkF m pc' Ls st))) : Goes p.tables e below P (T.setTop (mkF m pc Ls (.ref a :: st))) := by
  subst hp
  obtain ⟨T', X', e', q⟩ := initO K.X K.hx K.hZ K.hown wl wi wc K.eT (g := mkF m pc Ls (.ref a :: st)) rfl (hsz.trans K.hml.symm) rfl (hb K.hby hd) hfr (W := W) (by show 2 * 0 + _ ≤ _; rw [Nat.mul_zero, Nat.zero_add]; exact hW) hlo
  exact go q (k T' (K.move X' e' K.fr K.old K.bs))
theorem k_ldcS (K : Wk p l e R s m args below meth c Z a0 EL n0 y bytes maxL ret b T h locs cells slots) {i : Nat} {text : String} {vs : List Value} {z : Int32} (wd : (Cond.stringLink y.cls i text).before a0 Z = true) (wS : ∀ a ∈ Bundle.stringAtoms, a.before a0 Z = true) (hmem : (y.cls, i) ∈ EL) (ht : (∀ c ∈ text.toList, c.toNat < 256) ∧ text.toList.map (fun c => Value.int (Jvm.Lit.byteI c.toNat.toUInt16)) = vs) (hz : ¬ z < 0) (hl : z.toNatClampNeg = vs.length) (n : Nat) (hn : 4 * text.toList.length ≤ n) (hbig : n ≤ 536870912) (hd : decode bytes pc = .ok (.ldc i, 2)) (hp : pc + 2 = pc') (hce : cells + 2 ≤ R.cells) (hsl : slots + (n + 4) ≤ R.slots) (k : ∀ b' T' h' a d kd, Wk p l e R s m args below meth c Z a0 EL n0 y bytes maxL ret b' T' h' locs (cells + 2) (slots + (n + 4)) → Ext h h' → (∀ x, x < h.size → Sfe Z EL b.vm h x → Sfe Z EL b'.vm h' x) → Exa Z h' a "java/lang/String" → Fld Z h' a "java/lang/String" "coder" "B" (.int 0) → Fld Z h' a "java/lang/String" "value" "[B" (.ref d) → Arv Z h' d kd .byte z vs (.int 0) → (∀ x, Sfe Z EL b'.vm h' x → x ≠ a ∧ x ≠ d) → Goes p.tables e below P (T'.setTop (mkF m pc' Ls (.ref a :: st)))) : Goes p.tables e below P (T.setTop (mkF m pc Ls st)) := by
  subst hp
  obtain ⟨⟨vm0, k0, eb, g1, g2⟩, g3, g4⟩ := K.bs
  subst eb
  obtain ⟨a, T', h', k1, d, kd, X', e', E', hS', hk1, hW, hf, A1, A2, A3, A4, -, -, hCr, -, hne, q⟩ := ldcCH K.X K.hx K.hZ K.hown wd wS K.eT g1 g2 g4 hmem g3.1 ht hz hl (g := mkF m pc Ls st) rfl (hb K.hby hd) hn hbig hce hsl
  exact go q (k (s.setVm T'.vm) T' h' a d kd ⟨X', e', K.fr, K.hx, hW, hf, K.hby, K.hml, K.hret, K.hlk, K.hnm, K.old.ext E', ⟨⟨T'.vm, k1, rfl, hS', hk1⟩, g3.trans hCr, g4⟩⟩ E' (fun x hx z => CHr.safe hCr hx z) A1 A2 A3 A4 hne)
theorem k_ldcO (K : Wk p l e R s m args below meth c Z a0 EL n0 y bytes maxL ret b T h locs cells slots) {i : Nat} {text : String} (wd : (Cond.stringLink y.cls i text).before a0 Z = true) (wS : ∀ a ∈ Bundle.stringAtoms, a.before a0 Z = true) (n : Nat) (hn : 4 * text.toList.length ≤ n) (hbig : n ≤ 536870912) (hd : decode bytes pc = .ok (.ldc i, 2)) (hp : pc + 2 = pc') (hce : cells + 2 ≤ R.cells) (hsl : slots + (n + 4) ≤ R.slots) (k : ∀ b' T' h' a, Wk p l e R s m args below meth c Z a0 EL n0 y bytes maxL ret b' T' h' locs (cells + 2) (slots + (n + 4)) → Ext h h' → (∀ x, x < h.size → Sfe Z EL b.vm h x → Sfe Z EL b'.vm h' x) → Goes p.tables e below P (T'.setTop (mkF m pc' Ls (.ref a :: st)))) : Goes p.tables e below P (T.setTop (mkF m pc Ls st)) := by
  subst hp
  obtain ⟨⟨vm0, k0, eb, g1, g2⟩, g3, g4⟩ := K.bs
  subst eb
  obtain ⟨a, T', h', k1, X', e', E', hS', hk1, hW, hf, hCr, -, q⟩ := ldcOH K.X K.hx K.hZ K.hown wd wS K.eT g1 g2 g4 g3.1 (g := mkF m pc Ls st) rfl (hb K.hby hd) hn hbig hce hsl
  exact go q (k (s.setVm T'.vm) T' h' a ⟨X', e', K.fr, K.hx, hW, hf, K.hby, K.hml, K.hret, K.hlk, K.hnm, K.old.ext E', ⟨⟨T'.vm, k1, rfl, hS', hk1⟩, g3.trans hCr, g4⟩⟩ E' (fun x hx z => CHr.safe hCr hx z))
end Own
abbrev Tb (a0 : Array Value) (Z : State) : Prop := ∀ d ∈ tables_1, d.before a0 Z = true
def EL0 : List (String × Nat) := consts_1
theorem own_refc {v : Value} (h : v.isRef = true) : v = .null ∨ ∃ r, v = .ref r := by cases v <;> simp_all [Value.isRef]
theorem own_n0 {Z : State} {n0 : Nat} {h : Heap} (O : Old Z n0 h) : n0 ≤ h.size := O.1 ▸ O.2.1
theorem own_ne {x a : Addr} {h : Heap} (q : x < h.size) (g : a = h.size) : x ≠ a := fun e => by rw [e, g] at q; exact Nat.lt_irrefl _ q
theorem own_ne2 {x a : Addr} {h : Heap} (q : x < h.size) (g : h.size ≤ a) : x ≠ a := Nat.ne_of_lt (Nat.lt_of_lt_of_le q g)
theorem own_old {Z : State} {n0 : Nat} {h : Heap} {a : Addr} (O : Old Z n0 h) (g : a = h.size) : n0 ≤ a := g ▸ own_n0 O
def Str (Z : State) (h : Heap) (a b : Addr) (k : ClassId) (cd z : Int32) (vs : List Value) : Prop := Exa Z h a "java/lang/String" ∧ Fld Z h a "java/lang/String" "coder" "B" (.int cd) ∧ Fld Z h a "java/lang/String" "value" "[B" (.ref b) ∧ Arv Z h b k .byte z vs (.int 0)
section StrFacts
variable {Z : State} {h h' : Heap} {a b x : Addr} {k : ClassId} {cd z : Int32} {vs : List Value} {sl : Nat} {v : Value} {ws : List Addr}
theorem Str.ext (S : Str Z h a b k cd z vs) (E : Ext h h') : Str Z h' a b k cd z vs := ⟨S.1.ext E, S.2.1.ext E, S.2.2.1.ext E, S.2.2.2.ext E⟩
theorem Str.keep (S : Str Z h a b k cd z vs) (K : Keep h h' ws) (q1 : a ∉ ws) (q2 : b ∉ ws) : Str Z h' a b k cd z vs := ⟨S.1.keep K, S.2.1.keep K q1, S.2.2.1.keep K q1, S.2.2.2.keep K q2⟩
theorem Str.other (S : Str Z h a b k cd z vs) (W : Wr h h' x sl v) (q1 : a ≠ x) (q2 : b ≠ x) : Str Z h' a b k cd z vs := ⟨S.1.wr W, S.2.1.other W (Or.inl q1), S.2.2.1.other W (Or.inl q1), S.2.2.2.other W q2⟩
theorem Str.lt (S : Str Z h a b k cd z vs) : a < h.size := S.1.lt
theorem Str.blt (S : Str Z h a b k cd z vs) : b < h.size := S.2.2.2.lt
end StrFacts
theorem own_i32 {a b : Int32} : a < b ↔ a.toInt < b.toInt := Int32.lt_iff_toInt_lt
theorem own_i32e {a b : Int32} (h : a.toInt = b.toInt) : a = b := Int32.toInt_inj.mp h
theorem own_0 : (0 : Int32).toInt = 0 := by decide
theorem own_1 : (1 : Int32).toInt = 1 := by decide
theorem own_255 : (255 : Int32).toInt = 255 := by decide
theorem own_add1 {i : Int32} {n : Nat} (h : i.toInt = n) (hn : n < 2147483647) : (i + 1).toInt = (n + 1 : Nat) := by
  rw [XT.add32 (by rw [h, own_1]; constructor <;> omega), h, own_1]; omega
theorem own_clamp {i : Int32} {n : Nat} (h : i.toInt = n) : i.toNatClampNeg = n := by rw [Int32.toNatClampNeg, h]; rfl
theorem own_in {i z : Int32} {n m : Nat} (h : i.toInt = n) (hz : z.toInt = m) (q : n < m) : ¬ i < 0 ∧ i < z := by
  rw [own_i32, own_i32, h, hz, own_0]; omega
def byteV (c : Int32) : Value := .int c.toInt8.toInt32
def preN : List Int32 → Nat
  | [] => 0
  | c :: t => if (255 : Int32) < c then 0 else preN t + 1
def fillL (cs : List Int32) (i : Nat) : List Value := (cs.take i).map byteV ++ List.replicate (cs.length - i) (.int 0)
theorem fillL_len (cs : List Int32) (i : Nat) (h : i ≤ cs.length) : (fillL cs i).length = cs.length := by simp [fillL]; omega
theorem fillL_zero (cs : List Int32) : fillL cs 0 = List.replicate cs.length (.int 0) := by simp [fillL]
theorem fillL_set (cs : List Int32) (i : Nat) (h : i < cs.length) : (fillL cs i).set i (byteV cs[i]) = fillL cs (i + 1) := by
  apply List.ext_getElem?
  intro j
  have e1 : (List.take i (List.map byteV cs)).length = i := by simp; omega
  simp only [fillL, List.getElem?_set, List.map_take, List.getElem?_append, List.length_take, List.length_map, List.getElem?_take, List.getElem?_map, List.getElem?_replicate, List.length_append, List.length_replicate]
  rcases Nat.lt_trichotomy j i with q | q | q
  · simp [show ¬ i = j by omega, show j < i by omega, show j < i + 1 by omega, show j < cs.length by omega, show i < cs.length by omega, Nat.min_eq_left (show i ≤ cs.length by omega), Nat.min_eq_left (show i + 1 ≤ cs.length by omega)]
  · subst q; simp [h, Nat.min_eq_left (show j ≤ cs.length by omega), Nat.min_eq_left (show j + 1 ≤ cs.length by omega)]; omega
  · simp [show ¬ i = j by omega, show ¬ j < i by omega, show ¬ j < i + 1 by omega, Nat.min_eq_left (show i ≤ cs.length by omega), Nat.min_eq_left (show i + 1 ≤ cs.length by omega), show ¬ j < i from by omega]
    congr 1
    apply propext; omega
theorem preN_le : ∀ cs : List Int32, preN cs ≤ cs.length
  | [] => Nat.le_refl _
  | c :: t => by unfold preN; split <;> simp; exact preN_le t
theorem preN_at : ∀ (cs : List Int32) (i : Nat) (h : i < cs.length), (∀ j (hj : j < i), ¬ (255 : Int32) < cs[j]) → (255 : Int32) < cs[i] → preN cs = i
  | c :: t, 0, h, _, q => by unfold preN; exact if_pos q
  | c :: t, i + 1, h, hl, q => by
    unfold preN
    have h0 : ¬ (255 : Int32) < c := hl 0 (by omega)
    rw [if_neg h0, preN_at t i (by simpa using h) (fun j hj => hl (j + 1) (by omega)) q]
theorem preN_all : ∀ (cs : List Int32), (∀ j (hj : j < cs.length), ¬ (255 : Int32) < cs[j]) → preN cs = cs.length
  | [], _ => rfl
  | c :: t, h => by
    have h0 : ¬ (255 : Int32) < c := h 0 (by simp)
    unfold preN; rw [if_neg h0, preN_all t fun j hj => h (j + 1) (by simpa using hj)]; rfl
theorem own_byte (c : Int32) : nar .byte c.toInt8.toInt32 = c.toInt8.toInt32 := by simp [nar]
theorem own_getD (cs : List Int32) (i : Nat) (h : i < cs.length) : (cs.map Value.int).getD i (.int 0) = .int cs[i] := by simp [List.getD_eq_getElem?_getD, h]
def loB (c : Int32) : Value := .int ((c >>> ((0 : Int32) &&& 31)).toInt8.toInt32)
def hiB (c : Int32) : Value := .int ((c >>> ((8 : Int32) &&& 31)).toInt8.toInt32)
def fill2 (cs : List Int32) (i : Nat) : List Value := (cs.take i).flatMap (fun c => [loB c, hiB c]) ++ List.replicate (2 * (cs.length - i)) (.int 0)
theorem flat_len (cs : List Int32) : (cs.flatMap (fun c => [loB c, hiB c])).length = 2 * cs.length := by
  induction cs with
  | nil => rfl
  | cons c t ih => simp only [List.flatMap_cons, List.length_append, ih, List.length_cons, List.length_nil]; omega
theorem fill2_len (cs : List Int32) (i : Nat) (h : i ≤ cs.length) : (fill2 cs i).length = 2 * cs.length := by
  simp only [fill2, List.length_append, flat_len, List.length_take, List.length_replicate]; omega
theorem fill2_zero (cs : List Int32) : fill2 cs 0 = List.replicate (2 * cs.length) (.int 0) := by simp [fill2]
theorem fill2_set (cs : List Int32) (i : Nat) (h : i < cs.length) : ((fill2 cs i).set (2 * i) (loB cs[i])).set (2 * i + 1) (hiB cs[i]) = fill2 cs (i + 1) := by
  have e0 : (cs.take i).length = i := by simp; omega
  have e1 : ((cs.take i).flatMap (fun c => [loB c, hiB c])).length = 2 * i := by rw [flat_len, e0]
  have e2 : 2 * (cs.length - i) = (2 * (cs.length - (i + 1)) + 1) + 1 := by omega
  have e3 : cs.take (i + 1) = cs.take i ++ [cs[i]] := by rw [List.take_succ_eq_append_getElem h]
  unfold fill2
  rw [e3, e2, List.replicate_succ, List.replicate_succ, List.flatMap_append]
  rw [List.set_append_right _ _ (by rw [e1]; exact Nat.le_refl _), e1, Nat.sub_self]
  rw [List.set_append_right _ _ (by rw [e1]; omega), e1, show 2 * i + 1 - 2 * i = 1 by omega]
  simp
theorem fill2_lo (cs : List Int32) (j : Nat) (h : j < cs.length) : (fill2 cs cs.length).getD (2 * j) (.int 0) = loB cs[j] := by
  unfold fill2
  rw [List.take_length, Nat.sub_self, Nat.mul_zero, List.replicate_zero, List.append_nil]
  induction cs generalizing j with
  | nil => exact absurd h (Nat.not_lt_zero _)
  | cons c t ih =>
    cases j with
    | zero => rfl
    | succ j => rw [List.flatMap_cons, show 2 * (j + 1) = 2 * j + 1 + 1 by omega]; exact ih j (by simpa using h)
theorem fill2_hi (cs : List Int32) (j : Nat) (h : j < cs.length) : (fill2 cs cs.length).getD (2 * j + 1) (.int 0) = hiB cs[j] := by
  unfold fill2
  rw [List.take_length, Nat.sub_self, Nat.mul_zero, List.replicate_zero, List.append_nil]
  induction cs generalizing j with
  | nil => exact absurd h (Nat.not_lt_zero _)
  | cons c t ih =>
    cases j with
    | zero => rfl
    | succ j => rw [List.flatMap_cons, show 2 * (j + 1) + 1 = 2 * j + 1 + 1 + 1 by omega]; exact ih j (by simpa using h)
theorem own_dbl {i : Int32} {n : Nat} (h : i.toInt = n) (hn : n < 1000000000) : (i <<< ((1 : Int32) &&& 31)).toInt = (2 * n : Nat) := by
  have hb : i.toBitVec.toNat = n := by
    have q : i.toBitVec.toInt = n := h
    rw [BitVec.toInt_eq_toNat_cond] at q
    have := i.toBitVec.isLt
    split at q <;> omega
  have e1 : (i <<< ((1 : Int32) &&& 31)).toBitVec = i.toBitVec <<< 1 := rfl
  have e2 : (i.toBitVec <<< 1).toNat = 2 * n := by rw [BitVec.toNat_shiftLeft, hb, Nat.shiftLeft_eq]; omega
  show (i <<< ((1 : Int32) &&& 31)).toBitVec.toInt = _
  rw [e1, BitVec.toInt_eq_toNat_cond, e2]; split <;> omega
theorem own_nat {c : Int32} {n : Nat} (h : c.toInt = n) : c.toBitVec.toNat = n := by
  have q : c.toBitVec.toInt = n := h
  have hn : c.toInt < 2 ^ 31 := Int32.toInt_lt c
  rw [BitVec.toInt_eq_toNat_cond] at q
  have := c.toBitVec.isLt
  split at q <;> omega
theorem own_toInt {c : Int32} (h : c.toBitVec.toNat < 2147483648) : c.toInt = c.toBitVec.toNat := by
  show c.toBitVec.toInt = _
  rw [BitVec.toInt_eq_toNat_cond]; split <;> omega
theorem own_i2cN (x : Int32) : (x.toUInt32.toUInt16.toUInt32.toInt32).toBitVec.toNat = x.toBitVec.toNat % 65536 := by
  have e : (x.toUInt32.toUInt16.toUInt32.toInt32).toBitVec = (x.toBitVec.setWidth 16).setWidth 32 := rfl
  rw [e, BitVec.toNat_setWidth, BitVec.toNat_setWidth]; omega
theorem own_i2c (x : Int32) : 0 ≤ (x.toUInt32.toUInt16.toUInt32.toInt32).toInt ∧ (x.toUInt32.toUInt16.toUInt32.toInt32).toInt < 65536 := by
  have h := own_i2cN x
  rw [own_toInt (by rw [h]; omega), h]; omega
theorem own_i2cI {c : Int32} (h1 : 0 ≤ c.toInt) (h2 : c.toInt < 65536) : c.toUInt32.toUInt16.toUInt32.toInt32 = c := by
  obtain ⟨n, hn⟩ := Int.eq_ofNat_of_zero_le h1
  have e := own_nat hn
  apply Int32.toBitVec_inj.mp
  apply BitVec.eq_of_toNat_eq
  rw [own_i2cN, e]; omega
theorem own_narrowc {c : Int32} (h1 : 0 ≤ c.toInt) (h2 : c.toInt < 65536) : narrow .char (.int c) = .int c := by
  show Value.int c.toUInt32.toUInt16.toUInt32.toInt32 = _
  rw [own_i2cI h1 h2]
theorem own_shr0 (n : Int32) : n >>> ((0 : Int32) &&& 31) = n := by
  apply Int32.toBitVec_inj.mp
  show n.toBitVec.sshiftRight 0 = n.toBitVec
  simp
theorem own_low (x : Int32) : (x.toInt8.toInt32 &&& 255).toBitVec.toNat = x.toBitVec.toNat % 256 := by
  have e : (x.toInt8.toInt32 &&& 255).toBitVec = ((x.toBitVec.signExtend 8).signExtend 32) &&& 255#32 := rfl
  have e8 : x.toBitVec.signExtend 8 = x.toBitVec.setWidth 8 := BitVec.signExtend_eq_setWidth_of_le _ (by decide)
  have e2 : ((x.toBitVec.setWidth 8).signExtend 32) &&& 255#32 = (x.toBitVec.setWidth 8).setWidth 32 := by
    apply BitVec.eq_of_getLsbD_eq
    intro i hi
    have h255 : (255#32).getLsbD i = decide (i < 8) := by
      have := (by decide : ∀ i : Fin 32, (255#32).getLsbD i.val = decide (i.val < 8)) ⟨i, hi⟩
      exact this
    rw [BitVec.getLsbD_and, h255, BitVec.getLsbD_signExtend, BitVec.getLsbD_setWidth]
    by_cases q : i < 8
    · simp [hi, q]
    · simp [q]
  rw [e, e8, e2, BitVec.toNat_setWidth, BitVec.toNat_setWidth]; omega
theorem own_dblN {i : Int32} {n : Nat} (h : i.toInt = n) (hn : n < 1000000000) : (i <<< ((1 : Int32) &&& 31)).toBitVec.toNat = 2 * n := by
  show (i.toBitVec <<< 1).toNat = _
  rw [BitVec.toNat_shiftLeft, own_nat h, Nat.shiftLeft_eq]; omega
theorem own_half {n : Int32} {m : Nat} (hn : n.toInt = m) (hm : m ≤ 4000) : (n <<< ((1 : Int32) &&& 31)) >>> ((1 : Int32) &&& 31) = n := by
  have e := own_dblN hn (by omega)
  generalize n <<< ((1 : Int32) &&& 31) = z at e
  apply Int32.toBitVec_inj.mp
  apply BitVec.eq_of_toNat_eq
  show (z.toBitVec.sshiftRight 1).toNat = _
  rw [BitVec.sshiftRight_eq_of_msb_false (by rw [BitVec.msb_eq_decide, e]; simp; omega), BitVec.toNat_ushiftRight, e, Nat.shiftRight_eq_div_pow, own_nat hn]; omega
theorem own_ush0 (n : Int32) : (Jvm.Free.XT.ushr (n - n) (31 : Int32)).toInt8.toInt32 = 0 := by
  have e : n - n = 0 := by simp
  rw [e]; decide
theorem own_ush1 {n : Int32} {m : Nat} (hn : n.toInt = m) (h1 : 1 ≤ m) (hm : m ≤ 4000) : (Jvm.Free.XT.ushr (n - n <<< ((1 : Int32) &&& 31)) (31 : Int32)).toInt8.toInt32 = 1 := by
  have e := own_dblN hn (by omega)
  have e1 : Jvm.Free.XT.ushr (n - n <<< ((1 : Int32) &&& 31)) (31 : Int32) = 1 := by
    generalize n <<< ((1 : Int32) &&& 31) = z at e
    apply Int32.toBitVec_inj.mp
    apply BitVec.eq_of_toNat_eq
    show ((n.toBitVec - z.toBitVec) >>> 31).toNat = 1
    rw [BitVec.toNat_ushiftRight, BitVec.toNat_sub, own_nat hn, e, Nat.shiftRight_eq_div_pow]; omega
  rw [e1]; decide
theorem own_join (c : Int32) (h1 : 0 ≤ c.toInt) (h2 : c.toInt < 65536) : ((((c >>> ((0 : Int32) &&& 31)).toInt8.toInt32 &&& 255) <<< ((0 : Int32) &&& 31)) ||| (((c >>> ((8 : Int32) &&& 31)).toInt8.toInt32 &&& 255) <<< ((8 : Int32) &&& 31))).toUInt32.toUInt16.toUInt32.toInt32 = c := by
  obtain ⟨n, hn⟩ := Int.eq_ofNat_of_zero_le h1
  have e := own_nat hn
  have hN : n < 65536 := by omega
  rw [own_shr0]
  have a1 := own_low c
  have a2 := own_low (c >>> ((8 : Int32) &&& 31))
  have s8 : (c >>> ((8 : Int32) &&& 31)).toBitVec.toNat = n / 256 := by
    show (c.toBitVec.sshiftRight 8).toNat = _
    rw [BitVec.sshiftRight_eq_of_msb_false (by rw [BitVec.msb_eq_decide, e]; simp; omega), BitVec.toNat_ushiftRight, e, Nat.shiftRight_eq_div_pow]
  rw [s8] at a2
  rw [e] at a1
  generalize (c.toInt8.toInt32 &&& 255) = p at a1
  generalize ((c >>> ((8 : Int32) &&& 31)).toInt8.toInt32 &&& 255) = q at a2
  apply Int32.toBitVec_inj.mp
  apply BitVec.eq_of_toNat_eq
  rw [own_i2cN, e]
  have b1 : (p <<< ((0 : Int32) &&& 31)).toBitVec = p.toBitVec := by
    show p.toBitVec <<< 0 = _
    simp
  have b2 : (q <<< ((8 : Int32) &&& 31)).toBitVec.toNat = (n / 256 % 256) * 256 := by
    show (q.toBitVec <<< 8).toNat = _
    rw [BitVec.toNat_shiftLeft, a2, Nat.shiftLeft_eq]; omega
  have b3 : (p <<< ((0 : Int32) &&& 31) ||| q <<< ((8 : Int32) &&& 31)).toBitVec.toNat = n % 256 ||| (n / 256 % 256) * 256 := by
    show ((p <<< ((0 : Int32) &&& 31)).toBitVec ||| (q <<< ((8 : Int32) &&& 31)).toBitVec).toNat = _
    rw [BitVec.toNat_or, b1, b2, a1]
  rw [b3]
  have b4 : n % 256 ||| (n / 256 % 256) * 256 = n := by
    rw [Nat.or_comm, Nat.mul_comm, show (256 : Nat) = 2 ^ 8 by decide, ← Nat.two_pow_add_eq_or_of_lt (Nat.mod_lt _ (by decide))]; omega
  rw [b4]; omega
theorem preN_gt : ∀ (cs : List Int32) (h : preN cs < cs.length), (255 : Int32) < cs[preN cs]
  | [], h => absurd h (Nat.not_lt_zero _)
  | c :: t, h => by
    by_cases q : (255 : Int32) < c
    · have e : preN (c :: t) = 0 := if_pos q
      simpa [e] using q
    · have e : preN (c :: t) = preN t + 1 := if_neg q
      have h2 : preN t < t.length := by rw [e] at h; simpa using h
      simpa [e] using preN_gt t h2
def strCd (cs : List Int32) : Int32 := if preN cs = cs.length then 0 else 1
def strVs (cs : List Int32) : List Value := if preN cs = cs.length then fillL cs cs.length else fill2 cs cs.length
def strZ (n : Int32) (cs : List Int32) : Int32 := if preN cs = cs.length then n else n <<< ((1 : Int32) &&& 31)
theorem strCd_01 (cs : List Int32) : strCd cs = 0 ∨ strCd cs = 1 := by unfold strCd; split <;> simp
theorem strCd_n (cs : List Int32) : narrow .byte (.int (strCd cs)) = .int (strCd cs) := by rcases strCd_01 cs with q | q <;> rw [q] <;> rfl
theorem strCd_f (cs : List Int32) : fits .byte (.int (strCd cs)) = true := by rcases strCd_01 cs with q | q <;> rw [q] <;> rfl
theorem own_ofN {n : Nat} (h : n ≤ 4000) : (Int32.ofNat n).toInt = n := Int32.toInt_ofNat_of_lt (by omega)
theorem own_cfal {n : Int32} {cs : List Int32} (hn : n.toInt = cs.length) (h1 : 1 ≤ cs.length) (hb : cs.length ≤ 4000) : ((XT.ushr (n - strZ n cs) (31 : Int32)).toInt8.toInt32) = strCd cs := by
  unfold strZ strCd
  split
  · exact own_ush0 n
  · exact own_ush1 hn h1 hb
theorem own_len {n : Int32} {cs : List Int32} (hn : n.toInt = cs.length) (hb : cs.length ≤ 4000) : strZ n cs >>> (strCd cs &&& 31) = n := by
  unfold strZ strCd
  split
  · exact own_shr0 n
  · exact own_half hn hb
theorem preN_lat {cs : List Int32} (h : ∀ c ∈ cs, 0 ≤ c.toInt ∧ c.toInt < 256) : preN cs = cs.length := preN_all cs fun j hj => by
  rw [own_i32, own_255]; have := (h cs[j] (List.getElem_mem hj)).2; omega
theorem own_strCd {cs : List Int32} (h : ∀ c ∈ cs, 0 ≤ c.toInt ∧ c.toInt < 256) : strCd cs = 0 := if_pos (preN_lat h)
theorem own_strZ {n : Int32} {cs : List Int32} (h : ∀ c ∈ cs, 0 ≤ c.toInt ∧ c.toInt < 256) : strZ n cs = n := if_pos (preN_lat h)
theorem own_strVs {cs : List Int32} (h : ∀ c ∈ cs, 0 ≤ c.toInt ∧ c.toInt < 256) : strVs cs = (cs.map fun c => c.toInt8.toInt32).map Value.int := by
  rw [strVs, if_pos (preN_lat h), fillL, List.take_length, Nat.sub_self, List.replicate_zero, List.append_nil, List.map_map]; rfl
theorem own_ch8 {c : Int32} (h : 0 ≤ c.toInt ∧ c.toInt < 256) : (c.toInt8.toInt32 &&& 255).toUInt32.toUInt16.toUInt32.toInt32 = c := by
  obtain ⟨n, hn⟩ := Int.eq_ofNat_of_zero_le h.1
  have e := own_nat hn
  apply Int32.toBitVec_inj.mp
  apply BitVec.eq_of_toNat_eq
  rw [own_i2cN, own_low, e]; omega
theorem preN_low : ∀ (cs : List Int32), preN cs = cs.length → ∀ c ∈ cs, ¬ (255 : Int32) < c
  | [], _, c, q => nomatch q
  | c :: t, h, d, hd => by
    unfold preN at h
    split at h
    · simp at h
    · rename_i q
      rcases List.mem_cons.mp hd with rfl | r
      · exact q
      · exact preN_low t (by simpa using h) d r
theorem strVs_lat {cs : List Int32} (ep : preN cs = cs.length) : strVs cs = (cs.map fun c => c.toInt8.toInt32).map Value.int := by
  rw [strVs, if_pos ep, fillL, List.take_length, Nat.sub_self, List.replicate_zero, List.append_nil, List.map_map]; rfl
theorem own_ifNe {P : Prop} [Decidable P] (h : ¬ (if P then (1 : Int32) else 0) = 0) : P := Classical.byContradiction fun q => h (if_neg q)
theorem own_ifEq {P : Prop} [Decidable P] (h : (if P then (1 : Int32) else 0) = 0) : ¬ P := fun q => by rw [if_pos q] at h; exact absurd h (by decide)
def Sbd (Z : State) (h : Heap) (sb d : Addr) (kd : ClassId) (cp : Int32) (xs : List Int32) (ys : List Value) : Prop := Exa Z h sb "java/lang/StringBuilder" ∧ Fld Z h sb "java/lang/AbstractStringBuilder" "value" "[B" (.ref d) ∧ Fld Z h sb "java/lang/AbstractStringBuilder" "coder" "B" (.int 0) ∧ Fld Z h sb "java/lang/AbstractStringBuilder" "count" "I" (.int (Int32.ofNat xs.length)) ∧ Arv Z h d kd .byte cp (xs.map Value.int ++ ys) (.int 0) ∧ Exa Z h d "[B" ∧ cp.toInt = (xs.length + ys.length : Nat) ∧ xs.length + ys.length ≤ 142
theorem own_shl0 (n : Int32) : n <<< ((0 : Int32) &&& 31) = n := by
  apply Int32.toBitVec_inj.mp
  show n.toBitVec <<< 0 = n.toBitVec
  simp
theorem own_range0 (vs : List Value) (n : Nat) (h : n ≤ vs.length) : (List.range n).map (fun i => vs.getD ((0 : Int32).toNatClampNeg + i) (.int 0)) = vs.take n := by
  apply List.ext_getElem?
  intro j
  have e0 : (0 : Int32).toNatClampNeg = 0 := by decide
  simp only [List.getElem?_map, List.getElem?_take, List.getD_eq_getElem?_getD, e0, Nat.zero_add]
  by_cases q : j < n
  · have q2 : j < vs.length := Nat.lt_of_lt_of_le q h
    simp [q, q2]
  · simp [q]
theorem own_of {n : Nat} (h : n ≤ 100000) : (Int32.ofNat n).toInt = n := Int32.toInt_ofNat_of_lt (by omega)
theorem own_sumN {a b : Nat} {y : Int32} (hy : y.toInt = b) (h : a + b ≤ 100000) : Int32.ofNat a + y = Int32.ofNat (a + b) := own_i32e (by
  rw [XT.add32 (by rw [own_of (by omega), hy]; constructor <;> omega), own_of (by omega), hy, own_of h]; omega)
theorem own_i16 : (16 : Int32).toInt = 16 := by decide
theorem own_2 : (2 : Int32).toInt = (2 : Nat) := by decide
theorem own_sub {a b : Int32} {i j : Nat} (ha : a.toInt = i) (hb : b.toInt = j) (h : j ≤ i) (hi : i ≤ 100000) : (a - b).toInt = (i - j : Nat) := by
  rw [XT.sub32 (by rw [ha, hb]; constructor <;> omega), ha, hb]; omega
theorem own_sum2 {a b : Int32} {i j : Nat} (ha : a.toInt = i) (hb : b.toInt = j) (h : i + j ≤ 100000) : (a + b).toInt = (i + j : Nat) := by
  rw [XT.add32 (by rw [ha, hb]; constructor <;> omega), ha, hb]; omega
theorem own_put (xs bs : List Int32) (ys : List Value) (h : bs.length ≤ ys.length) : (xs.map Value.int ++ ys).take xs.length ++ bs.map Value.int ++ (xs.map Value.int ++ ys).drop (xs.length + bs.length) = (xs ++ bs).map Value.int ++ ys.drop bs.length := by
  have e1 : (xs.map Value.int ++ ys).take xs.length = xs.map Value.int := by
    rw [List.take_append_of_le_length (by rw [List.length_map]; exact Nat.le_refl _), List.take_of_length_le (by rw [List.length_map]; exact Nat.le_refl _)]
  have e2 : (xs.map Value.int ++ ys).drop (xs.length + bs.length) = ys.drop bs.length := by
    rw [List.drop_append]; simp
  rw [e1, e2, List.map_append]
theorem d_jdk_68_method_2_code_0 : decode jdk_68_method_2_code 0 = .ok (.aload_n 0, 1) := by decide +kernel
theorem d_jdk_68_method_2_code_1 : decode jdk_68_method_2_code 1 = .ok (.invokespecial 3, 3) := by decide +kernel
theorem w40 {Z : State} {a0 : Array Value} (hw : Tb a0 Z) : (Jvm.Cond.methodLink "java/lang/AbstractStringBuilder" (3 : Nat) ({ cls := "java/lang/Object", name := "<init>", desc := "()V" } : Jvm.MethodName)).before a0 Z = true := hw _ (List.mem_of_getElem? (i := 40) rfl)
theorem w17 {Z : State} {a0 : Array Value} (hw : Tb a0 Z) : (Jvm.Cond.instanceMethod ({ cls := "java/lang/Object", name := "<init>", desc := "()V" } : Jvm.MethodName)).before a0 Z = true := hw _ (List.mem_of_getElem? (i := 17) rfl)
theorem w18 {Z : State} {a0 : Array Value} (hw : Tb a0 Z) : (Jvm.Cond.code ({ cls := "java/lang/Object", name := "<init>", desc := "()V" } : Jvm.MethodName) object_method_1_code (1 : Nat) (Option.none : Option Jvm.ClassFile.FieldType)).before a0 Z = true := hw _ (List.mem_of_getElem? (i := 18) rfl)
theorem d_jdk_68_method_2_code_4 : decode jdk_68_method_2_code 4 = .ok (.getstatic 18, 3) := by decide +kernel
theorem w41 {Z : State} {a0 : Array Value} (hw : Tb a0 Z) : (Jvm.Cond.fieldLink "java/lang/AbstractStringBuilder" (18 : Nat) "java/lang/String" "COMPACT_STRINGS" "Z").before a0 Z = true := hw _ (List.mem_of_getElem? (i := 41) rfl)
theorem d_jdk_68_method_2_code_7 : decode jdk_68_method_2_code 7 = .ok (.ifCond .eq 18, 3) := by decide +kernel
theorem d_jdk_68_method_2_code_10 : decode jdk_68_method_2_code 10 = .ok (.aload_n 0, 1) := by decide +kernel
theorem d_jdk_68_method_2_code_11 : decode jdk_68_method_2_code 11 = .ok (.iload_n 1, 1) := by decide +kernel
theorem d_jdk_68_method_2_code_12 : decode jdk_68_method_2_code 12 = .ok (.newarray .byte, 2) := by decide +kernel
theorem w43 {Z : State} {a0 : Array Value} (hw : Tb a0 Z) : (Jvm.Cond.arrayClass Jvm.ClassFile.FieldType.byte).before a0 Z = true := hw _ (List.mem_of_getElem? (i := 43) rfl)
theorem d_jdk_68_method_2_code_14 : decode jdk_68_method_2_code 14 = .ok (.putfield 15, 3) := by decide +kernel
theorem w44 {Z : State} {a0 : Array Value} (hw : Tb a0 Z) : (Jvm.Cond.fieldLink "java/lang/AbstractStringBuilder" (15 : Nat) "java/lang/AbstractStringBuilder" "value" "[B").before a0 Z = true := hw _ (List.mem_of_getElem? (i := 44) rfl)
theorem w45 {Z : State} {a0 : Array Value} (hw : Tb a0 Z) : (Jvm.Cond.lays "java/lang/StringBuilder" "java/lang/AbstractStringBuilder" "value" "[B").before a0 Z = true := hw _ (List.mem_of_getElem? (i := 45) rfl)
theorem w29 {Z : State} {a0 : Array Value} (hw : Tb a0 Z) : (Jvm.Cond.instantiable "java/lang/StringBuilder" (4 : Nat)).before a0 Z = true := hw _ (List.mem_of_getElem? (i := 29) rfl)
theorem w47 {Z : State} {a0 : Array Value} (hw : Tb a0 Z) : (Jvm.Cond.lays "java/lang/StringBuilder" "java/lang/AbstractStringBuilder" "coder" "B").before a0 Z = true := hw _ (List.mem_of_getElem? (i := 47) rfl)
theorem w78 {Z : State} {a0 : Array Value} (hw : Tb a0 Z) : (Jvm.Cond.lays "java/lang/StringBuilder" "java/lang/AbstractStringBuilder" "count" "I").before a0 Z = true := hw _ (List.mem_of_getElem? (i := 78) rfl)
theorem d_jdk_68_method_2_code_17 : decode jdk_68_method_2_code 17 = .ok (.aload_n 0, 1) := by decide +kernel
theorem d_jdk_68_method_2_code_18 : decode jdk_68_method_2_code 18 = .ok (.iconst 0, 1) := by decide +kernel
theorem d_jdk_68_method_2_code_19 : decode jdk_68_method_2_code 19 = .ok (.putfield 22, 3) := by decide +kernel
theorem w46 {Z : State} {a0 : Array Value} (hw : Tb a0 Z) : (Jvm.Cond.fieldLink "java/lang/AbstractStringBuilder" (22 : Nat) "java/lang/AbstractStringBuilder" "coder" "B").before a0 Z = true := hw _ (List.mem_of_getElem? (i := 46) rfl)
theorem d_jdk_68_method_2_code_22 : decode jdk_68_method_2_code 22 = .ok (.goto 16, 3) := by decide +kernel
theorem d_jdk_68_method_2_code_38 : decode jdk_68_method_2_code 38 = .ok (.return_, 1) := by decide +kernel
theorem pl_java_lang_AbstractStringBuilder : plainName "java/lang/AbstractStringBuilder" = true := by first | (simp [plainName, overriddenIn]; done) | decide +kernel
set_option maxRecDepth 65536 in
set_option maxHeartbeats 40000000 in
theorem c_asbinit (l : Launch) (Z : State) (a0 : Array Value) (hw : Tb a0 Z) (hEW : EW Z a0 EL0) (n0 : Nat) (sb : Addr) (u1 : Value) (cs0 : Int32) (h0 : Heap) (O : Old Z n0 h0) (X_sb : Exa Z h0 sb "java/lang/StringBuilder") (F_sb_value : Fld Z h0 sb "java/lang/AbstractStringBuilder" "value" "[B" u1) (F_sb_coder : Fld Z h0 sb "java/lang/AbstractStringBuilder" "coder" "B" (.int 0)) (F_sb_count : Fld Z h0 sb "java/lang/AbstractStringBuilder" "count" "I" (.int 0)) (ga_sb : n0 ≤ sb) (SC : Sta Z Z.heap "java/lang/String" "COMPACT_STRINGS" "Z" (.int cs0)) (hcs : ¬ cs0 = 0) :
    Ct l Z EL0 n0 (⟨"java/lang/AbstractStringBuilder", "<init>", "(I)V"⟩ : MethodName) jdk_68_method_2_code 2 none ({ frames := 1, cells := 1, slots := 16, locals := 12 } : Room) #[(.ref sb), (.int (16 : Int32))] h0 [sb] (fun v h sf => ∃ d kd, v = none ∧ h0.size ≤ d ∧ Keep h0 h [sb] ∧ Sbd Z h sb d kd 16 [] (List.replicate 16 (.int 0)) ∧ sf d) := by
  refine Ct.of (a0 := a0) #[.val (.ref sb), .val (.int (16 : Int32))] hEW O (plainFor_of_name pl_java_lang_AbstractStringBuilder) (fun m => by first | (simp [entryFrame, mkF, argsToLocals, Value.category]; done) | rfl) ?_
  intro p_ e_ s_ m_ below_ meth_ c_ b_ T_ K hSP
  have KP := Keep.refl h0 [sb]
  have sf_sb := hSP sb (by simp)
  refine k_aloadN K d_jdk_68_method_2_code_0 (pc' := 1) rfl rfl rfl ?_
  refine k_initO K (w40 hw) (w17 hw) (w18 hw) d_jdk_68_method_2_code_1 (pc' := 4) rfl rfl (by decide) 0 (Nat.le_of_eq rfl) (by decide) ?_
  intro T1 K1
  refine k_getS K1 (w41 hw) Via.refl SC d_jdk_68_method_2_code_4 (pc' := 7) rfl ?_
  intro T2 K2
  refine k_if_eq K2 d_jdk_68_method_2_code_7 (by decide) (pc' := 25) (pc2 := 10) (by decide) rfl (fun q => absurd q hcs) (fun hc7 => ?_)
  refine k_aloadN K2 d_jdk_68_method_2_code_10 (pc' := 11) rfl rfl rfl ?_
  refine k_iloadN K2 d_jdk_68_method_2_code_11 (pc' := 12) rfl rfl ?_
  refine k_newarrayX K2 (aty := .byte) (z := (16 : Int32)) (w43 hw) (by decide) (cap := 16) (by decide) (by decide) d_jdk_68_method_2_code_12 (pc' := 14) rfl (by decide) (by decide) ?_
  intro T3 h3 a3 ka3 g3 K3 E3 tr3 sf_a3 V_a3 X_a3
  have ga_a3 : n0 ≤ a3 := own_old K2.old g3
  have sz_a3 : h0.size ≤ a3 := g3 ▸ KP.1
  have ne_sb_a3 : sb ≠ a3 := own_ne X_sb.lt g3
  replace sf_sb := tr3 sb X_sb.lt sf_sb
  replace X_sb := X_sb.ext E3
  replace F_sb_value := F_sb_value.ext E3
  replace F_sb_coder := F_sb_coder.ext E3
  replace F_sb_count := F_sb_count.ext E3
  replace KP := KP.ext E3
  replace V_a3 : Arv Z h3 a3 ka3 .byte (16 : Int32) (List.replicate 16 (.int (0 : Int32))) (.int (0 : Int32)) := V_a3.pad (pad_rep [] (.int (0 : Int32)) 16)
  replace X_a3 : Exa Z h3 a3 "[B" := X_a3
  refine k_putF K3 (w44 hw) Via.refl F_sb_value X_sb (Or.inl (w45 hw)) (w29 hw) (ty := (.array .byte)) (by decide) rfl rfl ga_sb sf_sb d_jdk_68_method_2_code_14 (pc' := 17) rfl ?_
  intro T4 h4 K4 W4 tr4
  have F4 := F_sb_value.same W4
  replace sf_sb := tr4 sb X_sb.lt sf_sb
  replace sf_a3 := tr4 a3 V_a3.lt sf_a3
  replace X_sb := X_sb.wr W4
  replace F_sb_coder := F_sb_coder.other W4 (Or.inr (slot_ne (Or.inl (w47 hw)) (Or.inl (w45 hw)) (by decide) (t := .byte) (t' := (.array .byte)) (by decide) (by decide)))
  replace F_sb_count := F_sb_count.other W4 (Or.inr (slot_ne (Or.inl (w78 hw)) (Or.inl (w45 hw)) (by decide) (t := .int) (t' := (.array .byte)) (by decide) (by decide)))
  replace V_a3 := V_a3.other W4 (Ne.symm ne_sb_a3)
  replace X_a3 := X_a3.wr W4
  replace KP := KP.wr W4 (Or.inl (by simp))
  replace F_sb_value := F4
  refine k_aloadN K4 d_jdk_68_method_2_code_17 (pc' := 18) rfl rfl rfl ?_
  refine k_iconst K4 (0 : Int32) d_jdk_68_method_2_code_18 (pc' := 19) rfl rfl ?_
  refine k_putF K4 (w46 hw) Via.refl F_sb_coder X_sb (Or.inl (w47 hw)) (w29 hw) (ty := .byte) (by decide) rfl rfl ga_sb sf_sb d_jdk_68_method_2_code_19 (pc' := 22) rfl ?_
  intro T5 h5 K5 W5 tr5
  have F5 := F_sb_coder.same W5
  replace sf_sb := tr5 sb X_sb.lt sf_sb
  replace sf_a3 := tr5 a3 V_a3.lt sf_a3
  replace X_sb := X_sb.wr W5
  replace F_sb_value := F_sb_value.other W5 (Or.inr (slot_ne (Or.inl (w45 hw)) (Or.inl (w47 hw)) (by decide) (t := (.array .byte)) (t' := .byte) (by decide) (by decide)))
  replace F_sb_count := F_sb_count.other W5 (Or.inr (slot_ne (Or.inl (w78 hw)) (Or.inl (w47 hw)) (by decide) (t := .int) (t' := .byte) (by decide) (by decide)))
  replace V_a3 := V_a3.other W5 (Ne.symm ne_sb_a3)
  replace X_a3 := X_a3.wr W5
  replace KP := KP.wr W5 (Or.inl (by simp))
  replace F_sb_coder := F5
  refine k_goto K5 d_jdk_68_method_2_code_22 (by decide) (pc' := 38) (by decide) ?_
  exact k_return K5 d_jdk_68_method_2_code_38 rfl (fun sf ht => ⟨a3, ka3, rfl, sz_a3, KP, ⟨X_sb, F_sb_value, F_sb_coder, F_sb_count, V_a3, X_a3, rfl, by decide⟩, ht _ V_a3.lt sf_a3⟩) (by decide) (by decide)
theorem d_jdk_67_method_1_code_0 : decode jdk_67_method_1_code 0 = .ok (.aload_n 0, 1) := by decide +kernel
theorem d_jdk_67_method_1_code_1 : decode jdk_67_method_1_code 1 = .ok (.bipush 16, 2) := by decide +kernel
theorem d_jdk_67_method_1_code_3 : decode jdk_67_method_1_code 3 = .ok (.invokespecial 1, 3) := by decide +kernel
theorem w34 {Z : State} {a0 : Array Value} (hw : Tb a0 Z) : (Jvm.Cond.methodLink "java/lang/StringBuilder" (1 : Nat) ({ cls := "java/lang/AbstractStringBuilder", name := "<init>", desc := "(I)V" } : Jvm.MethodName)).before a0 Z = true := hw _ (List.mem_of_getElem? (i := 34) rfl)
theorem w38 {Z : State} {a0 : Array Value} (hw : Tb a0 Z) : (Jvm.Cond.initialized "java/lang/AbstractStringBuilder").before a0 Z = true := hw _ (List.mem_of_getElem? (i := 38) rfl)
theorem w39 {Z : State} {a0 : Array Value} (hw : Tb a0 Z) : (Jvm.Cond.code ({ cls := "java/lang/AbstractStringBuilder", name := "<init>", desc := "(I)V" } : Jvm.MethodName) jdk_68_method_2_code (2 : Nat) (Option.none : Option Jvm.ClassFile.FieldType)).before a0 Z = true := hw _ (List.mem_of_getElem? (i := 39) rfl)
theorem w35 {Z : State} {a0 : Array Value} (hw : Tb a0 Z) : (Jvm.Cond.instanceMethod ({ cls := "java/lang/AbstractStringBuilder", name := "<init>", desc := "(I)V" } : Jvm.MethodName)).before a0 Z = true := hw _ (List.mem_of_getElem? (i := 35) rfl)
theorem pd__I_V_653 : parseMethodDescriptor "(I)V" = some ⟨[.int], none⟩ := by decide +kernel
theorem d_jdk_67_method_1_code_6 : decode jdk_67_method_1_code 6 = .ok (.return_, 1) := by decide +kernel
theorem pl_java_lang_StringBuilder : plainName "java/lang/StringBuilder" = true := by first | (simp [plainName, overriddenIn]; done) | decide +kernel
set_option maxRecDepth 65536 in
set_option maxHeartbeats 40000000 in
theorem c_sbinit (l : Launch) (Z : State) (a0 : Array Value) (hw : Tb a0 Z) (hEW : EW Z a0 EL0) (n0 : Nat) (sb : Addr) (u1 : Value) (cs0 : Int32) (h0 : Heap) (O : Old Z n0 h0) (X_sb : Exa Z h0 sb "java/lang/StringBuilder") (F_sb_value : Fld Z h0 sb "java/lang/AbstractStringBuilder" "value" "[B" u1) (F_sb_coder : Fld Z h0 sb "java/lang/AbstractStringBuilder" "coder" "B" (.int 0)) (F_sb_count : Fld Z h0 sb "java/lang/AbstractStringBuilder" "count" "I" (.int 0)) (ga_sb : n0 ≤ sb) (SC : Sta Z Z.heap "java/lang/String" "COMPACT_STRINGS" "Z" (.int cs0)) (hcs : ¬ cs0 = 0) :
    Ct l Z EL0 n0 (⟨"java/lang/StringBuilder", "<init>", "()V"⟩ : MethodName) jdk_67_method_1_code 1 none ({ frames := 2, cells := 1, slots := 16, locals := 25 } : Room) #[(.ref sb)] h0 [sb] (fun v h sf => ∃ d kd, v = none ∧ h0.size ≤ d ∧ Keep h0 h [sb] ∧ Sbd Z h sb d kd 16 [] (List.replicate 16 (.int 0)) ∧ sf d) := by
  refine Ct.of (a0 := a0) #[.val (.ref sb)] hEW O (plainFor_of_name pl_java_lang_StringBuilder) (fun m => by first | (simp [entryFrame, mkF, argsToLocals, Value.category]; done) | rfl) ?_
  intro p_ e_ s_ m_ below_ meth_ c_ b_ T_ K hSP
  refine k_aloadN K d_jdk_67_method_1_code_0 (pc' := 1) rfl rfl rfl ?_
  refine k_bipush K (16 : Int32) d_jdk_67_method_1_code_1 (pc' := 3) rfl rfl ?_
  refine k_special K [(.int (16 : Int32))] [] 0 (w34 hw) (w35 hw) (w38 hw) (w39 hw) rfl rfl (by decide) pd__I_V_653 (c_asbinit l Z a0 hw hEW n0 sb u1 cs0 h0 K.old X_sb F_sb_value F_sb_coder F_sb_count ga_sb SC hcs) d_jdk_67_method_1_code_3 (fun x hx => by cases List.mem_singleton.mp hx; exact ⟨X_sb.lt, hSP sb (by simp)⟩) (pc' := 6) rfl rfl rfl rfl (Nat.le_of_eq rfl) (by decide) (by decide) (by decide) (by decide) ?_
  intro b6 T6 h6 L6 v6 K6 tr6 q6
  obtain ⟨d, kd, rfl, hd, KQ, B, sf_d⟩ := q6
  show Goes p_.tables e_ below_ _ (T6.setTop (mkF m_ 6 #[.val (.ref sb)] []))
  exact k_return K6 d_jdk_67_method_1_code_6 rfl (fun sf ht => ⟨d, kd, rfl, hd, KQ, B, ht _ B.2.2.2.2.1.lt sf_d⟩) (by decide) (by decide)
theorem d_jdk_29_method_65_code_0 : decode jdk_29_method_65_code 0 = .ok (.iload_n 0, 1) := by decide +kernel
theorem d_jdk_29_method_65_code_1 : decode jdk_29_method_65_code 1 = .ok (.iload_n 1, 1) := by decide +kernel
theorem d_jdk_29_method_65_code_2 : decode jdk_29_method_65_code 2 = .ok (.if_icmp .lt 7, 3) := by decide +kernel
theorem d_jdk_29_method_65_code_9 : decode jdk_29_method_65_code 9 = .ok (.iload_n 1, 1) := by decide +kernel
theorem d_jdk_29_method_65_code_10 : decode jdk_29_method_65_code 10 = .ok (.ireturn, 1) := by decide +kernel
theorem d_jdk_29_method_65_code_5 : decode jdk_29_method_65_code 5 = .ok (.iload_n 0, 1) := by decide +kernel
theorem d_jdk_29_method_65_code_6 : decode jdk_29_method_65_code 6 = .ok (.goto 4, 3) := by decide +kernel
set_option maxRecDepth 65536 in
set_option maxHeartbeats 40000000 in
theorem c_max (l : Launch) (Z : State) (a0 : Array Value) (hw : Tb a0 Z) (hEW : EW Z a0 EL0) (n0 : Nat) (i j : Int32) (h0 : Heap) (O : Old Z n0 h0)  :
    Ct l Z EL0 n0 (⟨"java/lang/Math", "max", "(II)I"⟩ : MethodName) jdk_29_method_65_code 2 (some .int) ({ frames := 0, cells := 0, slots := 0, locals := 0 } : Room) #[(.int i), (.int j)] h0 [] (Pu (some (.int (if i < j then j else i))) h0) := by
  refine Ct.of (a0 := a0) #[.val (.int i), .val (.int j)] hEW O (Jvm.Free.JP.mathPlain rfl (by decide +kernel)) (fun m => by first | (simp [entryFrame, mkF, argsToLocals, Value.category]; done) | rfl) ?_
  intro p_ e_ s_ m_ below_ meth_ c_ b_ T_ K hSP
  refine k_iloadN K d_jdk_29_method_65_code_0 (pc' := 1) rfl rfl ?_
  refine k_iloadN K d_jdk_29_method_65_code_1 (pc' := 2) rfl rfl ?_
  refine k_icmp_lt K d_jdk_29_method_65_code_2 (by decide) (pc' := 9) (pc2 := 5) (by decide) rfl (fun hc2 => ?_) (fun hc2 => ?_)
  · refine k_iloadN K d_jdk_29_method_65_code_9 (pc' := 10) rfl rfl ?_
    exact k_iret K d_jdk_29_method_65_code_10 rfl (fun sf ht => ⟨by rw [if_pos hc2], rfl⟩) (by decide) (by decide)
  · refine k_iloadN K d_jdk_29_method_65_code_5 (pc' := 6) rfl rfl ?_
    refine k_goto K d_jdk_29_method_65_code_6 (by decide) (pc' := 10) (by decide) ?_
    exact k_iret K d_jdk_29_method_65_code_10 rfl (fun sf ht => ⟨by rw [if_neg hc2], rfl⟩) (by decide) (by decide)
theorem d_jdk_29_method_69_code_0 : decode jdk_29_method_69_code 0 = .ok (.iload_n 0, 1) := by decide +kernel
theorem d_jdk_29_method_69_code_1 : decode jdk_29_method_69_code 1 = .ok (.iload_n 1, 1) := by decide +kernel
theorem d_jdk_29_method_69_code_2 : decode jdk_29_method_69_code 2 = .ok (.if_icmp .gt 7, 3) := by decide +kernel
theorem d_jdk_29_method_69_code_9 : decode jdk_29_method_69_code 9 = .ok (.iload_n 1, 1) := by decide +kernel
theorem d_jdk_29_method_69_code_10 : decode jdk_29_method_69_code 10 = .ok (.ireturn, 1) := by decide +kernel
theorem d_jdk_29_method_69_code_5 : decode jdk_29_method_69_code 5 = .ok (.iload_n 0, 1) := by decide +kernel
theorem d_jdk_29_method_69_code_6 : decode jdk_29_method_69_code 6 = .ok (.goto 4, 3) := by decide +kernel
set_option maxRecDepth 65536 in
set_option maxHeartbeats 40000000 in
theorem c_mmin (l : Launch) (Z : State) (a0 : Array Value) (hw : Tb a0 Z) (hEW : EW Z a0 EL0) (n0 : Nat) (i j : Int32) (h0 : Heap) (O : Old Z n0 h0)  :
    Ct l Z EL0 n0 (⟨"java/lang/Math", "min", "(II)I"⟩ : MethodName) jdk_29_method_69_code 2 (some .int) ({ frames := 0, cells := 0, slots := 0, locals := 0 } : Room) #[(.int i), (.int j)] h0 [] (Pu (some (.int (if j < i then j else i))) h0) := by
  refine Ct.of (a0 := a0) #[.val (.int i), .val (.int j)] hEW O (Jvm.Free.JP.mathPlain rfl (by decide +kernel)) (fun m => by first | (simp [entryFrame, mkF, argsToLocals, Value.category]; done) | rfl) ?_
  intro p_ e_ s_ m_ below_ meth_ c_ b_ T_ K hSP
  refine k_iloadN K d_jdk_29_method_69_code_0 (pc' := 1) rfl rfl ?_
  refine k_iloadN K d_jdk_29_method_69_code_1 (pc' := 2) rfl rfl ?_
  refine k_icmp_gt K d_jdk_29_method_69_code_2 (by decide) (pc' := 9) (pc2 := 5) (by decide) rfl (fun hc2 => ?_) (fun hc2 => ?_)
  · refine k_iloadN K d_jdk_29_method_69_code_9 (pc' := 10) rfl rfl ?_
    exact k_iret K d_jdk_29_method_69_code_10 rfl (fun sf ht => ⟨by rw [if_pos hc2], rfl⟩) (by decide) (by decide)
  · refine k_iloadN K d_jdk_29_method_69_code_5 (pc' := 6) rfl rfl ?_
    refine k_goto K d_jdk_29_method_69_code_6 (by decide) (pc' := 10) (by decide) ?_
    exact k_iret K d_jdk_29_method_69_code_10 rfl (fun sf ht => ⟨by rw [if_neg hc2], rfl⟩) (by decide) (by decide)
theorem d_jdk_48_method_27_code_0 : decode jdk_48_method_27_code 0 = .ok (.iload_n 0, 1) := by decide +kernel
theorem d_jdk_48_method_27_code_1 : decode jdk_48_method_27_code 1 = .ok (.iload_n 1, 1) := by decide +kernel
theorem d_jdk_48_method_27_code_2 : decode jdk_48_method_27_code 2 = .ok (.iload_n 2, 1) := by decide +kernel
theorem d_jdk_48_method_27_code_3 : decode jdk_48_method_27_code 3 = .ok (.invokestatic 194, 3) := by decide +kernel
theorem w214 {Z : State} {a0 : Array Value} (hw : Tb a0 Z) : (Jvm.Cond.methodLink "jdk/internal/util/ArraysSupport" (194 : Nat) ({ cls := "java/lang/Math", name := "max", desc := "(II)I" } : Jvm.MethodName)).before a0 Z = true := hw _ (List.mem_of_getElem? (i := 214) rfl)
theorem w3 {Z : State} {a0 : Array Value} (hw : Tb a0 Z) : (Jvm.Cond.initialized "java/lang/Math").before a0 Z = true := hw _ (List.mem_of_getElem? (i := 3) rfl)
theorem w4 {Z : State} {a0 : Array Value} (hw : Tb a0 Z) : (Jvm.Cond.code ({ cls := "java/lang/Math", name := "max", desc := "(II)I" } : Jvm.MethodName) jdk_29_method_65_code (2 : Nat) (Option.some Jvm.ClassFile.FieldType.int)).before a0 Z = true := hw _ (List.mem_of_getElem? (i := 4) rfl)
theorem w2 {Z : State} {a0 : Array Value} (hw : Tb a0 Z) : (Jvm.Cond.static ({ cls := "java/lang/Math", name := "max", desc := "(II)I" } : Jvm.MethodName)).before a0 Z = true := hw _ (List.mem_of_getElem? (i := 2) rfl)
theorem pd__II_I_934 : parseMethodDescriptor "(II)I" = some ⟨[.int, .int], some .int⟩ := by decide +kernel
theorem d_jdk_48_method_27_code_6 : decode jdk_48_method_27_code 6 = .ok (.iadd, 1) := by decide +kernel
theorem d_jdk_48_method_27_code_7 : decode jdk_48_method_27_code 7 = .ok (.istore_n 3, 1) := by decide +kernel
theorem d_jdk_48_method_27_code_8 : decode jdk_48_method_27_code 8 = .ok (.iconst 0, 1) := by decide +kernel
theorem d_jdk_48_method_27_code_9 : decode jdk_48_method_27_code 9 = .ok (.iload_n 3, 1) := by decide +kernel
theorem d_jdk_48_method_27_code_10 : decode jdk_48_method_27_code 10 = .ok (.if_icmp .ge 11, 3) := by decide +kernel
theorem d_jdk_48_method_27_code_13 : decode jdk_48_method_27_code 13 = .ok (.iload_n 3, 1) := by decide +kernel
theorem d_jdk_48_method_27_code_14 : decode jdk_48_method_27_code 14 = .ok (.ldc 200, 2) := by decide +kernel
theorem w215 {Z : State} {a0 : Array Value} (hw : Tb a0 Z) : (Jvm.Cond.constant "jdk/internal/util/ArraysSupport" (200 : Nat) (2147483639 : Int32)).before a0 Z = true := hw _ (List.mem_of_getElem? (i := 215) rfl)
theorem d_jdk_48_method_27_code_16 : decode jdk_48_method_27_code 16 = .ok (.if_icmp .gt 5, 3) := by decide +kernel
theorem d_jdk_48_method_27_code_19 : decode jdk_48_method_27_code 19 = .ok (.iload_n 3, 1) := by decide +kernel
theorem d_jdk_48_method_27_code_20 : decode jdk_48_method_27_code 20 = .ok (.ireturn, 1) := by decide +kernel
theorem pl_jdk_internal_util_ArraysSupport : plainName "jdk/internal/util/ArraysSupport" = true := by first | (simp [plainName, overriddenIn]; done) | decide +kernel
set_option maxRecDepth 65536 in
set_option maxHeartbeats 40000000 in
theorem c_newLength (l : Launch) (Z : State) (a0 : Array Value) (hw : Tb a0 Z) (hEW : EW Z a0 EL0) (n0 : Nat) (o g1 g2 : Int32) (r : Nat) (h0 : Heap) (O : Old Z n0 h0) (hr : (o + (if g1 < g2 then g2 else g1)).toInt = r) (h0_ : 0 < r) (h1_ : r ≤ 100000) :
    Ct l Z EL0 n0 (⟨"jdk/internal/util/ArraysSupport", "newLength", "(III)I"⟩ : MethodName) jdk_48_method_27_code 4 (some .int) ({ frames := 1, cells := 0, slots := 0, locals := 14 } : Room) #[(.int o), (.int g1), (.int g2)] h0 [] (Pu (some (.int (o + (if g1 < g2 then g2 else g1)))) h0) := by
  refine Ct.of (a0 := a0) #[.val (.int o), .val (.int g1), .val (.int g2), .unset] hEW O (plainFor_of_name pl_jdk_internal_util_ArraysSupport) (fun m => by first | (simp [entryFrame, mkF, argsToLocals, Value.category]; done) | rfl) ?_
  intro p_ e_ s_ m_ below_ meth_ c_ b_ T_ K hSP
  refine k_iloadN K d_jdk_48_method_27_code_0 (pc' := 1) rfl rfl ?_
  refine k_iloadN K d_jdk_48_method_27_code_1 (pc' := 2) rfl rfl ?_
  refine k_iloadN K d_jdk_48_method_27_code_2 (pc' := 3) rfl rfl ?_
  refine k_staticP K [(.int g1), (.int g2)] [(.int o)] 1 (w214 hw) (w2 hw) (w3 hw) (w4 hw) (by decide) pd__II_I_934 (c_max l Z a0 hw hEW n0 g1 g2 h0 K.old ) d_jdk_48_method_27_code_3 nofun (pc' := 6) rfl rfl rfl rfl (Nat.le_of_eq rfl) (by decide) (by decide) (by decide) (by decide) ?_
  intro b7 T7 L7 K7 tr7
  show Goes p_.tables e_ below_ _ (T7.setTop (mkF m_ 6 #[.val (.int o), .val (.int g1), .val (.int g2), .unset] [(.int (if g1 < g2 then g2 else g1)), (.int o)]))
  refine k_iadd K7 d_jdk_48_method_27_code_6 (pc' := 7) rfl ?_
  refine k_istoreN K7 d_jdk_48_method_27_code_7 (pc' := 8) (L' := #[.val (.int o), .val (.int g1), .val (.int g2), .val (.int (o + (if g1 < g2 then g2 else g1)))]) rfl rfl ?_
  refine k_iconst K7 (0 : Int32) d_jdk_48_method_27_code_8 (pc' := 9) rfl rfl ?_
  refine k_iloadN K7 d_jdk_48_method_27_code_9 (pc' := 10) rfl rfl ?_
  refine k_icmp_ge K7 d_jdk_48_method_27_code_10 (by decide) (pc' := 21) (pc2 := 13) (by decide) rfl (fun q => absurd (by rw [own_i32, own_0, hr]; omega) q) (fun hc10 => ?_)
  refine k_iloadN K7 d_jdk_48_method_27_code_13 (pc' := 14) rfl rfl ?_
  refine k_ldcI K7 (w215 hw) d_jdk_48_method_27_code_14 (pc' := 16) rfl ?_
  refine k_icmp_gt K7 d_jdk_48_method_27_code_16 (by decide) (pc' := 21) (pc2 := 19) (by decide) rfl (fun q => absurd q (by rw [own_i32, hr, show (2147483639 : Int32).toInt = 2147483639 by decide]; omega)) (fun hc16 => ?_)
  refine k_iloadN K7 d_jdk_48_method_27_code_19 (pc' := 20) rfl rfl ?_
  exact k_iret K7 d_jdk_48_method_27_code_20 rfl (fun sf ht => ⟨rfl, rfl⟩) (by decide) (by decide)
theorem d_jdk_68_method_10_code_0 : decode jdk_68_method_10_code 0 = .ok (.aload_n 0, 1) := by decide +kernel
theorem d_jdk_68_method_10_code_1 : decode jdk_68_method_10_code 1 = .ok (.getfield 15, 3) := by decide +kernel
theorem d_jdk_68_method_10_code_4 : decode jdk_68_method_10_code 4 = .ok (.arraylength, 1) := by decide +kernel
theorem d_jdk_68_method_10_code_5 : decode jdk_68_method_10_code 5 = .ok (.istore_n 2, 1) := by decide +kernel
theorem d_jdk_68_method_10_code_6 : decode jdk_68_method_10_code 6 = .ok (.iload_n 1, 1) := by decide +kernel
theorem d_jdk_68_method_10_code_7 : decode jdk_68_method_10_code 7 = .ok (.aload_n 0, 1) := by decide +kernel
theorem d_jdk_68_method_10_code_8 : decode jdk_68_method_10_code 8 = .ok (.getfield 22, 3) := by decide +kernel
theorem d_jdk_68_method_10_code_11 : decode jdk_68_method_10_code 11 = .ok (.ishl, 1) := by decide +kernel
theorem d_jdk_68_method_10_code_12 : decode jdk_68_method_10_code 12 = .ok (.istore_n 3, 1) := by decide +kernel
theorem d_jdk_68_method_10_code_13 : decode jdk_68_method_10_code 13 = .ok (.iload_n 3, 1) := by decide +kernel
theorem d_jdk_68_method_10_code_14 : decode jdk_68_method_10_code 14 = .ok (.iload_n 2, 1) := by decide +kernel
theorem d_jdk_68_method_10_code_15 : decode jdk_68_method_10_code 15 = .ok (.isub, 1) := by decide +kernel
theorem d_jdk_68_method_10_code_16 : decode jdk_68_method_10_code 16 = .ok (.istore 4, 2) := by decide +kernel
theorem d_jdk_68_method_10_code_18 : decode jdk_68_method_10_code 18 = .ok (.iload_n 2, 1) := by decide +kernel
theorem d_jdk_68_method_10_code_19 : decode jdk_68_method_10_code 19 = .ok (.iload 4, 2) := by decide +kernel
theorem d_jdk_68_method_10_code_21 : decode jdk_68_method_10_code 21 = .ok (.iload_n 2, 1) := by decide +kernel
theorem d_jdk_68_method_10_code_22 : decode jdk_68_method_10_code 22 = .ok (.iconst 2, 1) := by decide +kernel
theorem d_jdk_68_method_10_code_23 : decode jdk_68_method_10_code 23 = .ok (.aload_n 0, 1) := by decide +kernel
theorem d_jdk_68_method_10_code_24 : decode jdk_68_method_10_code 24 = .ok (.getfield 22, 3) := by decide +kernel
theorem d_jdk_68_method_10_code_27 : decode jdk_68_method_10_code 27 = .ok (.ishl, 1) := by decide +kernel
theorem d_jdk_68_method_10_code_28 : decode jdk_68_method_10_code 28 = .ok (.iadd, 1) := by decide +kernel
theorem d_jdk_68_method_10_code_29 : decode jdk_68_method_10_code 29 = .ok (.invokestatic 114, 3) := by decide +kernel
theorem w210 {Z : State} {a0 : Array Value} (hw : Tb a0 Z) : (Jvm.Cond.methodLink "java/lang/AbstractStringBuilder" (114 : Nat) ({ cls := "jdk/internal/util/ArraysSupport", name := "newLength", desc := "(III)I" } : Jvm.MethodName)).before a0 Z = true := hw _ (List.mem_of_getElem? (i := 210) rfl)
theorem w212 {Z : State} {a0 : Array Value} (hw : Tb a0 Z) : (Jvm.Cond.initialized "jdk/internal/util/ArraysSupport").before a0 Z = true := hw _ (List.mem_of_getElem? (i := 212) rfl)
theorem w213 {Z : State} {a0 : Array Value} (hw : Tb a0 Z) : (Jvm.Cond.code ({ cls := "jdk/internal/util/ArraysSupport", name := "newLength", desc := "(III)I" } : Jvm.MethodName) jdk_48_method_27_code (4 : Nat) (Option.some Jvm.ClassFile.FieldType.int)).before a0 Z = true := hw _ (List.mem_of_getElem? (i := 213) rfl)
theorem w211 {Z : State} {a0 : Array Value} (hw : Tb a0 Z) : (Jvm.Cond.static ({ cls := "jdk/internal/util/ArraysSupport", name := "newLength", desc := "(III)I" } : Jvm.MethodName)).before a0 Z = true := hw _ (List.mem_of_getElem? (i := 211) rfl)
theorem pd__III_I_1340 : parseMethodDescriptor "(III)I" = some ⟨[.int, .int, .int], some .int⟩ := by decide +kernel
theorem d_jdk_68_method_10_code_32 : decode jdk_68_method_10_code 32 = .ok (.istore 5, 2) := by decide +kernel
theorem d_jdk_68_method_10_code_34 : decode jdk_68_method_10_code 34 = .ok (.iload 5, 2) := by decide +kernel
theorem d_jdk_68_method_10_code_36 : decode jdk_68_method_10_code 36 = .ok (.ldc 39, 2) := by decide +kernel
theorem w216 {Z : State} {a0 : Array Value} (hw : Tb a0 Z) : (Jvm.Cond.constant "java/lang/AbstractStringBuilder" (39 : Nat) (2147483647 : Int32)).before a0 Z = true := hw _ (List.mem_of_getElem? (i := 216) rfl)
theorem d_jdk_68_method_10_code_38 : decode jdk_68_method_10_code 38 = .ok (.if_icmp .ne 13, 3) := by decide +kernel
theorem d_jdk_68_method_10_code_51 : decode jdk_68_method_10_code 51 = .ok (.iload 5, 2) := by decide +kernel
theorem d_jdk_68_method_10_code_53 : decode jdk_68_method_10_code 53 = .ok (.aload_n 0, 1) := by decide +kernel
theorem d_jdk_68_method_10_code_54 : decode jdk_68_method_10_code 54 = .ok (.getfield 22, 3) := by decide +kernel
theorem d_jdk_68_method_10_code_57 : decode jdk_68_method_10_code 57 = .ok (.ishr, 1) := by decide +kernel
theorem d_jdk_68_method_10_code_58 : decode jdk_68_method_10_code 58 = .ok (.ireturn, 1) := by decide +kernel
set_option maxRecDepth 65536 in
set_option maxHeartbeats 40000000 in
theorem c_newCap (l : Launch) (Z : State) (a0 : Array Value) (hw : Tb a0 Z) (hEW : EW Z a0 EL0) (n0 : Nat) (sb d : Addr) (kd : ClassId) (cp : Int32) (xs : List Int32) (ys : List Value) (mi : Int32) (r : Nat) (h0 : Heap) (O : Old Z n0 h0) (B : Sbd Z h0 sb d kd cp xs ys) (hr : (cp + (if mi - cp < cp + 2 then cp + 2 else mi - cp)).toInt = r) (h0_ : 0 < r) (h1_ : r ≤ 100000) :
    Ct l Z EL0 n0 (⟨"java/lang/AbstractStringBuilder", "newCapacity", "(I)I"⟩ : MethodName) jdk_68_method_10_code 6 (some .int) ({ frames := 2, cells := 0, slots := 0, locals := 29 } : Room) #[(.ref sb), (.int mi)] h0 [] (Pu (some (.int (cp + (if mi - cp < cp + 2 then cp + 2 else mi - cp)))) h0) := by
  refine Ct.of (a0 := a0) #[.val (.ref sb), .val (.int mi), .unset, .unset, .unset, .unset] hEW O (plainFor_of_name pl_java_lang_AbstractStringBuilder) (fun m => by first | (simp [entryFrame, mkF, argsToLocals, Value.category]; done) | rfl) ?_
  intro p_ e_ s_ m_ below_ meth_ c_ b_ T_ K hSP
  obtain ⟨X_sb, F_sb_value, F_sb_coder, F_sb_count, V_d, X_d, hcp, hcb⟩ := B
  refine k_aloadN K d_jdk_68_method_10_code_0 (pc' := 1) rfl rfl rfl ?_
  refine k_getF K (w44 hw) Via.refl F_sb_value d_jdk_68_method_10_code_1 (pc' := 4) rfl ?_
  intro T8 K8
  refine k_len K8 V_d d_jdk_68_method_10_code_4 (pc' := 5) rfl ?_
  refine k_istoreN K8 d_jdk_68_method_10_code_5 (pc' := 6) (L' := #[.val (.ref sb), .val (.int mi), .val (.int cp), .unset, .unset, .unset]) rfl rfl ?_
  refine k_iloadN K8 d_jdk_68_method_10_code_6 (pc' := 7) rfl rfl ?_
  refine k_aloadN K8 d_jdk_68_method_10_code_7 (pc' := 8) rfl rfl rfl ?_
  refine k_getF K8 (w46 hw) Via.refl F_sb_coder d_jdk_68_method_10_code_8 (pc' := 11) rfl ?_
  intro T9 K9
  refine k_ishl K9 d_jdk_68_method_10_code_11 (pc' := 12) rfl ?_
  rw [own_shl0]
  refine k_istoreN K9 d_jdk_68_method_10_code_12 (pc' := 13) (L' := #[.val (.ref sb), .val (.int mi), .val (.int cp), .val (.int mi), .unset, .unset]) rfl rfl ?_
  refine k_iloadN K9 d_jdk_68_method_10_code_13 (pc' := 14) rfl rfl ?_
  refine k_iloadN K9 d_jdk_68_method_10_code_14 (pc' := 15) rfl rfl ?_
  refine k_isub K9 d_jdk_68_method_10_code_15 (pc' := 16) rfl ?_
  refine k_istore K9 d_jdk_68_method_10_code_16 (pc' := 18) (L' := #[.val (.ref sb), .val (.int mi), .val (.int cp), .val (.int mi), .val (.int (mi - cp)), .unset]) rfl rfl ?_
  refine k_iloadN K9 d_jdk_68_method_10_code_18 (pc' := 19) rfl rfl ?_
  refine k_iload K9 d_jdk_68_method_10_code_19 (pc' := 21) rfl rfl ?_
  refine k_iloadN K9 d_jdk_68_method_10_code_21 (pc' := 22) rfl rfl ?_
  refine k_iconst K9 (2 : Int32) d_jdk_68_method_10_code_22 (pc' := 23) rfl rfl ?_
  refine k_aloadN K9 d_jdk_68_method_10_code_23 (pc' := 24) rfl rfl rfl ?_
  refine k_getF K9 (w46 hw) Via.refl F_sb_coder d_jdk_68_method_10_code_24 (pc' := 27) rfl ?_
  intro T10 K10
  refine k_ishl K10 d_jdk_68_method_10_code_27 (pc' := 28) rfl ?_
  rw [own_shl0]
  refine k_iadd K10 d_jdk_68_method_10_code_28 (pc' := 29) rfl ?_
  refine k_staticP K10 [(.int cp), (.int (mi - cp)), (.int (cp + (2 : Int32)))] [] 0 (w210 hw) (w211 hw) (w212 hw) (w213 hw) (by decide) pd__III_I_1340 (c_newLength l Z a0 hw hEW n0 cp (mi - cp) (cp + 2) r h0 K10.old hr h0_ h1_) d_jdk_68_method_10_code_29 nofun (pc' := 32) rfl rfl rfl rfl (Nat.le_of_eq rfl) (by decide) (by decide) (by decide) (by decide) ?_
  intro b11 T11 L11 K11 tr11
  show Goes p_.tables e_ below_ _ (T11.setTop (mkF m_ 32 #[.val (.ref sb), .val (.int mi), .val (.int cp), .val (.int mi), .val (.int (mi - cp)), .unset] [(.int (cp + (if mi - cp < cp + 2 then cp + 2 else mi - cp)))]))
  refine k_istore K11 d_jdk_68_method_10_code_32 (pc' := 34) (L' := #[.val (.ref sb), .val (.int mi), .val (.int cp), .val (.int mi), .val (.int (mi - cp)), .val (.int (cp + (if mi - cp < cp + 2 then cp + 2 else mi - cp)))]) rfl rfl ?_
  refine k_iload K11 d_jdk_68_method_10_code_34 (pc' := 36) rfl rfl ?_
  refine k_ldcI K11 (w216 hw) d_jdk_68_method_10_code_36 (pc' := 38) rfl ?_
  refine k_icmp_ne K11 d_jdk_68_method_10_code_38 (by decide) (pc' := 51) (pc2 := 41) (by decide) rfl (fun hc38 => ?_) (fun q => absurd q (fun q => by have e := congrArg Int32.toInt q; rw [hr, show (2147483647 : Int32).toInt = 2147483647 by decide] at e; omega))
  refine k_iload K11 d_jdk_68_method_10_code_51 (pc' := 53) rfl rfl ?_
  refine k_aloadN K11 d_jdk_68_method_10_code_53 (pc' := 54) rfl rfl rfl ?_
  refine k_getF K11 (w46 hw) Via.refl F_sb_coder d_jdk_68_method_10_code_54 (pc' := 57) rfl ?_
  intro T12 K12
  refine k_ishr K12 d_jdk_68_method_10_code_57 (pc' := 58) rfl ?_
  rw [own_shr0]
  exact k_iret K12 d_jdk_68_method_10_code_58 rfl (fun sf ht => ⟨rfl, rfl⟩) (by decide) (by decide)
theorem d_jdk_65_method_121_code_0 : decode jdk_65_method_121_code 0 = .ok (.iload_n 1, 1) := by decide +kernel
theorem d_jdk_65_method_121_code_1 : decode jdk_65_method_121_code 1 = .ok (.aload_n 0, 1) := by decide +kernel
theorem d_jdk_65_method_121_code_2 : decode jdk_65_method_121_code 2 = .ok (.arraylength, 1) := by decide +kernel
theorem d_jdk_65_method_121_code_3 : decode jdk_65_method_121_code 3 = .ok (.if_icmp .ne 11, 3) := by decide +kernel
theorem d_jdk_65_method_121_code_14 : decode jdk_65_method_121_code 14 = .ok (.iload_n 1, 1) := by decide +kernel
theorem d_jdk_65_method_121_code_15 : decode jdk_65_method_121_code 15 = .ok (.newarray .byte, 2) := by decide +kernel
theorem d_jdk_65_method_121_code_17 : decode jdk_65_method_121_code 17 = .ok (.astore_n 2, 1) := by decide +kernel
theorem d_jdk_65_method_121_code_18 : decode jdk_65_method_121_code 18 = .ok (.aload_n 0, 1) := by decide +kernel
theorem d_jdk_65_method_121_code_19 : decode jdk_65_method_121_code 19 = .ok (.iconst 0, 1) := by decide +kernel
theorem d_jdk_65_method_121_code_20 : decode jdk_65_method_121_code 20 = .ok (.aload_n 2, 1) := by decide +kernel
theorem d_jdk_65_method_121_code_21 : decode jdk_65_method_121_code 21 = .ok (.iconst 0, 1) := by decide +kernel
theorem d_jdk_65_method_121_code_22 : decode jdk_65_method_121_code 22 = .ok (.aload_n 0, 1) := by decide +kernel
theorem d_jdk_65_method_121_code_23 : decode jdk_65_method_121_code 23 = .ok (.arraylength, 1) := by decide +kernel
theorem d_jdk_65_method_121_code_24 : decode jdk_65_method_121_code 24 = .ok (.iload_n 1, 1) := by decide +kernel
theorem d_jdk_65_method_121_code_25 : decode jdk_65_method_121_code 25 = .ok (.invokestatic 304, 3) := by decide +kernel
theorem w220 {Z : State} {a0 : Array Value} (hw : Tb a0 Z) : (Jvm.Cond.methodLink "java/util/Arrays" (304 : Nat) ({ cls := "java/lang/Math", name := "min", desc := "(II)I" } : Jvm.MethodName)).before a0 Z = true := hw _ (List.mem_of_getElem? (i := 220) rfl)
theorem w222 {Z : State} {a0 : Array Value} (hw : Tb a0 Z) : (Jvm.Cond.code ({ cls := "java/lang/Math", name := "min", desc := "(II)I" } : Jvm.MethodName) jdk_29_method_69_code (2 : Nat) (Option.some Jvm.ClassFile.FieldType.int)).before a0 Z = true := hw _ (List.mem_of_getElem? (i := 222) rfl)
theorem w221 {Z : State} {a0 : Array Value} (hw : Tb a0 Z) : (Jvm.Cond.static ({ cls := "java/lang/Math", name := "min", desc := "(II)I" } : Jvm.MethodName)).before a0 Z = true := hw _ (List.mem_of_getElem? (i := 221) rfl)
theorem d_jdk_65_method_121_code_28 : decode jdk_65_method_121_code 28 = .ok (.invokestatic 150, 3) := by decide +kernel
theorem w223 {Z : State} {a0 : Array Value} (hw : Tb a0 Z) : (Jvm.Cond.methodLink "java/util/Arrays" (150 : Nat) ({ cls := "java/lang/System", name := "arraycopy", desc := "(Ljava/lang/Object;ILjava/lang/Object;II)V" } : Jvm.MethodName)).before a0 Z = true := hw _ (List.mem_of_getElem? (i := 223) rfl)
theorem w103 {Z : State} {a0 : Array Value} (hw : Tb a0 Z) : (Jvm.Cond.native ({ cls := "java/lang/System", name := "arraycopy", desc := "(Ljava/lang/Object;ILjava/lang/Object;II)V" } : Jvm.MethodName)).before a0 Z = true := hw _ (List.mem_of_getElem? (i := 103) rfl)
theorem w101 {Z : State} {a0 : Array Value} (hw : Tb a0 Z) : (Jvm.Cond.static ({ cls := "java/lang/System", name := "arraycopy", desc := "(Ljava/lang/Object;ILjava/lang/Object;II)V" } : Jvm.MethodName)).before a0 Z = true := hw _ (List.mem_of_getElem? (i := 101) rfl)
theorem w102 {Z : State} {a0 : Array Value} (hw : Tb a0 Z) : (Jvm.Cond.initialized "java/lang/System").before a0 Z = true := hw _ (List.mem_of_getElem? (i := 102) rfl)
theorem d_jdk_65_method_121_code_31 : decode jdk_65_method_121_code 31 = .ok (.aload_n 2, 1) := by decide +kernel
theorem d_jdk_65_method_121_code_32 : decode jdk_65_method_121_code 32 = .ok (.areturn, 1) := by decide +kernel
theorem pl_java_util_Arrays : plainName "java/util/Arrays" = true := by first | (simp [plainName, overriddenIn]; done) | decide +kernel
set_option maxRecDepth 65536 in
set_option maxHeartbeats 40000000 in
theorem c_copyOf (l : Launch) (Z : State) (a0 : Array Value) (hw : Tb a0 Z) (hEW : EW Z a0 EL0) (n0 : Nat) (d : Addr) (kd : ClassId) (cp n : Int32) (cn nn : Nat) (vs : List Value) (h0 : Heap) (O : Old Z n0 h0) (hcp : cp.toInt = cn) (hvs : vs.length = cn) (hn : n.toInt = nn) (hlt : cn < nn) (hnn : nn ≤ 142) (V_d : Arv Z h0 d kd .byte cp vs (.int 0)) :
    Ct l Z EL0 n0 (⟨"java/util/Arrays", "copyOf", "([BI)[B"⟩ : MethodName) jdk_65_method_121_code 3 (some (.array .byte)) ({ frames := 1, cells := 1, slots := 142, locals := 18 } : Room) #[(.ref d), (.int n)] h0 [] (fun v h sf => ∃ t kt, v = some (.ref t) ∧ h0.size ≤ t ∧ Keep h0 h [] ∧ Arv Z h t kt .byte n (vs ++ List.replicate (nn - cn) (.int 0)) (.int 0) ∧ Exa Z h t "[B" ∧ sf t) := by
  refine Ct.of (a0 := a0) #[.val (.ref d), .val (.int n), .unset] hEW O (plainFor_of_name pl_java_util_Arrays) (fun m => by first | (simp [entryFrame, mkF, argsToLocals, Value.category]; done) | rfl) ?_
  intro p_ e_ s_ m_ below_ meth_ c_ b_ T_ K hSP
  have KP := Keep.refl h0 []
  refine k_iloadN K d_jdk_65_method_121_code_0 (pc' := 1) rfl rfl ?_
  refine k_aloadN K d_jdk_65_method_121_code_1 (pc' := 2) rfl rfl rfl ?_
  refine k_len K V_d d_jdk_65_method_121_code_2 (pc' := 3) rfl ?_
  refine k_icmp_ne K d_jdk_65_method_121_code_3 (by decide) (pc' := 14) (pc2 := 6) (by decide) rfl (fun hc3 => ?_) (fun q => absurd q (fun q => by have e := congrArg Int32.toInt q; rw [hcp, hn] at e; omega))
  refine k_iloadN K d_jdk_65_method_121_code_14 (pc' := 15) rfl rfl ?_
  refine k_newarrayX K (aty := .byte) (z := n) (w43 hw) (by rw [own_i32, hn, own_0]; omega) (cap := 142) (by rw [own_clamp hn]; exact hnn) (by decide) d_jdk_65_method_121_code_15 (pc' := 17) rfl (by decide) (by decide) ?_
  intro T13 h13 a13 ka13 g13 K13 E13 tr13 sf_a13 V_a13 X_a13
  have ga_a13 : n0 ≤ a13 := own_old K.old g13
  have sz_a13 : h0.size ≤ a13 := g13 ▸ KP.1
  have ne_d_a13 : d ≠ a13 := own_ne V_d.lt g13
  replace V_d := V_d.ext E13
  replace KP := KP.ext E13
  replace V_a13 : Arv Z h13 a13 ka13 .byte n (List.replicate nn (.int (0 : Int32))) (.int (0 : Int32)) := V_a13.pad (pad_rep [] (.int (0 : Int32)) nn)
  replace X_a13 : Exa Z h13 a13 "[B" := X_a13
  refine k_astoreN K13 d_jdk_65_method_121_code_17 (pc' := 18) (L' := #[.val (.ref d), .val (.int n), .val (.ref a13)]) rfl rfl rfl ?_
  refine k_aloadN K13 d_jdk_65_method_121_code_18 (pc' := 19) rfl rfl rfl ?_
  refine k_iconst K13 (0 : Int32) d_jdk_65_method_121_code_19 (pc' := 20) rfl rfl ?_
  refine k_aloadN K13 d_jdk_65_method_121_code_20 (pc' := 21) rfl rfl rfl ?_
  refine k_iconst K13 (0 : Int32) d_jdk_65_method_121_code_21 (pc' := 22) rfl rfl ?_
  refine k_aloadN K13 d_jdk_65_method_121_code_22 (pc' := 23) rfl rfl rfl ?_
  refine k_len K13 V_d d_jdk_65_method_121_code_23 (pc' := 24) rfl ?_
  refine k_iloadN K13 d_jdk_65_method_121_code_24 (pc' := 25) rfl rfl ?_
  refine k_staticP K13 [(.int cp), (.int n)] [(.int (0 : Int32)), (.ref a13), (.int (0 : Int32)), (.ref d)] 4 (w220 hw) (w221 hw) (w3 hw) (w222 hw) (by decide) pd__II_I_934 (c_mmin l Z a0 hw hEW n0 cp n h13 K13.old ) d_jdk_65_method_121_code_25 nofun (pc' := 28) rfl rfl rfl rfl (Nat.le_of_eq rfl) (by decide) (by decide) (by decide) (by decide) ?_
  intro b14 T14 L14 K14 tr14
  show Goes p_.tables e_ below_ _ (T14.setTop (mkF m_ 28 #[.val (.ref d), .val (.int n), .val (.ref a13)] [(.int (if n < cp then n else cp)), (.int (0 : Int32)), (.ref a13), (.int (0 : Int32)), (.ref d)]))
  replace sf_a13 := tr14 a13 V_a13.lt sf_a13
  rw [if_neg (by rw [own_i32, hcp, hn]; omega)]
  have cc := own_clamp hcp
  have cn_ := own_clamp hn
  refine k_arraycopy K14 (sp := (0 : Int32)) (dp := (0 : Int32)) (nn := cp) (us := vs) (w223 hw) (w103 hw) (w101 hw) (w102 hw) V_d V_a13 rfl (by decide) (by decide) (by rw [own_i32, hcp, own_0]; omega) (by rw [cc]; exact Nat.le_of_eq (Nat.zero_add _)) (by rw [cc, cn_]; exact Nat.le_trans (Nat.le_of_eq (Nat.zero_add _)) (Nat.le_of_lt hlt)) (by rw [cc, ← hvs, own_range0 vs vs.length (Nat.le_refl _), List.take_length]) (by rw [cc, List.length_replicate]; exact Nat.le_trans (Nat.le_of_eq (Nat.zero_add _)) (Nat.le_of_lt hlt)) ga_a13 sf_a13 d_jdk_65_method_121_code_28 (pc' := 31) rfl rfl (by decide) 0 (Nat.le_of_eq rfl) (by decide) ?_
  intro T15 h15 L15 K15 KQ15 tr15 V15
  replace sf_a13 := tr15 a13 V_a13.lt sf_a13
  replace V_d := V_d.keep KQ15 (ninS ne_d_a13 nin0)
  replace X_a13 := X_a13.keep KQ15
  replace KP := KP.trans KQ15 (allS (Or.inr sz_a13) all0)
  replace V_a13 := V15
  show Goes p_.tables e_ below_ _ (T15.setTop (mkF m_ 31 #[.val (.ref d), .val (.int n), .val (.ref a13)] []))
  replace V_a13 : Arv Z h15 a13 ka13 .byte n (vs ++ List.replicate (nn - cn) (.int 0)) (.int 0) := by
    have e1 : List.take (0 : Int32).toNatClampNeg (List.replicate nn (Value.int 0)) ++ vs ++ List.drop ((0 : Int32).toNatClampNeg + cp.toNatClampNeg) (List.replicate nn (Value.int 0)) = vs ++ List.replicate (nn - cn) (.int 0) := by
      rw [cc, show (0 : Int32).toNatClampNeg = 0 by decide]; simp
    rw [e1] at V_a13; exact V_a13
  refine k_aloadN K15 d_jdk_65_method_121_code_31 (pc' := 32) rfl rfl rfl ?_
  exact k_aret K15 d_jdk_65_method_121_code_32 rfl rfl rfl (fun sf ht => ⟨a13, ka13, rfl, sz_a13, KP, V_a13, X_a13, ht _ V_a13.lt sf_a13⟩) (by decide) (by decide)
theorem d_jdk_68_method_9_code_0 : decode jdk_68_method_9_code 0 = .ok (.aload_n 0, 1) := by decide +kernel
theorem d_jdk_68_method_9_code_1 : decode jdk_68_method_9_code 1 = .ok (.getfield 15, 3) := by decide +kernel
theorem d_jdk_68_method_9_code_4 : decode jdk_68_method_9_code 4 = .ok (.arraylength, 1) := by decide +kernel
theorem d_jdk_68_method_9_code_5 : decode jdk_68_method_9_code 5 = .ok (.aload_n 0, 1) := by decide +kernel
theorem d_jdk_68_method_9_code_6 : decode jdk_68_method_9_code 6 = .ok (.getfield 22, 3) := by decide +kernel
theorem d_jdk_68_method_9_code_9 : decode jdk_68_method_9_code 9 = .ok (.ishr, 1) := by decide +kernel
theorem d_jdk_68_method_9_code_10 : decode jdk_68_method_9_code 10 = .ok (.istore_n 2, 1) := by decide +kernel
theorem d_jdk_68_method_9_code_11 : decode jdk_68_method_9_code 11 = .ok (.iload_n 1, 1) := by decide +kernel
theorem d_jdk_68_method_9_code_12 : decode jdk_68_method_9_code 12 = .ok (.iload_n 2, 1) := by decide +kernel
theorem d_jdk_68_method_9_code_13 : decode jdk_68_method_9_code 13 = .ok (.isub, 1) := by decide +kernel
theorem d_jdk_68_method_9_code_14 : decode jdk_68_method_9_code 14 = .ok (.ifCond .le 24, 3) := by decide +kernel
theorem d_jdk_68_method_9_code_38 : decode jdk_68_method_9_code 38 = .ok (.return_, 1) := by decide +kernel
theorem d_jdk_68_method_9_code_17 : decode jdk_68_method_9_code 17 = .ok (.aload_n 0, 1) := by decide +kernel
theorem d_jdk_68_method_9_code_18 : decode jdk_68_method_9_code 18 = .ok (.aload_n 0, 1) := by decide +kernel
theorem d_jdk_68_method_9_code_19 : decode jdk_68_method_9_code 19 = .ok (.getfield 15, 3) := by decide +kernel
theorem d_jdk_68_method_9_code_22 : decode jdk_68_method_9_code 22 = .ok (.aload_n 0, 1) := by decide +kernel
theorem d_jdk_68_method_9_code_23 : decode jdk_68_method_9_code 23 = .ok (.iload_n 1, 1) := by decide +kernel
theorem d_jdk_68_method_9_code_24 : decode jdk_68_method_9_code 24 = .ok (.invokevirtual 104, 3) := by decide +kernel
theorem w205 {Z : State} {a0 : Array Value} (hw : Tb a0 Z) : (Jvm.Cond.methodLink "java/lang/AbstractStringBuilder" (104 : Nat) ({ cls := "java/lang/AbstractStringBuilder", name := "newCapacity", desc := "(I)I" } : Jvm.MethodName)).before a0 Z = true := hw _ (List.mem_of_getElem? (i := 205) rfl)
theorem w209 {Z : State} {a0 : Array Value} (hw : Tb a0 Z) : (Jvm.Cond.code ({ cls := "java/lang/AbstractStringBuilder", name := "newCapacity", desc := "(I)I" } : Jvm.MethodName) jdk_68_method_10_code (6 : Nat) (Option.some Jvm.ClassFile.FieldType.int)).before a0 Z = true := hw _ (List.mem_of_getElem? (i := 209) rfl)
theorem w207 {Z : State} {a0 : Array Value} (hw : Tb a0 Z) : (Jvm.Cond.privateMethod ({ cls := "java/lang/AbstractStringBuilder", name := "newCapacity", desc := "(I)I" } : Jvm.MethodName)).before a0 Z = true := hw _ (List.mem_of_getElem? (i := 207) rfl)
theorem w206 {Z : State} {a0 : Array Value} (hw : Tb a0 Z) : (Jvm.Cond.instanceMethod ({ cls := "java/lang/AbstractStringBuilder", name := "newCapacity", desc := "(I)I" } : Jvm.MethodName)).before a0 Z = true := hw _ (List.mem_of_getElem? (i := 206) rfl)
theorem w208 {Z : State} {a0 : Array Value} (hw : Tb a0 Z) : (Jvm.Cond.selects "java/lang/StringBuilder" ({ cls := "java/lang/AbstractStringBuilder", name := "newCapacity", desc := "(I)I" } : Jvm.MethodName) ({ cls := "java/lang/AbstractStringBuilder", name := "newCapacity", desc := "(I)I" } : Jvm.MethodName)).before a0 Z = true := hw _ (List.mem_of_getElem? (i := 208) rfl)
theorem pd__I_I_601 : parseMethodDescriptor "(I)I" = some ⟨[.int], some .int⟩ := by decide +kernel
theorem d_jdk_68_method_9_code_27 : decode jdk_68_method_9_code 27 = .ok (.aload_n 0, 1) := by decide +kernel
theorem d_jdk_68_method_9_code_28 : decode jdk_68_method_9_code 28 = .ok (.getfield 22, 3) := by decide +kernel
theorem d_jdk_68_method_9_code_31 : decode jdk_68_method_9_code 31 = .ok (.ishl, 1) := by decide +kernel
theorem w217 {Z : State} {a0 : Array Value} (hw : Tb a0 Z) : (Jvm.Cond.methodLink "java/lang/AbstractStringBuilder" (108 : Nat) ({ cls := "java/util/Arrays", name := "copyOf", desc := "([BI)[B" } : Jvm.MethodName)).before a0 Z = true := hw _ (List.mem_of_getElem? (i := 217) rfl)
theorem w157 {Z : State} {a0 : Array Value} (hw : Tb a0 Z) : (Jvm.Cond.initialized "java/util/Arrays").before a0 Z = true := hw _ (List.mem_of_getElem? (i := 157) rfl)
theorem w219 {Z : State} {a0 : Array Value} (hw : Tb a0 Z) : (Jvm.Cond.code ({ cls := "java/util/Arrays", name := "copyOf", desc := "([BI)[B" } : Jvm.MethodName) jdk_65_method_121_code (3 : Nat) (Option.some (Jvm.ClassFile.FieldType.array Jvm.ClassFile.FieldType.byte))).before a0 Z = true := hw _ (List.mem_of_getElem? (i := 219) rfl)
theorem d_jdk_68_method_9_code_32 : decode jdk_68_method_9_code 32 = .ok (.invokestatic 108, 3) := by decide +kernel
theorem w218 {Z : State} {a0 : Array Value} (hw : Tb a0 Z) : (Jvm.Cond.static ({ cls := "java/util/Arrays", name := "copyOf", desc := "([BI)[B" } : Jvm.MethodName)).before a0 Z = true := hw _ (List.mem_of_getElem? (i := 218) rfl)
theorem pd___BI__B_1925 : parseMethodDescriptor "([BI)[B" = some ⟨[(.array .byte), .int], some (.array .byte)⟩ := by decide +kernel
theorem d_jdk_68_method_9_code_35 : decode jdk_68_method_9_code 35 = .ok (.putfield 15, 3) := by decide +kernel
set_option maxRecDepth 65536 in
set_option maxHeartbeats 40000000 in
theorem c_ensure (l : Launch) (Z : State) (a0 : Array Value) (hw : Tb a0 Z) (hEW : EW Z a0 EL0) (n0 : Nat) (sb d : Addr) (kd : ClassId) (cp : Int32) (xs : List Int32) (ys : List Value) (mi : Int32) (mn : Nat) (h0 : Heap) (O : Old Z n0 h0) (B : Sbd Z h0 sb d kd cp xs ys) (ga_sb : n0 ≤ sb) (ga_d : n0 ≤ d) (ne_sb_d : sb ≠ d) (hmi : mi.toInt = mn) (hmn : mn ≤ 70) :
    Ct l Z EL0 n0 (⟨"java/lang/AbstractStringBuilder", "ensureCapacityInternal", "(I)V"⟩ : MethodName) jdk_68_method_9_code 3 none ({ frames := 3, cells := 1, slots := 142, locals := 48 } : Room) #[(.ref sb), (.int mi)] h0 [sb, d] (fun v h sf => ∃ d' kd' cp' ys', v = none ∧ Keep h0 h [sb] ∧ Sbd Z h sb d' kd' cp' xs ys' ∧ mn ≤ xs.length + ys'.length ∧ (d' = d ∨ h0.size ≤ d') ∧ sf d') := by
  refine Ct.of (a0 := a0) #[.val (.ref sb), .val (.int mi), .unset] hEW O (plainFor_of_name pl_java_lang_AbstractStringBuilder) (fun m => by first | (simp [entryFrame, mkF, argsToLocals, Value.category]; done) | rfl) ?_
  intro p_ e_ s_ m_ below_ meth_ c_ b_ T_ K hSP
  have B0 := B
  obtain ⟨X_sb, F_sb_value, F_sb_coder, F_sb_count, V_d, X_d, hcp, hcb⟩ := B
  have KP := Keep.refl h0 [sb]
  have sf_sb := hSP sb (by simp)
  have sf_d := hSP d (by simp)
  refine k_aloadN K d_jdk_68_method_9_code_0 (pc' := 1) rfl rfl rfl ?_
  refine k_getF K (w44 hw) Via.refl F_sb_value d_jdk_68_method_9_code_1 (pc' := 4) rfl ?_
  intro T16 K16
  refine k_len K16 V_d d_jdk_68_method_9_code_4 (pc' := 5) rfl ?_
  refine k_aloadN K16 d_jdk_68_method_9_code_5 (pc' := 6) rfl rfl rfl ?_
  refine k_getF K16 (w46 hw) Via.refl F_sb_coder d_jdk_68_method_9_code_6 (pc' := 9) rfl ?_
  intro T17 K17
  refine k_ishr K17 d_jdk_68_method_9_code_9 (pc' := 10) rfl ?_
  rw [own_shr0]
  refine k_istoreN K17 d_jdk_68_method_9_code_10 (pc' := 11) (L' := #[.val (.ref sb), .val (.int mi), .val (.int cp)]) rfl rfl ?_
  refine k_iloadN K17 d_jdk_68_method_9_code_11 (pc' := 12) rfl rfl ?_
  refine k_iloadN K17 d_jdk_68_method_9_code_12 (pc' := 13) rfl rfl ?_
  refine k_isub K17 d_jdk_68_method_9_code_13 (pc' := 14) rfl ?_
  have hsb_ : (mi - cp).toInt = (mn : Int) - (xs.length + ys.length : Nat) := by rw [XT.sub32 (by rw [hmi, hcp]; constructor <;> omega), hmi, hcp]
  refine k_if_le K17 d_jdk_68_method_9_code_14 (by decide) (pc' := 38) (pc2 := 17) (by decide) rfl (fun hc14 => ?_) (fun hc14 => ?_)
  · have hle : mn ≤ xs.length + ys.length := by rw [own_i32, own_0, hsb_] at hc14; omega
    exact k_return K17 d_jdk_68_method_9_code_38 rfl (fun sf ht => ⟨d, kd, cp, ys, rfl, KP, ⟨X_sb, F_sb_value, F_sb_coder, F_sb_count, V_d, X_d, hcp, hcb⟩, hle, Or.inl rfl, ht _ V_d.lt sf_d⟩) (by decide) (by decide)
  · have hlt : xs.length + ys.length < mn := by rw [own_i32, own_0, hsb_] at hc14; omega
    have hs1 := own_sub hmi hcp (Nat.le_of_lt hlt) (by omega)
    have hs2 := own_sum2 hcp own_2 (by omega)
    have hgr : ∃ r : Nat, (cp + (if mi - cp < cp + 2 then cp + 2 else mi - cp)).toInt = r ∧ xs.length + ys.length < r ∧ mn ≤ r ∧ r ≤ 142 := by
      by_cases q : mi - cp < cp + 2
      · rw [if_pos q]
        rw [own_i32, hs1, hs2] at q
        exact ⟨_, own_sum2 hcp hs2 (by omega), by omega, by omega, by omega⟩
      · rw [if_neg q]
        exact ⟨_, own_sum2 hcp hs1 (by omega), by omega, by omega, by omega⟩
    obtain ⟨r, hr, hr1, hr2, hr3⟩ := hgr
    refine k_aloadN K17 d_jdk_68_method_9_code_17 (pc' := 18) rfl rfl rfl ?_
    refine k_aloadN K17 d_jdk_68_method_9_code_18 (pc' := 19) rfl rfl rfl ?_
    refine k_getF K17 (w44 hw) Via.refl F_sb_value d_jdk_68_method_9_code_19 (pc' := 22) rfl ?_
    intro T18 K18
    refine k_aloadN K18 d_jdk_68_method_9_code_22 (pc' := 23) rfl rfl rfl ?_
    refine k_iloadN K18 d_jdk_68_method_9_code_23 (pc' := 24) rfl rfl ?_
    refine k_privateP K18 [(.int mi)] [(.ref d), (.ref sb)] 2 (w205 hw) (w206 hw) (own_priv2 K18 (w208 hw) (w206 hw) (w207 hw) (by decide)) (w207 hw) (w38 hw) (w209 hw) X_sb (by decide) pd__I_I_601 (c_newCap l Z a0 hw hEW n0 sb d kd cp xs ys mi r h0 K18.old B0 hr (by omega) (by omega)) d_jdk_68_method_9_code_24 nofun (pc' := 27) rfl rfl rfl rfl (Nat.le_of_eq rfl) (by decide) (by decide) (by decide) (by decide) ?_
    intro b19 T19 L19 K19 tr19
    show Goes p_.tables e_ below_ _ (T19.setTop (mkF m_ 27 #[.val (.ref sb), .val (.int mi), .val (.int cp)] [(.int (cp + (if mi - cp < cp + 2 then cp + 2 else mi - cp))), (.ref d), (.ref sb)]))
    replace sf_sb := tr19 sb X_sb.lt sf_sb
    replace sf_d := tr19 d V_d.lt sf_d
    generalize (cp + (if mi - cp < cp + 2 then cp + 2 else mi - cp)) = nw at hr ⊢
    refine k_aloadN K19 d_jdk_68_method_9_code_27 (pc' := 28) rfl rfl rfl ?_
    refine k_getF K19 (w46 hw) Via.refl F_sb_coder d_jdk_68_method_9_code_28 (pc' := 31) rfl ?_
    intro T20 K20
    refine k_ishl K20 d_jdk_68_method_9_code_31 (pc' := 32) rfl ?_
    rw [own_shl0]
    refine k_static K20 [(.ref d), (.int nw)] [(.ref sb)] 1 (w217 hw) (w218 hw) (w157 hw) (w219 hw) (by decide) pd___BI__B_1925 (c_copyOf l Z a0 hw hEW n0 d kd cp nw (xs.length + ys.length) r (xs.map Value.int ++ ys) h0 K20.old hcp (by simp) hr hr1 hr3 V_d) d_jdk_68_method_9_code_32 nofun (pc' := 35) rfl rfl rfl rfl (Nat.le_of_eq rfl) (by decide) (by decide) (by decide) (by decide) ?_
    intro b21 T21 h21 L21 v21 K21 tr21 q21
    obtain ⟨t, kt, rfl, hd, KQ, V_t, X_t, sf_t⟩ := q21
    have ga_t : n0 ≤ t := Nat.le_trans (own_n0 K20.old) hd
    have sz_t : h0.size ≤ t := Nat.le_trans KP.1 hd
    have ne_sb_t : sb ≠ t := own_ne2 X_sb.lt hd
    have ne_d_t : d ≠ t := own_ne2 V_d.lt hd
    replace sf_sb := tr21 sb X_sb.lt sf_sb
    replace sf_d := tr21 d V_d.lt sf_d
    replace X_sb := X_sb.keep KQ
    replace F_sb_value := F_sb_value.keep KQ nin0
    replace F_sb_coder := F_sb_coder.keep KQ nin0
    replace F_sb_count := F_sb_count.keep KQ nin0
    replace V_d := V_d.keep KQ nin0
    replace X_d := X_d.keep KQ
    replace KP := KP.trans KQ all0
    show Goes p_.tables e_ below_ _ (T21.setTop (mkF m_ 35 #[.val (.ref sb), .val (.int mi), .val (.int cp)] [(.ref t), (.ref sb)]))
    refine k_putF K21 (w44 hw) Via.refl F_sb_value X_sb (Or.inl (w45 hw)) (w29 hw) (ty := (.array .byte)) (by decide) rfl rfl ga_sb sf_sb d_jdk_68_method_9_code_35 (pc' := 38) rfl ?_
    intro T22 h22 K22 W22 tr22
    have F22 := F_sb_value.same W22
    replace sf_sb := tr22 sb X_sb.lt sf_sb
    replace sf_d := tr22 d V_d.lt sf_d
    replace sf_t := tr22 t V_t.lt sf_t
    replace X_sb := X_sb.wr W22
    replace F_sb_coder := F_sb_coder.other W22 (Or.inr (slot_ne (Or.inl (w47 hw)) (Or.inl (w45 hw)) (by decide) (t := .byte) (t' := (.array .byte)) (by decide) (by decide)))
    replace F_sb_count := F_sb_count.other W22 (Or.inr (slot_ne (Or.inl (w78 hw)) (Or.inl (w45 hw)) (by decide) (t := .int) (t' := (.array .byte)) (by decide) (by decide)))
    replace V_d := V_d.other W22 (Ne.symm ne_sb_d)
    replace X_d := X_d.wr W22
    replace V_t := V_t.other W22 (Ne.symm ne_sb_t)
    replace X_t := X_t.wr W22
    replace KP := KP.wr W22 (Or.inl (by simp))
    replace F_sb_value := F22
    rw [List.append_assoc] at V_t
    exact k_return K22 d_jdk_68_method_9_code_38 rfl (fun sf ht => ⟨t, kt, nw, ys ++ List.replicate (r - (xs.length + ys.length)) (.int 0), rfl, KP, ⟨X_sb, F_sb_value, F_sb_coder, F_sb_count, V_t, X_t, by rw [hr, List.length_append, List.length_replicate]; omega, by rw [List.length_append, List.length_replicate]; omega⟩, by rw [List.length_append, List.length_replicate]; omega, Or.inr sz_t, ht _ V_t.lt sf_t⟩) (by decide) (by decide)
theorem d_jdk_42_method_152_code_0 : decode jdk_42_method_152_code 0 = .ok (.getstatic 38, 3) := by decide +kernel
theorem w75 {Z : State} {a0 : Array Value} (hw : Tb a0 Z) : (Jvm.Cond.fieldLink "java/lang/String" (38 : Nat) "java/lang/String" "COMPACT_STRINGS" "Z").before a0 Z = true := hw _ (List.mem_of_getElem? (i := 75) rfl)
theorem d_jdk_42_method_152_code_3 : decode jdk_42_method_152_code 3 = .ok (.ifCond .eq 10, 3) := by decide +kernel
theorem d_jdk_42_method_152_code_6 : decode jdk_42_method_152_code 6 = .ok (.aload_n 0, 1) := by decide +kernel
theorem d_jdk_42_method_152_code_7 : decode jdk_42_method_152_code 7 = .ok (.getfield 15, 3) := by decide +kernel
theorem w76 {Z : State} {a0 : Array Value} (hw : Tb a0 Z) : (Jvm.Cond.fieldLink "java/lang/String" (15 : Nat) "java/lang/String" "coder" "B").before a0 Z = true := hw _ (List.mem_of_getElem? (i := 76) rfl)
theorem d_jdk_42_method_152_code_10 : decode jdk_42_method_152_code 10 = .ok (.goto 4, 3) := by decide +kernel
theorem d_jdk_42_method_152_code_14 : decode jdk_42_method_152_code 14 = .ok (.ireturn, 1) := by decide +kernel
theorem pl_java_lang_String : plainName "java/lang/String" = true := by first | (simp [plainName, overriddenIn]; done) | decide +kernel
set_option maxRecDepth 65536 in
set_option maxHeartbeats 40000000 in
theorem c_coder (l : Launch) (Z : State) (a0 : Array Value) (hw : Tb a0 Z) (hEW : EW Z a0 EL0) (n0 : Nat) (a b : Addr) (k : ClassId) (cd z : Int32) (vs : List Value) (cs0 : Int32) (h0 : Heap) (O : Old Z n0 h0) (S : Str Z h0 a b k cd z vs) (hcd : cd = 0 ∨ cd = 1) (SC : Sta Z Z.heap "java/lang/String" "COMPACT_STRINGS" "Z" (.int cs0)) (hcs : ¬ cs0 = 0) :
    Ct l Z EL0 n0 (⟨"java/lang/String", "coder", "()B"⟩ : MethodName) jdk_42_method_152_code 1 (some .byte) ({ frames := 0, cells := 0, slots := 0, locals := 0 } : Room) #[(.ref a)] h0 [] (Pu (some (.int cd)) h0) := by
  refine Ct.of (a0 := a0) #[.val (.ref a)] hEW O (plainFor_of_name pl_java_lang_String) (fun m => by first | (simp [entryFrame, mkF, argsToLocals, Value.category]; done) | rfl) ?_
  intro p_ e_ s_ m_ below_ meth_ c_ b_ T_ K hSP
  refine k_getS K (w75 hw) Via.refl SC d_jdk_42_method_152_code_0 (pc' := 3) rfl ?_
  intro T23 K23
  refine k_if_eq K23 d_jdk_42_method_152_code_3 (by decide) (pc' := 13) (pc2 := 6) (by decide) rfl (fun q => absurd q hcs) (fun hc3 => ?_)
  refine k_aloadN K23 d_jdk_42_method_152_code_6 (pc' := 7) rfl rfl rfl ?_
  refine k_getF K23 (w76 hw) Via.refl S.2.1 d_jdk_42_method_152_code_7 (pc' := 10) rfl ?_
  intro T24 K24
  refine k_goto K24 d_jdk_42_method_152_code_10 (by decide) (pc' := 14) (by decide) ?_
  exact k_nret K24 d_jdk_42_method_152_code_14 rfl (by simp) (by rcases hcd with rfl | rfl <;> rfl) (fun sf ht => ⟨rfl, rfl⟩) (by decide) (by decide)
theorem d_jdk_42_method_54_code_0 : decode jdk_42_method_54_code 0 = .ok (.aload_n 0, 1) := by decide +kernel
theorem d_jdk_42_method_54_code_1 : decode jdk_42_method_54_code 1 = .ok (.getfield 9, 3) := by decide +kernel
theorem w69 {Z : State} {a0 : Array Value} (hw : Tb a0 Z) : (Jvm.Cond.fieldLink "java/lang/String" (9 : Nat) "java/lang/String" "value" "[B").before a0 Z = true := hw _ (List.mem_of_getElem? (i := 69) rfl)
theorem d_jdk_42_method_54_code_4 : decode jdk_42_method_54_code 4 = .ok (.arraylength, 1) := by decide +kernel
theorem d_jdk_42_method_54_code_5 : decode jdk_42_method_54_code 5 = .ok (.aload_n 0, 1) := by decide +kernel
theorem d_jdk_42_method_54_code_6 : decode jdk_42_method_54_code 6 = .ok (.invokevirtual 335, 3) := by decide +kernel
theorem w70 {Z : State} {a0 : Array Value} (hw : Tb a0 Z) : (Jvm.Cond.methodLink "java/lang/String" (335 : Nat) ({ cls := "java/lang/String", name := "coder", desc := "()B" } : Jvm.MethodName)).before a0 Z = true := hw _ (List.mem_of_getElem? (i := 70) rfl)
theorem w42 {Z : State} {a0 : Array Value} (hw : Tb a0 Z) : (Jvm.Cond.initialized "java/lang/String").before a0 Z = true := hw _ (List.mem_of_getElem? (i := 42) rfl)
theorem w74 {Z : State} {a0 : Array Value} (hw : Tb a0 Z) : (Jvm.Cond.code ({ cls := "java/lang/String", name := "coder", desc := "()B" } : Jvm.MethodName) jdk_42_method_152_code (1 : Nat) (Option.some Jvm.ClassFile.FieldType.byte)).before a0 Z = true := hw _ (List.mem_of_getElem? (i := 74) rfl)
theorem w73 {Z : State} {a0 : Array Value} (hw : Tb a0 Z) : (Jvm.Cond.selects "java/lang/String" ({ cls := "java/lang/String", name := "coder", desc := "()B" } : Jvm.MethodName) ({ cls := "java/lang/String", name := "coder", desc := "()B" } : Jvm.MethodName)).before a0 Z = true := hw _ (List.mem_of_getElem? (i := 73) rfl)
theorem w71 {Z : State} {a0 : Array Value} (hw : Tb a0 Z) : (Jvm.Cond.declares ({ cls := "java/lang/String", name := "coder", desc := "()B" } : Jvm.MethodName)).before a0 Z = true := hw _ (List.mem_of_getElem? (i := 71) rfl)
theorem w72 {Z : State} {a0 : Array Value} (hw : Tb a0 Z) : (Jvm.Cond.instanceMethod ({ cls := "java/lang/String", name := "coder", desc := "()B" } : Jvm.MethodName)).before a0 Z = true := hw _ (List.mem_of_getElem? (i := 72) rfl)
theorem pd___B_320 : parseMethodDescriptor "()B" = some ⟨[], some .byte⟩ := by decide +kernel
theorem d_jdk_42_method_54_code_9 : decode jdk_42_method_54_code 9 = .ok (.ishr, 1) := by decide +kernel
theorem d_jdk_42_method_54_code_10 : decode jdk_42_method_54_code 10 = .ok (.ireturn, 1) := by decide +kernel
set_option maxRecDepth 65536 in
set_option maxHeartbeats 40000000 in
theorem c_length (l : Launch) (Z : State) (a0 : Array Value) (hw : Tb a0 Z) (hEW : EW Z a0 EL0) (n0 : Nat) (a b : Addr) (k : ClassId) (cd z : Int32) (vs : List Value) (cs0 : Int32) (h0 : Heap) (O : Old Z n0 h0) (S : Str Z h0 a b k cd z vs) (hcd : cd = 0 ∨ cd = 1) (SC : Sta Z Z.heap "java/lang/String" "COMPACT_STRINGS" "Z" (.int cs0)) (hcs : ¬ cs0 = 0) :
    Ct l Z EL0 n0 (⟨"java/lang/String", "length", "()I"⟩ : MethodName) jdk_42_method_54_code 1 (some .int) ({ frames := 1, cells := 0, slots := 0, locals := 13 } : Room) #[(.ref a)] h0 [] (Pu (some (.int (z >>> (cd &&& 31)))) h0) := by
  refine Ct.of (a0 := a0) #[.val (.ref a)] hEW O (plainFor_of_name pl_java_lang_String) (fun m => by first | (simp [entryFrame, mkF, argsToLocals, Value.category]; done) | rfl) ?_
  intro p_ e_ s_ m_ below_ meth_ c_ b_ T_ K hSP
  refine k_aloadN K d_jdk_42_method_54_code_0 (pc' := 1) rfl rfl rfl ?_
  refine k_getF K (w69 hw) Via.refl S.2.2.1 d_jdk_42_method_54_code_1 (pc' := 4) rfl ?_
  intro T25 K25
  refine k_len K25 S.2.2.2 d_jdk_42_method_54_code_4 (pc' := 5) rfl ?_
  refine k_aloadN K25 d_jdk_42_method_54_code_5 (pc' := 6) rfl rfl rfl ?_
  refine k_virtualP K25 [] [(.int z)] 1 (w70 hw) (w71 hw) (w72 hw) (w73 hw) (w42 hw) (w74 hw) (notFace_of_selects (args := #[]) (mvT K25.hZ (w73 hw))) rfl (by decide) S.1 (by decide) pd___B_320 (c_coder l Z a0 hw hEW n0 a b k cd z vs cs0 h0 K25.old S hcd SC hcs) d_jdk_42_method_54_code_6 nofun (pc' := 9) rfl rfl rfl rfl (Nat.le_of_eq rfl) (by decide) (by decide) (by decide) (by decide) ?_
  intro b26 T26 L26 K26 tr26
  show Goes p_.tables e_ below_ _ (T26.setTop (mkF m_ 9 #[.val (.ref a)] [(.int cd), (.int z)]))
  refine k_ishr K26 d_jdk_42_method_54_code_9 (pc' := 10) rfl ?_
  exact k_iret K26 d_jdk_42_method_54_code_10 rfl (fun sf ht => ⟨rfl, rfl⟩) (by decide) (by decide)
theorem d_jdk_42_method_147_code_0 : decode jdk_42_method_147_code 0 = .ok (.aload_n 0, 1) := by decide +kernel
theorem d_jdk_42_method_147_code_1 : decode jdk_42_method_147_code 1 = .ok (.invokevirtual 335, 3) := by decide +kernel
theorem d_jdk_42_method_147_code_4 : decode jdk_42_method_147_code 4 = .ok (.iload_n 3, 1) := by decide +kernel
theorem d_jdk_42_method_147_code_5 : decode jdk_42_method_147_code 5 = .ok (.if_icmp .ne 23, 3) := by decide +kernel
theorem d_jdk_42_method_147_code_8 : decode jdk_42_method_147_code 8 = .ok (.aload_n 0, 1) := by decide +kernel
theorem d_jdk_42_method_147_code_9 : decode jdk_42_method_147_code 9 = .ok (.getfield 9, 3) := by decide +kernel
theorem d_jdk_42_method_147_code_12 : decode jdk_42_method_147_code 12 = .ok (.iconst 0, 1) := by decide +kernel
theorem d_jdk_42_method_147_code_13 : decode jdk_42_method_147_code 13 = .ok (.aload_n 1, 1) := by decide +kernel
theorem d_jdk_42_method_147_code_14 : decode jdk_42_method_147_code 14 = .ok (.iload_n 2, 1) := by decide +kernel
theorem d_jdk_42_method_147_code_15 : decode jdk_42_method_147_code 15 = .ok (.iload_n 3, 1) := by decide +kernel
theorem d_jdk_42_method_147_code_16 : decode jdk_42_method_147_code 16 = .ok (.ishl, 1) := by decide +kernel
theorem d_jdk_42_method_147_code_17 : decode jdk_42_method_147_code 17 = .ok (.aload_n 0, 1) := by decide +kernel
theorem d_jdk_42_method_147_code_18 : decode jdk_42_method_147_code 18 = .ok (.getfield 9, 3) := by decide +kernel
theorem d_jdk_42_method_147_code_21 : decode jdk_42_method_147_code 21 = .ok (.arraylength, 1) := by decide +kernel
theorem d_jdk_42_method_147_code_22 : decode jdk_42_method_147_code 22 = .ok (.invokestatic 212, 3) := by decide +kernel
theorem w100 {Z : State} {a0 : Array Value} (hw : Tb a0 Z) : (Jvm.Cond.methodLink "java/lang/String" (212 : Nat) ({ cls := "java/lang/System", name := "arraycopy", desc := "(Ljava/lang/Object;ILjava/lang/Object;II)V" } : Jvm.MethodName)).before a0 Z = true := hw _ (List.mem_of_getElem? (i := 100) rfl)
theorem d_jdk_42_method_147_code_25 : decode jdk_42_method_147_code 25 = .ok (.goto 18, 3) := by decide +kernel
theorem d_jdk_42_method_147_code_43 : decode jdk_42_method_147_code 43 = .ok (.return_, 1) := by decide +kernel
set_option maxRecDepth 65536 in
set_option maxHeartbeats 40000000 in
theorem c_getBytes (l : Launch) (Z : State) (a0 : Array Value) (hw : Tb a0 Z) (hEW : EW Z a0 EL0) (n0 : Nat) (d : Addr) (kd : ClassId) (cp : Int32) (xs : List Int32) (ys : List Value) (s e : Addr) (ke : ClassId) (z : Int32) (bs : List Int32) (cs0 : Int32) (h0 : Heap) (O : Old Z n0 h0) (hz : z.toInt = bs.length) (S_s : Str Z h0 s e ke 0 z (bs.map Value.int)) (hfit : bs.length ≤ ys.length) (hcp : cp.toInt = (xs.length + ys.length : Nat)) (hcb : xs.length + ys.length ≤ 142) (V_d : Arv Z h0 d kd .byte cp (xs.map Value.int ++ ys) (.int 0)) (ga_d : n0 ≤ d) (ne_e_d : e ≠ d) (SC : Sta Z Z.heap "java/lang/String" "COMPACT_STRINGS" "Z" (.int cs0)) (hcs : ¬ cs0 = 0) :
    Ct l Z EL0 n0 (⟨"java/lang/String", "getBytes", "([BIB)V"⟩ : MethodName) jdk_42_method_147_code 4 none ({ frames := 1, cells := 0, slots := 0, locals := 18 } : Room) #[(.ref s), (.ref d), (.int (Int32.ofNat xs.length)), (.int (0 : Int32))] h0 [d] (fun v h sf => v = none ∧ Keep h0 h [d] ∧ Arv Z h d kd .byte cp ((xs ++ bs).map Value.int ++ ys.drop bs.length) (.int 0)) := by
  refine Ct.of (a0 := a0) #[.val (.ref s), .val (.ref d), .val (.int (Int32.ofNat xs.length)), .val (.int (0 : Int32))] hEW O (plainFor_of_name pl_java_lang_String) (fun m => by first | (simp [entryFrame, mkF, argsToLocals, Value.category]; done) | rfl) ?_
  intro p_ e_ s_ m_ below_ meth_ c_ b_ T_ K hSP
  have KP := Keep.refl h0 [d]
  have V_e := S_s.2.2.2
  have sf_d := hSP d (by simp)
  refine k_aloadN K d_jdk_42_method_147_code_0 (pc' := 1) rfl rfl rfl ?_
  refine k_virtualP K [] [] 0 (w70 hw) (w71 hw) (w72 hw) (w73 hw) (w42 hw) (w74 hw) (notFace_of_selects (args := #[]) (mvT K.hZ (w73 hw))) rfl (by decide) S_s.1 (by decide) pd___B_320 (c_coder l Z a0 hw hEW n0 s e ke 0 z _ cs0 h0 K.old S_s (Or.inl rfl) SC hcs) d_jdk_42_method_147_code_1 nofun (pc' := 4) rfl rfl rfl rfl (Nat.le_of_eq rfl) (by decide) (by decide) (by decide) (by decide) ?_
  intro b27 T27 L27 K27 tr27
  show Goes p_.tables e_ below_ _ (T27.setTop (mkF m_ 4 #[.val (.ref s), .val (.ref d), .val (.int (Int32.ofNat xs.length)), .val (.int (0 : Int32))] [(.int (0 : Int32))]))
  replace sf_d := tr27 d V_d.lt sf_d
  refine k_iloadN K27 d_jdk_42_method_147_code_4 (pc' := 5) rfl rfl ?_
  refine k_icmp_ne K27 d_jdk_42_method_147_code_5 (by decide) (pc' := 28) (pc2 := 8) (by decide) rfl (fun q => absurd (by decide) q) (fun hc5 => ?_)
  refine k_aloadN K27 d_jdk_42_method_147_code_8 (pc' := 9) rfl rfl rfl ?_
  refine k_getF K27 (w69 hw) Via.refl S_s.2.2.1 d_jdk_42_method_147_code_9 (pc' := 12) rfl ?_
  intro T28 K28
  refine k_iconst K28 (0 : Int32) d_jdk_42_method_147_code_12 (pc' := 13) rfl rfl ?_
  refine k_aloadN K28 d_jdk_42_method_147_code_13 (pc' := 14) rfl rfl rfl ?_
  refine k_iloadN K28 d_jdk_42_method_147_code_14 (pc' := 15) rfl rfl ?_
  refine k_iloadN K28 d_jdk_42_method_147_code_15 (pc' := 16) rfl rfl ?_
  refine k_ishl K28 d_jdk_42_method_147_code_16 (pc' := 17) rfl ?_
  refine k_aloadN K28 d_jdk_42_method_147_code_17 (pc' := 18) rfl rfl rfl ?_
  refine k_getF K28 (w69 hw) Via.refl S_s.2.2.1 d_jdk_42_method_147_code_18 (pc' := 21) rfl ?_
  intro T29 K29
  refine k_len K29 V_e d_jdk_42_method_147_code_21 (pc' := 22) rfl ?_
  rw [own_shl0]
  have hn := own_of (n := xs.length) (by omega)
  have cn := own_clamp hn
  have cz := own_clamp hz
  have cc := own_clamp hcp
  refine k_arraycopy K29 (sp := (0 : Int32)) (dp := (Int32.ofNat xs.length)) (nn := z) (us := (bs.map Value.int)) (w100 hw) (w103 hw) (w101 hw) (w102 hw) V_e V_d rfl (by decide) (by rw [own_i32, hn, own_0]; omega) (by rw [own_i32, hz, own_0]; omega) (by rw [cz]; exact Nat.le_of_eq (Nat.zero_add _)) (by rw [cn, cz, cc]; omega) (by rw [cz, own_range0 (bs.map Value.int) bs.length (by rw [List.length_map]; exact Nat.le_refl _), List.take_of_length_le (by rw [List.length_map]; exact Nat.le_refl _)]) (by rw [cn, cz]; simp; omega) ga_d sf_d d_jdk_42_method_147_code_22 (pc' := 25) rfl rfl (by decide) 0 (Nat.le_of_eq rfl) (by decide) ?_
  intro T30 h30 L30 K30 KQ30 tr30 V30
  replace sf_d := tr30 d V_d.lt sf_d
  replace V_e := V_e.keep KQ30 (ninS ne_e_d nin0)
  replace KP := KP.trans KQ30 (allS (Or.inl (by simp)) all0)
  replace V_d := V30
  show Goes p_.tables e_ below_ _ (T30.setTop (mkF m_ 25 #[.val (.ref s), .val (.ref d), .val (.int (Int32.ofNat xs.length)), .val (.int (0 : Int32))] []))
  rw [cn, cz, own_put xs bs ys hfit] at V_d
  refine k_goto K30 d_jdk_42_method_147_code_25 (by decide) (pc' := 43) (by decide) ?_
  exact k_return K30 d_jdk_42_method_147_code_43 rfl (fun sf ht => ⟨rfl, KP, V_d⟩) (by decide) (by decide)
theorem d_jdk_68_method_71_code_0 : decode jdk_68_method_71_code 0 = .ok (.getstatic 18, 3) := by decide +kernel
theorem d_jdk_68_method_71_code_3 : decode jdk_68_method_71_code 3 = .ok (.ifCond .eq 18, 3) := by decide +kernel
theorem d_jdk_68_method_71_code_6 : decode jdk_68_method_71_code 6 = .ok (.aload_n 0, 1) := by decide +kernel
theorem d_jdk_68_method_71_code_7 : decode jdk_68_method_71_code 7 = .ok (.getfield 22, 3) := by decide +kernel
theorem d_jdk_68_method_71_code_10 : decode jdk_68_method_71_code 10 = .ok (.aload_n 1, 1) := by decide +kernel
theorem d_jdk_68_method_71_code_11 : decode jdk_68_method_71_code 11 = .ok (.invokevirtual 40, 3) := by decide +kernel
theorem w94 {Z : State} {a0 : Array Value} (hw : Tb a0 Z) : (Jvm.Cond.methodLink "java/lang/AbstractStringBuilder" (40 : Nat) ({ cls := "java/lang/String", name := "coder", desc := "()B" } : Jvm.MethodName)).before a0 Z = true := hw _ (List.mem_of_getElem? (i := 94) rfl)
theorem d_jdk_68_method_71_code_14 : decode jdk_68_method_71_code 14 = .ok (.if_icmp .eq 7, 3) := by decide +kernel
theorem d_jdk_68_method_71_code_21 : decode jdk_68_method_71_code 21 = .ok (.return_, 1) := by decide +kernel
set_option maxRecDepth 65536 in
set_option maxHeartbeats 40000000 in
theorem c_infl (l : Launch) (Z : State) (a0 : Array Value) (hw : Tb a0 Z) (hEW : EW Z a0 EL0) (n0 : Nat) (sb s e : Addr) (ke : ClassId) (z : Int32) (vs : List Value) (cs0 : Int32) (h0 : Heap) (O : Old Z n0 h0) (F_sb_coder : Fld Z h0 sb "java/lang/AbstractStringBuilder" "coder" "B" (.int 0)) (S_s : Str Z h0 s e ke 0 z vs) (SC : Sta Z Z.heap "java/lang/String" "COMPACT_STRINGS" "Z" (.int cs0)) (hcs : ¬ cs0 = 0) :
    Ct l Z EL0 n0 (⟨"java/lang/AbstractStringBuilder", "inflateIfNeededFor", "(Ljava/lang/String;)V"⟩ : MethodName) jdk_68_method_71_code 2 none ({ frames := 1, cells := 0, slots := 0, locals := 13 } : Room) #[(.ref sb), (.ref s)] h0 [] (Pu none h0) := by
  refine Ct.of (a0 := a0) #[.val (.ref sb), .val (.ref s)] hEW O (plainFor_of_name pl_java_lang_AbstractStringBuilder) (fun m => by first | (simp [entryFrame, mkF, argsToLocals, Value.category]; done) | rfl) ?_
  intro p_ e_ s_ m_ below_ meth_ c_ b_ T_ K hSP
  refine k_getS K (w41 hw) Via.refl SC d_jdk_68_method_71_code_0 (pc' := 3) rfl ?_
  intro T31 K31
  refine k_if_eq K31 d_jdk_68_method_71_code_3 (by decide) (pc' := 21) (pc2 := 6) (by decide) rfl (fun q => absurd q hcs) (fun hc3 => ?_)
  refine k_aloadN K31 d_jdk_68_method_71_code_6 (pc' := 7) rfl rfl rfl ?_
  refine k_getF K31 (w46 hw) Via.refl F_sb_coder d_jdk_68_method_71_code_7 (pc' := 10) rfl ?_
  intro T32 K32
  refine k_aloadN K32 d_jdk_68_method_71_code_10 (pc' := 11) rfl rfl rfl ?_
  refine k_virtualP K32 [] [(.int (0 : Int32))] 1 (w94 hw) (w71 hw) (w72 hw) (w73 hw) (w42 hw) (w74 hw) (notFace_of_selects (args := #[]) (mvT K32.hZ (w73 hw))) rfl (by decide) S_s.1 (by decide) pd___B_320 (c_coder l Z a0 hw hEW n0 s e ke 0 z _ cs0 h0 K32.old S_s (Or.inl rfl) SC hcs) d_jdk_68_method_71_code_11 nofun (pc' := 14) rfl rfl rfl rfl (Nat.le_of_eq rfl) (by decide) (by decide) (by decide) (by decide) ?_
  intro b33 T33 L33 K33 tr33
  show Goes p_.tables e_ below_ _ (T33.setTop (mkF m_ 14 #[.val (.ref sb), .val (.ref s)] [(.int (0 : Int32)), (.int (0 : Int32))]))
  refine k_icmp_eq K33 d_jdk_68_method_71_code_14 (by decide) (pc' := 21) (pc2 := 17) (by decide) rfl (fun hc14 => ?_) (fun q => absurd (by decide) q)
  exact k_return K33 d_jdk_68_method_71_code_21 rfl (fun sf ht => ⟨rfl, rfl⟩) (by decide) (by decide)
theorem d_jdk_68_method_73_code_0 : decode jdk_68_method_73_code 0 = .ok (.aload_n 0, 1) := by decide +kernel
theorem d_jdk_68_method_73_code_1 : decode jdk_68_method_73_code 1 = .ok (.aload_n 2, 1) := by decide +kernel
theorem d_jdk_68_method_73_code_2 : decode jdk_68_method_73_code 2 = .ok (.invokevirtual 397, 3) := by decide +kernel
theorem w89 {Z : State} {a0 : Array Value} (hw : Tb a0 Z) : (Jvm.Cond.methodLink "java/lang/AbstractStringBuilder" (397 : Nat) ({ cls := "java/lang/AbstractStringBuilder", name := "inflateIfNeededFor", desc := "(Ljava/lang/String;)V" } : Jvm.MethodName)).before a0 Z = true := hw _ (List.mem_of_getElem? (i := 89) rfl)
theorem w93 {Z : State} {a0 : Array Value} (hw : Tb a0 Z) : (Jvm.Cond.code ({ cls := "java/lang/AbstractStringBuilder", name := "inflateIfNeededFor", desc := "(Ljava/lang/String;)V" } : Jvm.MethodName) jdk_68_method_71_code (2 : Nat) (Option.none : Option Jvm.ClassFile.FieldType)).before a0 Z = true := hw _ (List.mem_of_getElem? (i := 93) rfl)
theorem w91 {Z : State} {a0 : Array Value} (hw : Tb a0 Z) : (Jvm.Cond.privateMethod ({ cls := "java/lang/AbstractStringBuilder", name := "inflateIfNeededFor", desc := "(Ljava/lang/String;)V" } : Jvm.MethodName)).before a0 Z = true := hw _ (List.mem_of_getElem? (i := 91) rfl)
theorem w90 {Z : State} {a0 : Array Value} (hw : Tb a0 Z) : (Jvm.Cond.instanceMethod ({ cls := "java/lang/AbstractStringBuilder", name := "inflateIfNeededFor", desc := "(Ljava/lang/String;)V" } : Jvm.MethodName)).before a0 Z = true := hw _ (List.mem_of_getElem? (i := 90) rfl)
theorem w92 {Z : State} {a0 : Array Value} (hw : Tb a0 Z) : (Jvm.Cond.selects "java/lang/StringBuilder" ({ cls := "java/lang/AbstractStringBuilder", name := "inflateIfNeededFor", desc := "(Ljava/lang/String;)V" } : Jvm.MethodName) ({ cls := "java/lang/AbstractStringBuilder", name := "inflateIfNeededFor", desc := "(Ljava/lang/String;)V" } : Jvm.MethodName)).before a0 Z = true := hw _ (List.mem_of_getElem? (i := 92) rfl)
theorem pd__Ljava_lang_String__V_551 : parseMethodDescriptor "(Ljava/lang/String;)V" = some ⟨[(.object "java/lang/String")], none⟩ := by decide +kernel
theorem d_jdk_68_method_73_code_5 : decode jdk_68_method_73_code 5 = .ok (.aload_n 2, 1) := by decide +kernel
theorem d_jdk_68_method_73_code_6 : decode jdk_68_method_73_code 6 = .ok (.aload_n 0, 1) := by decide +kernel
theorem d_jdk_68_method_73_code_7 : decode jdk_68_method_73_code 7 = .ok (.getfield 15, 3) := by decide +kernel
theorem d_jdk_68_method_73_code_10 : decode jdk_68_method_73_code 10 = .ok (.iload_n 1, 1) := by decide +kernel
theorem d_jdk_68_method_73_code_11 : decode jdk_68_method_73_code 11 = .ok (.aload_n 0, 1) := by decide +kernel
theorem d_jdk_68_method_73_code_12 : decode jdk_68_method_73_code 12 = .ok (.getfield 22, 3) := by decide +kernel
theorem d_jdk_68_method_73_code_15 : decode jdk_68_method_73_code 15 = .ok (.invokevirtual 399, 3) := by decide +kernel
theorem w95 {Z : State} {a0 : Array Value} (hw : Tb a0 Z) : (Jvm.Cond.methodLink "java/lang/AbstractStringBuilder" (399 : Nat) ({ cls := "java/lang/String", name := "getBytes", desc := "([BIB)V" } : Jvm.MethodName)).before a0 Z = true := hw _ (List.mem_of_getElem? (i := 95) rfl)
theorem w99 {Z : State} {a0 : Array Value} (hw : Tb a0 Z) : (Jvm.Cond.code ({ cls := "java/lang/String", name := "getBytes", desc := "([BIB)V" } : Jvm.MethodName) jdk_42_method_147_code (4 : Nat) (Option.none : Option Jvm.ClassFile.FieldType)).before a0 Z = true := hw _ (List.mem_of_getElem? (i := 99) rfl)
theorem w98 {Z : State} {a0 : Array Value} (hw : Tb a0 Z) : (Jvm.Cond.selects "java/lang/String" ({ cls := "java/lang/String", name := "getBytes", desc := "([BIB)V" } : Jvm.MethodName) ({ cls := "java/lang/String", name := "getBytes", desc := "([BIB)V" } : Jvm.MethodName)).before a0 Z = true := hw _ (List.mem_of_getElem? (i := 98) rfl)
theorem w96 {Z : State} {a0 : Array Value} (hw : Tb a0 Z) : (Jvm.Cond.declares ({ cls := "java/lang/String", name := "getBytes", desc := "([BIB)V" } : Jvm.MethodName)).before a0 Z = true := hw _ (List.mem_of_getElem? (i := 96) rfl)
theorem w97 {Z : State} {a0 : Array Value} (hw : Tb a0 Z) : (Jvm.Cond.instanceMethod ({ cls := "java/lang/String", name := "getBytes", desc := "([BIB)V" } : Jvm.MethodName)).before a0 Z = true := hw _ (List.mem_of_getElem? (i := 97) rfl)
theorem pd___BIB_V_1890 : parseMethodDescriptor "([BIB)V" = some ⟨[(.array .byte), .int, .byte], none⟩ := by decide +kernel
theorem d_jdk_68_method_73_code_18 : decode jdk_68_method_73_code 18 = .ok (.return_, 1) := by decide +kernel
set_option maxRecDepth 65536 in
set_option maxHeartbeats 40000000 in
theorem c_psa (l : Launch) (Z : State) (a0 : Array Value) (hw : Tb a0 Z) (hEW : EW Z a0 EL0) (n0 : Nat) (sb d : Addr) (kd : ClassId) (cp : Int32) (xs : List Int32) (ys : List Value) (s e : Addr) (ke : ClassId) (z : Int32) (bs : List Int32) (cs0 : Int32) (h0 : Heap) (O : Old Z n0 h0) (B : Sbd Z h0 sb d kd cp xs ys) (hz : z.toInt = bs.length) (S_s : Str Z h0 s e ke 0 z (bs.map Value.int)) (hfit : bs.length ≤ ys.length) (ga_d : n0 ≤ d) (ne_e_d : e ≠ d) (SC : Sta Z Z.heap "java/lang/String" "COMPACT_STRINGS" "Z" (.int cs0)) (hcs : ¬ cs0 = 0) :
    Ct l Z EL0 n0 (⟨"java/lang/AbstractStringBuilder", "putStringAt", "(ILjava/lang/String;)V"⟩ : MethodName) jdk_68_method_73_code 3 none ({ frames := 2, cells := 0, slots := 0, locals := 33 } : Room) #[(.ref sb), (.int (Int32.ofNat xs.length)), (.ref s)] h0 [d] (fun v h sf => v = none ∧ Keep h0 h [d] ∧ Arv Z h d kd .byte cp ((xs ++ bs).map Value.int ++ ys.drop bs.length) (.int 0)) := by
  refine Ct.of (a0 := a0) #[.val (.ref sb), .val (.int (Int32.ofNat xs.length)), .val (.ref s)] hEW O (plainFor_of_name pl_java_lang_AbstractStringBuilder) (fun m => by first | (simp [entryFrame, mkF, argsToLocals, Value.category]; done) | rfl) ?_
  intro p_ e_ s_ m_ below_ meth_ c_ b_ T_ K hSP
  obtain ⟨X_sb, F_sb_value, F_sb_coder, F_sb_count, V_d, X_d, hcp, hcb⟩ := B
  have sf_d := hSP d (by simp)
  refine k_aloadN K d_jdk_68_method_73_code_0 (pc' := 1) rfl rfl rfl ?_
  refine k_aloadN K d_jdk_68_method_73_code_1 (pc' := 2) rfl rfl rfl ?_
  refine k_privateP K [(.ref s)] [] 0 (w89 hw) (w90 hw) (own_priv2 K (w92 hw) (w90 hw) (w91 hw) (by decide)) (w91 hw) (w38 hw) (w93 hw) X_sb (by decide) pd__Ljava_lang_String__V_551 (c_infl l Z a0 hw hEW n0 sb s e ke z _ cs0 h0 K.old F_sb_coder S_s SC hcs) d_jdk_68_method_73_code_2 nofun (pc' := 5) rfl rfl rfl rfl (Nat.le_of_eq rfl) (by decide) (by decide) (by decide) (by decide) ?_
  intro b34 T34 L34 K34 tr34
  show Goes p_.tables e_ below_ _ (T34.setTop (mkF m_ 5 #[.val (.ref sb), .val (.int (Int32.ofNat xs.length)), .val (.ref s)] []))
  replace sf_d := tr34 d V_d.lt sf_d
  refine k_aloadN K34 d_jdk_68_method_73_code_5 (pc' := 6) rfl rfl rfl ?_
  refine k_aloadN K34 d_jdk_68_method_73_code_6 (pc' := 7) rfl rfl rfl ?_
  refine k_getF K34 (w44 hw) Via.refl F_sb_value d_jdk_68_method_73_code_7 (pc' := 10) rfl ?_
  intro T35 K35
  refine k_iloadN K35 d_jdk_68_method_73_code_10 (pc' := 11) rfl rfl ?_
  refine k_aloadN K35 d_jdk_68_method_73_code_11 (pc' := 12) rfl rfl rfl ?_
  refine k_getF K35 (w46 hw) Via.refl F_sb_coder d_jdk_68_method_73_code_12 (pc' := 15) rfl ?_
  intro T36 K36
  refine k_virtual K36 [(.ref d), (.int (Int32.ofNat xs.length)), (.int (0 : Int32))] [] 0 (w95 hw) (w96 hw) (w97 hw) (w98 hw) (w42 hw) (w99 hw) (notFace_of_selects (args := #[]) (mvT K36.hZ (w98 hw))) rfl (by decide) S_s.1 (by decide) pd___BIB_V_1890 (c_getBytes l Z a0 hw hEW n0 d kd cp xs ys s e ke z bs cs0 h0 K36.old hz S_s hfit hcp hcb V_d ga_d ne_e_d SC hcs) d_jdk_68_method_73_code_15 (fun x hx => by cases List.mem_singleton.mp hx; exact ⟨V_d.lt, sf_d⟩) (pc' := 18) rfl rfl rfl rfl (Nat.le_of_eq rfl) (by decide) (by decide) (by decide) (by decide) ?_
  intro b37 T37 h37 L37 v37 K37 tr37 q37
  obtain ⟨rfl, KQ, V2⟩ := q37
  show Goes p_.tables e_ below_ _ (T37.setTop (mkF m_ 18 #[.val (.ref sb), .val (.int (Int32.ofNat xs.length)), .val (.ref s)] []))
  exact k_return K37 d_jdk_68_method_73_code_18 rfl (fun sf ht => ⟨rfl, KQ, V2⟩) (by decide) (by decide)
theorem d_jdk_68_method_22_code_0 : decode jdk_68_method_22_code 0 = .ok (.aload_n 1, 1) := by decide +kernel
theorem d_jdk_68_method_22_code_1 : decode jdk_68_method_22_code 1 = .ok (.ifnonnull 8, 3) := by decide +kernel
theorem d_jdk_68_method_22_code_9 : decode jdk_68_method_22_code 9 = .ok (.aload_n 1, 1) := by decide +kernel
theorem d_jdk_68_method_22_code_10 : decode jdk_68_method_22_code 10 = .ok (.invokevirtual 32, 3) := by decide +kernel
theorem w64 {Z : State} {a0 : Array Value} (hw : Tb a0 Z) : (Jvm.Cond.methodLink "java/lang/AbstractStringBuilder" (32 : Nat) ({ cls := "java/lang/String", name := "length", desc := "()I" } : Jvm.MethodName)).before a0 Z = true := hw _ (List.mem_of_getElem? (i := 64) rfl)
theorem w68 {Z : State} {a0 : Array Value} (hw : Tb a0 Z) : (Jvm.Cond.code ({ cls := "java/lang/String", name := "length", desc := "()I" } : Jvm.MethodName) jdk_42_method_54_code (1 : Nat) (Option.some Jvm.ClassFile.FieldType.int)).before a0 Z = true := hw _ (List.mem_of_getElem? (i := 68) rfl)
theorem w67 {Z : State} {a0 : Array Value} (hw : Tb a0 Z) : (Jvm.Cond.selects "java/lang/String" ({ cls := "java/lang/String", name := "length", desc := "()I" } : Jvm.MethodName) ({ cls := "java/lang/String", name := "length", desc := "()I" } : Jvm.MethodName)).before a0 Z = true := hw _ (List.mem_of_getElem? (i := 67) rfl)
theorem w65 {Z : State} {a0 : Array Value} (hw : Tb a0 Z) : (Jvm.Cond.declares ({ cls := "java/lang/String", name := "length", desc := "()I" } : Jvm.MethodName)).before a0 Z = true := hw _ (List.mem_of_getElem? (i := 65) rfl)
theorem w66 {Z : State} {a0 : Array Value} (hw : Tb a0 Z) : (Jvm.Cond.instanceMethod ({ cls := "java/lang/String", name := "length", desc := "()I" } : Jvm.MethodName)).before a0 Z = true := hw _ (List.mem_of_getElem? (i := 66) rfl)
theorem pd___I_341 : parseMethodDescriptor "()I" = some ⟨[], some .int⟩ := by decide +kernel
theorem d_jdk_68_method_22_code_13 : decode jdk_68_method_22_code 13 = .ok (.istore_n 2, 1) := by decide +kernel
theorem d_jdk_68_method_22_code_14 : decode jdk_68_method_22_code 14 = .ok (.aload_n 0, 1) := by decide +kernel
theorem d_jdk_68_method_22_code_15 : decode jdk_68_method_22_code 15 = .ok (.aload_n 0, 1) := by decide +kernel
theorem d_jdk_68_method_22_code_16 : decode jdk_68_method_22_code 16 = .ok (.getfield 79, 3) := by decide +kernel
theorem w77 {Z : State} {a0 : Array Value} (hw : Tb a0 Z) : (Jvm.Cond.fieldLink "java/lang/AbstractStringBuilder" (79 : Nat) "java/lang/AbstractStringBuilder" "count" "I").before a0 Z = true := hw _ (List.mem_of_getElem? (i := 77) rfl)
theorem d_jdk_68_method_22_code_19 : decode jdk_68_method_22_code 19 = .ok (.iload_n 2, 1) := by decide +kernel
theorem d_jdk_68_method_22_code_20 : decode jdk_68_method_22_code 20 = .ok (.iadd, 1) := by decide +kernel
theorem d_jdk_68_method_22_code_21 : decode jdk_68_method_22_code 21 = .ok (.invokevirtual 100, 3) := by decide +kernel
theorem w79 {Z : State} {a0 : Array Value} (hw : Tb a0 Z) : (Jvm.Cond.methodLink "java/lang/AbstractStringBuilder" (100 : Nat) ({ cls := "java/lang/AbstractStringBuilder", name := "ensureCapacityInternal", desc := "(I)V" } : Jvm.MethodName)).before a0 Z = true := hw _ (List.mem_of_getElem? (i := 79) rfl)
theorem w83 {Z : State} {a0 : Array Value} (hw : Tb a0 Z) : (Jvm.Cond.code ({ cls := "java/lang/AbstractStringBuilder", name := "ensureCapacityInternal", desc := "(I)V" } : Jvm.MethodName) jdk_68_method_9_code (3 : Nat) (Option.none : Option Jvm.ClassFile.FieldType)).before a0 Z = true := hw _ (List.mem_of_getElem? (i := 83) rfl)
theorem w81 {Z : State} {a0 : Array Value} (hw : Tb a0 Z) : (Jvm.Cond.privateMethod ({ cls := "java/lang/AbstractStringBuilder", name := "ensureCapacityInternal", desc := "(I)V" } : Jvm.MethodName)).before a0 Z = true := hw _ (List.mem_of_getElem? (i := 81) rfl)
theorem w80 {Z : State} {a0 : Array Value} (hw : Tb a0 Z) : (Jvm.Cond.instanceMethod ({ cls := "java/lang/AbstractStringBuilder", name := "ensureCapacityInternal", desc := "(I)V" } : Jvm.MethodName)).before a0 Z = true := hw _ (List.mem_of_getElem? (i := 80) rfl)
theorem w82 {Z : State} {a0 : Array Value} (hw : Tb a0 Z) : (Jvm.Cond.selects "java/lang/StringBuilder" ({ cls := "java/lang/AbstractStringBuilder", name := "ensureCapacityInternal", desc := "(I)V" } : Jvm.MethodName) ({ cls := "java/lang/AbstractStringBuilder", name := "ensureCapacityInternal", desc := "(I)V" } : Jvm.MethodName)).before a0 Z = true := hw _ (List.mem_of_getElem? (i := 82) rfl)
theorem d_jdk_68_method_22_code_24 : decode jdk_68_method_22_code 24 = .ok (.aload_n 0, 1) := by decide +kernel
theorem d_jdk_68_method_22_code_25 : decode jdk_68_method_22_code 25 = .ok (.aload_n 0, 1) := by decide +kernel
theorem d_jdk_68_method_22_code_26 : decode jdk_68_method_22_code 26 = .ok (.getfield 79, 3) := by decide +kernel
theorem d_jdk_68_method_22_code_29 : decode jdk_68_method_22_code 29 = .ok (.aload_n 1, 1) := by decide +kernel
theorem d_jdk_68_method_22_code_30 : decode jdk_68_method_22_code 30 = .ok (.invokevirtual 208, 3) := by decide +kernel
theorem w84 {Z : State} {a0 : Array Value} (hw : Tb a0 Z) : (Jvm.Cond.methodLink "java/lang/AbstractStringBuilder" (208 : Nat) ({ cls := "java/lang/AbstractStringBuilder", name := "putStringAt", desc := "(ILjava/lang/String;)V" } : Jvm.MethodName)).before a0 Z = true := hw _ (List.mem_of_getElem? (i := 84) rfl)
theorem w88 {Z : State} {a0 : Array Value} (hw : Tb a0 Z) : (Jvm.Cond.code ({ cls := "java/lang/AbstractStringBuilder", name := "putStringAt", desc := "(ILjava/lang/String;)V" } : Jvm.MethodName) jdk_68_method_73_code (3 : Nat) (Option.none : Option Jvm.ClassFile.FieldType)).before a0 Z = true := hw _ (List.mem_of_getElem? (i := 88) rfl)
theorem w86 {Z : State} {a0 : Array Value} (hw : Tb a0 Z) : (Jvm.Cond.privateMethod ({ cls := "java/lang/AbstractStringBuilder", name := "putStringAt", desc := "(ILjava/lang/String;)V" } : Jvm.MethodName)).before a0 Z = true := hw _ (List.mem_of_getElem? (i := 86) rfl)
theorem w85 {Z : State} {a0 : Array Value} (hw : Tb a0 Z) : (Jvm.Cond.instanceMethod ({ cls := "java/lang/AbstractStringBuilder", name := "putStringAt", desc := "(ILjava/lang/String;)V" } : Jvm.MethodName)).before a0 Z = true := hw _ (List.mem_of_getElem? (i := 85) rfl)
theorem w87 {Z : State} {a0 : Array Value} (hw : Tb a0 Z) : (Jvm.Cond.selects "java/lang/StringBuilder" ({ cls := "java/lang/AbstractStringBuilder", name := "putStringAt", desc := "(ILjava/lang/String;)V" } : Jvm.MethodName) ({ cls := "java/lang/AbstractStringBuilder", name := "putStringAt", desc := "(ILjava/lang/String;)V" } : Jvm.MethodName)).before a0 Z = true := hw _ (List.mem_of_getElem? (i := 87) rfl)
theorem pd__ILjava_lang_String__V_2520 : parseMethodDescriptor "(ILjava/lang/String;)V" = some ⟨[.int, (.object "java/lang/String")], none⟩ := by decide +kernel
theorem d_jdk_68_method_22_code_33 : decode jdk_68_method_22_code 33 = .ok (.aload_n 0, 1) := by decide +kernel
theorem d_jdk_68_method_22_code_34 : decode jdk_68_method_22_code 34 = .ok (.dup, 1) := by decide +kernel
theorem d_jdk_68_method_22_code_35 : decode jdk_68_method_22_code 35 = .ok (.getfield 79, 3) := by decide +kernel
theorem d_jdk_68_method_22_code_38 : decode jdk_68_method_22_code 38 = .ok (.iload_n 2, 1) := by decide +kernel
theorem d_jdk_68_method_22_code_39 : decode jdk_68_method_22_code 39 = .ok (.iadd, 1) := by decide +kernel
theorem d_jdk_68_method_22_code_40 : decode jdk_68_method_22_code 40 = .ok (.putfield 79, 3) := by decide +kernel
theorem d_jdk_68_method_22_code_43 : decode jdk_68_method_22_code 43 = .ok (.aload_n 0, 1) := by decide +kernel
theorem d_jdk_68_method_22_code_44 : decode jdk_68_method_22_code 44 = .ok (.areturn, 1) := by decide +kernel
set_option maxRecDepth 65536 in
set_option maxHeartbeats 40000000 in
theorem c_app (l : Launch) (Z : State) (a0 : Array Value) (hw : Tb a0 Z) (hEW : EW Z a0 EL0) (n0 : Nat) (sb d : Addr) (kd : ClassId) (cp : Int32) (xs : List Int32) (ys : List Value) (s e : Addr) (ke : ClassId) (z : Int32) (bs : List Int32) (cs0 : Int32) (h0 : Heap) (O : Old Z n0 h0) (B : Sbd Z h0 sb d kd cp xs ys) (ga_sb : n0 ≤ sb) (ga_d : n0 ≤ d) (ne_sb_d : sb ≠ d) (hz : z.toInt = bs.length) (S_s : Str Z h0 s e ke 0 z (bs.map Value.int)) (htot : xs.length + bs.length ≤ 70) (ne_s_sb : s ≠ sb) (ne_e_sb : e ≠ sb) (ne_e_d : e ≠ d) (SC : Sta Z Z.heap "java/lang/String" "COMPACT_STRINGS" "Z" (.int cs0)) (hcs : ¬ cs0 = 0) :
    Ct l Z EL0 n0 (⟨"java/lang/AbstractStringBuilder", "append", "(Ljava/lang/String;)Ljava/lang/AbstractStringBuilder;"⟩ : MethodName) jdk_68_method_22_code 3 (some (.object "java/lang/AbstractStringBuilder")) ({ frames := 4, cells := 1, slots := 142, locals := 62 } : Room) #[(.ref sb), (.ref s)] h0 [sb, d] (fun v h sf => ∃ d' kd' cp' ys', v = some (.ref sb) ∧ Keep h0 h [sb, d] ∧ Sbd Z h sb d' kd' cp' (xs ++ bs) ys' ∧ (d' = d ∨ h0.size ≤ d') ∧ sf d') := by
  refine Ct.of (a0 := a0) #[.val (.ref sb), .val (.ref s), .unset] hEW O (plainFor_of_name pl_java_lang_AbstractStringBuilder) (fun m => by first | (simp [entryFrame, mkF, argsToLocals, Value.category]; done) | rfl) ?_
  intro p_ e_ s_ m_ below_ meth_ c_ b_ T_ K hSP
  have B0 := B
  obtain ⟨X_sb, F_sb_value, F_sb_coder, F_sb_count, V_d, X_d, hcp, hcb⟩ := B
  have KP := Keep.refl h0 [sb, d]
  have sf_sb := hSP sb (by simp)
  have sf_d := hSP d (by simp)
  refine k_aloadN K d_jdk_68_method_22_code_0 (pc' := 1) rfl rfl rfl ?_
  refine k_ifnonnull K rfl d_jdk_68_method_22_code_1 (by decide) (pc' := 9) (pc2 := 4) (by decide) rfl (fun hc1 => ?_) (fun q => absurd q (by simp))
  refine k_aloadN K d_jdk_68_method_22_code_9 (pc' := 10) rfl rfl rfl ?_
  refine k_virtualP K [] [] 0 (w64 hw) (w65 hw) (w66 hw) (w67 hw) (w42 hw) (w68 hw) (notFace_of_selects (args := #[]) (mvT K.hZ (w67 hw))) rfl (by decide) S_s.1 (by decide) pd___I_341 (c_length l Z a0 hw hEW n0 s e ke 0 z _ cs0 h0 K.old S_s (Or.inl rfl) SC hcs) d_jdk_68_method_22_code_10 nofun (pc' := 13) rfl rfl rfl rfl (Nat.le_of_eq rfl) (by decide) (by decide) (by decide) (by decide) ?_
  intro b38 T38 L38 K38 tr38
  show Goes p_.tables e_ below_ _ (T38.setTop (mkF m_ 13 #[.val (.ref sb), .val (.ref s), .unset] [(.int (z >>> ((0 : Int32) &&& 31)))]))
  replace sf_sb := tr38 sb X_sb.lt sf_sb
  replace sf_d := tr38 d V_d.lt sf_d
  rw [own_shr0]
  refine k_istoreN K38 d_jdk_68_method_22_code_13 (pc' := 14) (L' := #[.val (.ref sb), .val (.ref s), .val (.int z)]) rfl rfl ?_
  refine k_aloadN K38 d_jdk_68_method_22_code_14 (pc' := 15) rfl rfl rfl ?_
  refine k_aloadN K38 d_jdk_68_method_22_code_15 (pc' := 16) rfl rfl rfl ?_
  refine k_getF K38 (w77 hw) Via.refl F_sb_count d_jdk_68_method_22_code_16 (pc' := 19) rfl ?_
  intro T39 K39
  refine k_iloadN K39 d_jdk_68_method_22_code_19 (pc' := 20) rfl rfl ?_
  refine k_iadd K39 d_jdk_68_method_22_code_20 (pc' := 21) rfl ?_
  rw [own_sumN hz (by omega)]
  refine k_private K39 [(.int (Int32.ofNat (xs.length + bs.length)))] [] 0 (w79 hw) (w80 hw) (own_priv2 K39 (w82 hw) (w80 hw) (w81 hw) (by decide)) (w81 hw) (w38 hw) (w83 hw) X_sb (by decide) pd__I_V_653 (c_ensure l Z a0 hw hEW n0 sb d kd cp xs ys (Int32.ofNat (xs.length + bs.length)) (xs.length + bs.length) h0 K39.old B0 ga_sb ga_d ne_sb_d (own_of (by omega)) htot) d_jdk_68_method_22_code_21 (fun x hx => by
    simp only [List.mem_cons, List.not_mem_nil, or_false] at hx
    rcases hx with rfl | rfl
    · exact ⟨X_sb.lt, sf_sb⟩
    · exact ⟨V_d.lt, sf_d⟩) (pc' := 24) rfl rfl rfl rfl (Nat.le_of_eq rfl) (by decide) (by decide) (by decide) (by decide) ?_
  intro b40 T40 h40 L40 v40 K40 tr40 q40
  obtain ⟨d', kd', cp', ys', rfl, KQ, B1, hroom, hd', sf_d'⟩ := q40
  have hd2 : d' = d ∨ h0.size ≤ d' := hd'
  have ga_d' : n0 ≤ d' := hd'.elim (fun q => q ▸ ga_d) fun q => Nat.le_trans (own_n0 K39.old) q
  have ne_sb_d' : sb ≠ d' := hd'.elim (fun q => q ▸ ne_sb_d) fun q => own_ne2 X_sb.lt q
  have ne_e_d' : e ≠ d' := hd'.elim (fun q => q ▸ ne_e_d) fun q => own_ne2 S_s.blt q
  replace sf_sb := tr40 sb X_sb.lt sf_sb
  replace S_s := S_s.keep KQ (ninS ne_s_sb nin0) (ninS ne_e_sb nin0)
  replace KP := KP.trans KQ (allS (Or.inl (by simp)) all0)
  have B1c := B1
  obtain ⟨X_sb, F_sb_value, F_sb_coder, F_sb_count, V_d', X_d', hcp', hcb'⟩ := B1c
  show Goes p_.tables e_ below_ _ (T40.setTop (mkF m_ 24 #[.val (.ref sb), .val (.ref s), .val (.int z)] []))
  refine k_aloadN K40 d_jdk_68_method_22_code_24 (pc' := 25) rfl rfl rfl ?_
  refine k_aloadN K40 d_jdk_68_method_22_code_25 (pc' := 26) rfl rfl rfl ?_
  refine k_getF K40 (w77 hw) Via.refl F_sb_count d_jdk_68_method_22_code_26 (pc' := 29) rfl ?_
  intro T41 K41
  refine k_aloadN K41 d_jdk_68_method_22_code_29 (pc' := 30) rfl rfl rfl ?_
  refine k_private K41 [(.int (Int32.ofNat xs.length)), (.ref s)] [] 0 (w84 hw) (w85 hw) (own_priv2 K41 (w87 hw) (w85 hw) (w86 hw) (by decide)) (w86 hw) (w38 hw) (w88 hw) X_sb (by decide) pd__ILjava_lang_String__V_2520 (c_psa l Z a0 hw hEW n0 sb d' kd' cp' xs ys' s e ke z bs cs0 h40 K41.old B1 hz S_s (by omega) ga_d' ne_e_d' SC hcs) d_jdk_68_method_22_code_30 (fun x hx => by cases List.mem_singleton.mp hx; exact ⟨V_d'.lt, sf_d'⟩) (pc' := 33) rfl rfl rfl rfl (Nat.le_of_eq rfl) (by decide) (by decide) (by decide) (by decide) ?_
  intro b42 T42 h42 L42 v42 K42 tr42 q42
  obtain ⟨rfl, KQ2, V2⟩ := q42
  replace sf_d' := tr42 d' V_d'.lt sf_d'
  replace sf_sb := tr42 sb X_sb.lt sf_sb
  replace X_sb := X_sb.keep KQ2
  replace F_sb_value := F_sb_value.keep KQ2 (ninS ne_sb_d' nin0)
  replace F_sb_coder := F_sb_coder.keep KQ2 (ninS ne_sb_d' nin0)
  replace F_sb_count := F_sb_count.keep KQ2 (ninS ne_sb_d' nin0)
  replace X_d' := X_d'.keep KQ2
  replace KP := KP.trans KQ2 (allS (hd2.imp (fun q => by rw [q]; simp) id) all0)
  replace V_d' := V2
  show Goes p_.tables e_ below_ _ (T42.setTop (mkF m_ 33 #[.val (.ref sb), .val (.ref s), .val (.int z)] []))
  refine k_aloadN K42 d_jdk_68_method_22_code_33 (pc' := 34) rfl rfl rfl ?_
  refine k_dup K42 d_jdk_68_method_22_code_34 (pc' := 35) rfl rfl ?_
  refine k_getF K42 (w77 hw) Via.refl F_sb_count d_jdk_68_method_22_code_35 (pc' := 38) rfl ?_
  intro T43 K43
  refine k_iloadN K43 d_jdk_68_method_22_code_38 (pc' := 39) rfl rfl ?_
  refine k_iadd K43 d_jdk_68_method_22_code_39 (pc' := 40) rfl ?_
  rw [own_sumN hz (by omega)]
  refine k_putF K43 (w77 hw) Via.refl F_sb_count X_sb (Or.inl (w78 hw)) (w29 hw) (ty := .int) (by decide) rfl rfl ga_sb sf_sb d_jdk_68_method_22_code_40 (pc' := 43) rfl ?_
  intro T44 h44 K44 W44 tr44
  have F44 := F_sb_count.same W44
  replace sf_sb := tr44 sb X_sb.lt sf_sb
  replace sf_d' := tr44 d' X_d'.lt sf_d'
  replace X_sb := X_sb.wr W44
  replace F_sb_value := F_sb_value.other W44 (Or.inr (slot_ne (Or.inl (w45 hw)) (Or.inl (w78 hw)) (by decide) (t := (.array .byte)) (t' := .int) (by decide) (by decide)))
  replace F_sb_coder := F_sb_coder.other W44 (Or.inr (slot_ne (Or.inl (w47 hw)) (Or.inl (w78 hw)) (by decide) (t := .byte) (t' := .int) (by decide) (by decide)))
  replace X_d' := X_d'.wr W44
  replace V_d' := V_d'.other W44 (Ne.symm ne_sb_d')
  replace KP := KP.wr W44 (Or.inl (by simp))
  replace F_sb_count := F44
  refine k_aloadN K44 d_jdk_68_method_22_code_43 (pc' := 44) rfl rfl rfl ?_
  rw [← List.length_append] at F_sb_count
  exact k_aret K44 d_jdk_68_method_22_code_44 rfl rfl rfl (fun sf ht => ⟨d', kd', cp', ys'.drop bs.length, rfl, KP, ⟨X_sb, F_sb_value, F_sb_coder, F_sb_count, V_d', X_d', by rw [hcp', List.length_append, List.length_drop]; omega, by rw [List.length_append, List.length_drop]; omega⟩, hd2, ht _ V_d'.lt sf_d'⟩) (by decide) (by decide)
theorem d_jdk_67_method_7_code_0 : decode jdk_67_method_7_code 0 = .ok (.aload_n 0, 1) := by decide +kernel
theorem d_jdk_67_method_7_code_1 : decode jdk_67_method_7_code 1 = .ok (.aload_n 1, 1) := by decide +kernel
theorem d_jdk_67_method_7_code_2 : decode jdk_67_method_7_code 2 = .ok (.invokespecial 29, 3) := by decide +kernel
theorem w59 {Z : State} {a0 : Array Value} (hw : Tb a0 Z) : (Jvm.Cond.methodLink "java/lang/StringBuilder" (29 : Nat) ({ cls := "java/lang/AbstractStringBuilder", name := "append", desc := "(Ljava/lang/String;)Ljava/lang/AbstractStringBuilder;" } : Jvm.MethodName)).before a0 Z = true := hw _ (List.mem_of_getElem? (i := 59) rfl)
theorem w63 {Z : State} {a0 : Array Value} (hw : Tb a0 Z) : (Jvm.Cond.code ({ cls := "java/lang/AbstractStringBuilder", name := "append", desc := "(Ljava/lang/String;)Ljava/lang/AbstractStringBuilder;" } : Jvm.MethodName) jdk_68_method_22_code (3 : Nat) (Option.some (Jvm.ClassFile.FieldType.object "java/lang/AbstractStringBuilder"))).before a0 Z = true := hw _ (List.mem_of_getElem? (i := 63) rfl)
theorem w60 {Z : State} {a0 : Array Value} (hw : Tb a0 Z) : (Jvm.Cond.instanceMethod ({ cls := "java/lang/AbstractStringBuilder", name := "append", desc := "(Ljava/lang/String;)Ljava/lang/AbstractStringBuilder;" } : Jvm.MethodName)).before a0 Z = true := hw _ (List.mem_of_getElem? (i := 60) rfl)
theorem w61 {Z : State} {a0 : Array Value} (hw : Tb a0 Z) : (Jvm.Cond.superclass "java/lang/StringBuilder" "java/lang/AbstractStringBuilder").before a0 Z = true := hw _ (List.mem_of_getElem? (i := 61) rfl)
theorem pd__Ljava_lang_String__Ljava_lang_AbstractStringBuilder__9239 : parseMethodDescriptor "(Ljava/lang/String;)Ljava/lang/AbstractStringBuilder;" = some ⟨[(.object "java/lang/String")], some (.object "java/lang/AbstractStringBuilder")⟩ := by decide +kernel
theorem d_jdk_67_method_7_code_5 : decode jdk_67_method_7_code 5 = .ok (.pop, 1) := by decide +kernel
theorem d_jdk_67_method_7_code_6 : decode jdk_67_method_7_code 6 = .ok (.aload_n 0, 1) := by decide +kernel
theorem d_jdk_67_method_7_code_7 : decode jdk_67_method_7_code 7 = .ok (.areturn, 1) := by decide +kernel
set_option maxRecDepth 65536 in
set_option maxHeartbeats 40000000 in
theorem c_sapp (l : Launch) (Z : State) (a0 : Array Value) (hw : Tb a0 Z) (hEW : EW Z a0 EL0) (n0 : Nat) (sb d : Addr) (kd : ClassId) (cp : Int32) (xs : List Int32) (ys : List Value) (s e : Addr) (ke : ClassId) (z : Int32) (bs : List Int32) (cs0 : Int32) (h0 : Heap) (O : Old Z n0 h0) (B : Sbd Z h0 sb d kd cp xs ys) (ga_sb : n0 ≤ sb) (ga_d : n0 ≤ d) (ne_sb_d : sb ≠ d) (hz : z.toInt = bs.length) (S_s : Str Z h0 s e ke 0 z (bs.map Value.int)) (htot : xs.length + bs.length ≤ 70) (ne_s_sb : s ≠ sb) (ne_e_sb : e ≠ sb) (ne_e_d : e ≠ d) (SC : Sta Z Z.heap "java/lang/String" "COMPACT_STRINGS" "Z" (.int cs0)) (hcs : ¬ cs0 = 0) :
    Ct l Z EL0 n0 (⟨"java/lang/StringBuilder", "append", "(Ljava/lang/String;)Ljava/lang/StringBuilder;"⟩ : MethodName) jdk_67_method_7_code 2 (some (.object "java/lang/StringBuilder")) ({ frames := 5, cells := 1, slots := 142, locals := 76 } : Room) #[(.ref sb), (.ref s)] h0 [sb, d] (fun v h sf => ∃ d' kd' cp' ys', v = some (.ref sb) ∧ Keep h0 h [sb, d] ∧ Sbd Z h sb d' kd' cp' (xs ++ bs) ys' ∧ (d' = d ∨ h0.size ≤ d') ∧ sf d') := by
  refine Ct.of (a0 := a0) #[.val (.ref sb), .val (.ref s)] hEW O (plainFor_of_name pl_java_lang_StringBuilder) (fun m => by first | (simp [entryFrame, mkF, argsToLocals, Value.category]; done) | rfl) ?_
  intro p_ e_ s_ m_ below_ meth_ c_ b_ T_ K hSP
  have X_sb := B.1
  have V_d := B.2.2.2.2.1
  refine k_aloadN K d_jdk_67_method_7_code_0 (pc' := 1) rfl rfl rfl ?_
  refine k_aloadN K d_jdk_67_method_7_code_1 (pc' := 2) rfl rfl rfl ?_
  refine k_super K [(.ref s)] [] 0 (w59 hw) (own_same (y' := ({ cls := "java/lang/AbstractStringBuilder", name := "ensureCapacityInternal", desc := "(I)V" } : Jvm.MethodName)) rfl (w82 hw) (w60 hw) (by decide)) (w60 hw) (w61 hw) (by decide) (w38 hw) (w63 hw) (Ins.self X_sb) (by decide) pd__Ljava_lang_String__Ljava_lang_AbstractStringBuilder__9239 (c_app l Z a0 hw hEW n0 sb d kd cp xs ys s e ke z bs cs0 h0 K.old B ga_sb ga_d ne_sb_d hz S_s htot ne_s_sb ne_e_sb ne_e_d SC hcs) d_jdk_67_method_7_code_2 (fun x hx => by
    simp only [List.mem_cons, List.not_mem_nil, or_false] at hx
    rcases hx with rfl | rfl
    · exact ⟨X_sb.lt, hSP _ (by simp)⟩
    · exact ⟨V_d.lt, hSP _ (by simp)⟩) (pc' := 5) rfl rfl rfl rfl (Nat.le_of_eq rfl) (by decide) (by decide) (by decide) (by decide) ?_
  intro b45 T45 h45 L45 v45 K45 tr45 q45
  obtain ⟨d', kd', cp', ys', rfl, KQ, B2, hd', sf_d'⟩ := q45
  show Goes p_.tables e_ below_ _ (T45.setTop (mkF m_ 5 #[.val (.ref sb), .val (.ref s)] [(.ref sb)]))
  refine k_pop K45 d_jdk_67_method_7_code_5 (pc' := 6) rfl rfl ?_
  refine k_aloadN K45 d_jdk_67_method_7_code_6 (pc' := 7) rfl rfl rfl ?_
  exact k_aret K45 d_jdk_67_method_7_code_7 rfl rfl rfl (fun sf ht => ⟨d', kd', cp', ys', rfl, KQ, B2, hd', ht _ B2.2.2.2.2.1.lt sf_d'⟩) (by decide) (by decide)
theorem d_jdk_68_method_64_code_0 : decode jdk_68_method_64_code 0 = .ok (.aload_n 0, 1) := by decide +kernel
theorem d_jdk_68_method_64_code_1 : decode jdk_68_method_64_code 1 = .ok (.getfield 15, 3) := by decide +kernel
theorem d_jdk_68_method_64_code_4 : decode jdk_68_method_64_code 4 = .ok (.areturn, 1) := by decide +kernel
set_option maxRecDepth 65536 in
set_option maxHeartbeats 40000000 in
theorem c_gv (l : Launch) (Z : State) (a0 : Array Value) (hw : Tb a0 Z) (hEW : EW Z a0 EL0) (n0 : Nat) (sb d : Addr) (h0 : Heap) (O : Old Z n0 h0) (F : Fld Z h0 sb "java/lang/AbstractStringBuilder" "value" "[B" (.ref d)) :
    Ct l Z EL0 n0 (⟨"java/lang/AbstractStringBuilder", "getValue", "()[B"⟩ : MethodName) jdk_68_method_64_code 1 (some (.array .byte)) ({ frames := 0, cells := 0, slots := 0, locals := 0 } : Room) #[(.ref sb)] h0 [] (Pu (some (.ref d)) h0) := by
  refine Ct.of (a0 := a0) #[.val (.ref sb)] hEW O (plainFor_of_name pl_java_lang_AbstractStringBuilder) (fun m => by first | (simp [entryFrame, mkF, argsToLocals, Value.category]; done) | rfl) ?_
  intro p_ e_ s_ m_ below_ meth_ c_ b_ T_ K hSP
  refine k_aloadN K d_jdk_68_method_64_code_0 (pc' := 1) rfl rfl rfl ?_
  refine k_getF K (w44 hw) Via.refl F d_jdk_68_method_64_code_1 (pc' := 4) rfl ?_
  intro T46 K46
  exact k_aret K46 d_jdk_68_method_64_code_4 rfl rfl rfl (fun sf ht => ⟨rfl, rfl⟩) (by decide) (by decide)
theorem d_jdk_68_method_6_code_0 : decode jdk_68_method_6_code 0 = .ok (.aload_n 0, 1) := by decide +kernel
theorem d_jdk_68_method_6_code_1 : decode jdk_68_method_6_code 1 = .ok (.getfield 79, 3) := by decide +kernel
theorem d_jdk_68_method_6_code_4 : decode jdk_68_method_6_code 4 = .ok (.ireturn, 1) := by decide +kernel
set_option maxRecDepth 65536 in
set_option maxHeartbeats 40000000 in
theorem c_al (l : Launch) (Z : State) (a0 : Array Value) (hw : Tb a0 Z) (hEW : EW Z a0 EL0) (n0 : Nat) (sb : Addr) (n : Int32) (h0 : Heap) (O : Old Z n0 h0) (F : Fld Z h0 sb "java/lang/AbstractStringBuilder" "count" "I" (.int n)) :
    Ct l Z EL0 n0 (⟨"java/lang/AbstractStringBuilder", "length", "()I"⟩ : MethodName) jdk_68_method_6_code 1 (some .int) ({ frames := 0, cells := 0, slots := 0, locals := 0 } : Room) #[(.ref sb)] h0 [] (Pu (some (.int n)) h0) := by
  refine Ct.of (a0 := a0) #[.val (.ref sb)] hEW O (plainFor_of_name pl_java_lang_AbstractStringBuilder) (fun m => by first | (simp [entryFrame, mkF, argsToLocals, Value.category]; done) | rfl) ?_
  intro p_ e_ s_ m_ below_ meth_ c_ b_ T_ K hSP
  refine k_aloadN K d_jdk_68_method_6_code_0 (pc' := 1) rfl rfl rfl ?_
  refine k_getF K (w77 hw) Via.refl F d_jdk_68_method_6_code_1 (pc' := 4) rfl ?_
  intro T47 K47
  exact k_iret K47 d_jdk_68_method_6_code_4 rfl (fun sf ht => ⟨rfl, rfl⟩) (by decide) (by decide)
theorem d_jdk_67_method_93_code_0 : decode jdk_67_method_93_code 0 = .ok (.aload_n 0, 1) := by decide +kernel
theorem d_jdk_67_method_93_code_1 : decode jdk_67_method_93_code 1 = .ok (.invokespecial 343, 3) := by decide +kernel
theorem w152 {Z : State} {a0 : Array Value} (hw : Tb a0 Z) : (Jvm.Cond.methodLink "java/lang/StringBuilder" (343 : Nat) ({ cls := "java/lang/AbstractStringBuilder", name := "length", desc := "()I" } : Jvm.MethodName)).before a0 Z = true := hw _ (List.mem_of_getElem? (i := 152) rfl)
theorem w153 {Z : State} {a0 : Array Value} (hw : Tb a0 Z) : (Jvm.Cond.code ({ cls := "java/lang/AbstractStringBuilder", name := "length", desc := "()I" } : Jvm.MethodName) jdk_68_method_6_code (1 : Nat) (Option.some Jvm.ClassFile.FieldType.int)).before a0 Z = true := hw _ (List.mem_of_getElem? (i := 153) rfl)
theorem w148 {Z : State} {a0 : Array Value} (hw : Tb a0 Z) : (Jvm.Cond.instanceMethod ({ cls := "java/lang/AbstractStringBuilder", name := "length", desc := "()I" } : Jvm.MethodName)).before a0 Z = true := hw _ (List.mem_of_getElem? (i := 148) rfl)
theorem d_jdk_67_method_93_code_4 : decode jdk_67_method_93_code 4 = .ok (.ireturn, 1) := by decide +kernel
set_option maxRecDepth 65536 in
set_option maxHeartbeats 40000000 in
theorem c_sl (l : Launch) (Z : State) (a0 : Array Value) (hw : Tb a0 Z) (hEW : EW Z a0 EL0) (n0 : Nat) (sb : Addr) (n : Int32) (h0 : Heap) (O : Old Z n0 h0) (X_sb : Exa Z h0 sb "java/lang/StringBuilder") (F : Fld Z h0 sb "java/lang/AbstractStringBuilder" "count" "I" (.int n)) :
    Ct l Z EL0 n0 (⟨"java/lang/StringBuilder", "length", "()I"⟩ : MethodName) jdk_67_method_93_code 1 (some .int) ({ frames := 1, cells := 0, slots := 0, locals := 12 } : Room) #[(.ref sb)] h0 [] (Pu (some (.int n)) h0) := by
  refine Ct.of (a0 := a0) #[.val (.ref sb)] hEW O (plainFor_of_name pl_java_lang_StringBuilder) (fun m => by first | (simp [entryFrame, mkF, argsToLocals, Value.category]; done) | rfl) ?_
  intro p_ e_ s_ m_ below_ meth_ c_ b_ T_ K hSP
  refine k_aloadN K d_jdk_67_method_93_code_0 (pc' := 1) rfl rfl rfl ?_
  refine k_superP K [] [] 0 (w152 hw) (own_same (y' := ({ cls := "java/lang/AbstractStringBuilder", name := "ensureCapacityInternal", desc := "(I)V" } : Jvm.MethodName)) rfl (w82 hw) (w148 hw) (by decide)) (w148 hw) (w61 hw) (by decide) (w38 hw) (w153 hw) (Ins.self X_sb) (by decide) pd___I_341 (c_al l Z a0 hw hEW n0 sb n h0 K.old F) d_jdk_67_method_93_code_1 nofun (pc' := 4) rfl rfl rfl rfl (Nat.le_of_eq rfl) (by decide) (by decide) (by decide) (by decide) ?_
  intro b48 T48 L48 K48 tr48
  show Goes p_.tables e_ below_ _ (T48.setTop (mkF m_ 4 #[.val (.ref sb)] [(.int n)]))
  exact k_iret K48 d_jdk_67_method_93_code_4 rfl (fun sf ht => ⟨rfl, rfl⟩) (by decide) (by decide)
theorem d_jdk_68_method_68_code_0 : decode jdk_68_method_68_code 0 = .ok (.getstatic 18, 3) := by decide +kernel
theorem d_jdk_68_method_68_code_3 : decode jdk_68_method_68_code 3 = .ok (.ifCond .eq 14, 3) := by decide +kernel
theorem d_jdk_68_method_68_code_6 : decode jdk_68_method_68_code 6 = .ok (.aload_n 0, 1) := by decide +kernel
theorem d_jdk_68_method_68_code_7 : decode jdk_68_method_68_code 7 = .ok (.getfield 22, 3) := by decide +kernel
theorem d_jdk_68_method_68_code_10 : decode jdk_68_method_68_code 10 = .ok (.ifCond .ne 7, 3) := by decide +kernel
theorem d_jdk_68_method_68_code_13 : decode jdk_68_method_68_code 13 = .ok (.iconst 1, 1) := by decide +kernel
theorem d_jdk_68_method_68_code_14 : decode jdk_68_method_68_code 14 = .ok (.goto 4, 3) := by decide +kernel
theorem d_jdk_68_method_68_code_18 : decode jdk_68_method_68_code 18 = .ok (.ireturn, 1) := by decide +kernel
set_option maxRecDepth 65536 in
set_option maxHeartbeats 40000000 in
theorem c_ail (l : Launch) (Z : State) (a0 : Array Value) (hw : Tb a0 Z) (hEW : EW Z a0 EL0) (n0 : Nat) (sb : Addr) (cs0 : Int32) (h0 : Heap) (O : Old Z n0 h0) (F : Fld Z h0 sb "java/lang/AbstractStringBuilder" "coder" "B" (.int 0)) (SC : Sta Z Z.heap "java/lang/String" "COMPACT_STRINGS" "Z" (.int cs0)) (hcs : ¬ cs0 = 0) :
    Ct l Z EL0 n0 (⟨"java/lang/AbstractStringBuilder", "isLatin1", "()Z"⟩ : MethodName) jdk_68_method_68_code 1 (some .boolean) ({ frames := 0, cells := 0, slots := 0, locals := 0 } : Room) #[(.ref sb)] h0 [] (Pu (some (.int 1)) h0) := by
  refine Ct.of (a0 := a0) #[.val (.ref sb)] hEW O (plainFor_of_name pl_java_lang_AbstractStringBuilder) (fun m => by first | (simp [entryFrame, mkF, argsToLocals, Value.category]; done) | rfl) ?_
  intro p_ e_ s_ m_ below_ meth_ c_ b_ T_ K hSP
  refine k_getS K (w41 hw) Via.refl SC d_jdk_68_method_68_code_0 (pc' := 3) rfl ?_
  intro T49 K49
  refine k_if_eq K49 d_jdk_68_method_68_code_3 (by decide) (pc' := 17) (pc2 := 6) (by decide) rfl (fun q => absurd q hcs) (fun hc3 => ?_)
  refine k_aloadN K49 d_jdk_68_method_68_code_6 (pc' := 7) rfl rfl rfl ?_
  refine k_getF K49 (w46 hw) Via.refl F d_jdk_68_method_68_code_7 (pc' := 10) rfl ?_
  intro T50 K50
  refine k_if_ne K50 d_jdk_68_method_68_code_10 (by decide) (pc' := 17) (pc2 := 13) (by decide) rfl (fun q => absurd (by decide) q) (fun hc10 => ?_)
  refine k_iconst K50 (1 : Int32) d_jdk_68_method_68_code_13 (pc' := 14) rfl rfl ?_
  refine k_goto K50 d_jdk_68_method_68_code_14 (by decide) (pc' := 18) (by decide) ?_
  exact k_nret K50 d_jdk_68_method_68_code_18 rfl (by simp) rfl (fun sf ht => ⟨rfl, rfl⟩) (by decide) (by decide)
theorem d_jdk_65_method_131_code_0 : decode jdk_65_method_131_code 0 = .ok (.iload_n 1, 1) := by decide +kernel
theorem d_jdk_65_method_131_code_1 : decode jdk_65_method_131_code 1 = .ok (.iload_n 0, 1) := by decide +kernel
theorem d_jdk_65_method_131_code_2 : decode jdk_65_method_131_code 2 = .ok (.if_icmp .ge 35, 3) := by decide +kernel
theorem d_jdk_65_method_131_code_37 : decode jdk_65_method_131_code 37 = .ok (.return_, 1) := by decide +kernel
set_option maxRecDepth 65536 in
set_option maxHeartbeats 40000000 in
theorem c_ckl (l : Launch) (Z : State) (a0 : Array Value) (hw : Tb a0 Z) (hEW : EW Z a0 EL0) (n0 : Nat) (i j : Int32) (h0 : Heap) (O : Old Z n0 h0) (h : ¬ j < i) :
    Ct l Z EL0 n0 (⟨"java/util/Arrays", "checkLength", "(II)V"⟩ : MethodName) jdk_65_method_131_code 2 none ({ frames := 0, cells := 0, slots := 0, locals := 0 } : Room) #[(.int i), (.int j)] h0 [] (Pu none h0) := by
  refine Ct.of (a0 := a0) #[.val (.int i), .val (.int j)] hEW O (plainFor_of_name pl_java_util_Arrays) (fun m => by first | (simp [entryFrame, mkF, argsToLocals, Value.category]; done) | rfl) ?_
  intro p_ e_ s_ m_ below_ meth_ c_ b_ T_ K hSP
  refine k_iloadN K d_jdk_65_method_131_code_0 (pc' := 1) rfl rfl ?_
  refine k_iloadN K d_jdk_65_method_131_code_1 (pc' := 2) rfl rfl ?_
  refine k_icmp_ge K d_jdk_65_method_131_code_2 (by decide) (pc' := 37) (pc2 := 5) (by decide) rfl (fun hc2 => ?_) (fun q => absurd q h)
  exact k_return K d_jdk_65_method_131_code_37 rfl (fun sf ht => ⟨rfl, rfl⟩) (by decide) (by decide)
theorem d_jdk_65_method_133_code_0 : decode jdk_65_method_133_code 0 = .ok (.iload_n 1, 1) := by decide +kernel
theorem d_jdk_65_method_133_code_1 : decode jdk_65_method_133_code 1 = .ok (.iload_n 2, 1) := by decide +kernel
theorem d_jdk_65_method_133_code_2 : decode jdk_65_method_133_code 2 = .ok (.invokestatic 343, 3) := by decide +kernel
theorem w227 {Z : State} {a0 : Array Value} (hw : Tb a0 Z) : (Jvm.Cond.methodLink "java/util/Arrays" (343 : Nat) ({ cls := "java/util/Arrays", name := "checkLength", desc := "(II)V" } : Jvm.MethodName)).before a0 Z = true := hw _ (List.mem_of_getElem? (i := 227) rfl)
theorem w229 {Z : State} {a0 : Array Value} (hw : Tb a0 Z) : (Jvm.Cond.code ({ cls := "java/util/Arrays", name := "checkLength", desc := "(II)V" } : Jvm.MethodName) jdk_65_method_131_code (2 : Nat) (Option.none : Option Jvm.ClassFile.FieldType)).before a0 Z = true := hw _ (List.mem_of_getElem? (i := 229) rfl)
theorem w228 {Z : State} {a0 : Array Value} (hw : Tb a0 Z) : (Jvm.Cond.static ({ cls := "java/util/Arrays", name := "checkLength", desc := "(II)V" } : Jvm.MethodName)).before a0 Z = true := hw _ (List.mem_of_getElem? (i := 228) rfl)
theorem pd__II_V_999 : parseMethodDescriptor "(II)V" = some ⟨[.int, .int], none⟩ := by decide +kernel
theorem d_jdk_65_method_133_code_5 : decode jdk_65_method_133_code 5 = .ok (.iload_n 2, 1) := by decide +kernel
theorem d_jdk_65_method_133_code_6 : decode jdk_65_method_133_code 6 = .ok (.iload_n 1, 1) := by decide +kernel
theorem d_jdk_65_method_133_code_7 : decode jdk_65_method_133_code 7 = .ok (.isub, 1) := by decide +kernel
theorem d_jdk_65_method_133_code_8 : decode jdk_65_method_133_code 8 = .ok (.istore_n 3, 1) := by decide +kernel
theorem d_jdk_65_method_133_code_9 : decode jdk_65_method_133_code 9 = .ok (.iload_n 3, 1) := by decide +kernel
theorem d_jdk_65_method_133_code_10 : decode jdk_65_method_133_code 10 = .ok (.newarray .byte, 2) := by decide +kernel
theorem d_jdk_65_method_133_code_12 : decode jdk_65_method_133_code 12 = .ok (.astore 4, 2) := by decide +kernel
theorem d_jdk_65_method_133_code_14 : decode jdk_65_method_133_code 14 = .ok (.aload_n 0, 1) := by decide +kernel
theorem d_jdk_65_method_133_code_15 : decode jdk_65_method_133_code 15 = .ok (.iload_n 1, 1) := by decide +kernel
theorem d_jdk_65_method_133_code_16 : decode jdk_65_method_133_code 16 = .ok (.aload 4, 2) := by decide +kernel
theorem d_jdk_65_method_133_code_18 : decode jdk_65_method_133_code 18 = .ok (.iconst 0, 1) := by decide +kernel
theorem d_jdk_65_method_133_code_19 : decode jdk_65_method_133_code 19 = .ok (.aload_n 0, 1) := by decide +kernel
theorem d_jdk_65_method_133_code_20 : decode jdk_65_method_133_code 20 = .ok (.arraylength, 1) := by decide +kernel
theorem d_jdk_65_method_133_code_21 : decode jdk_65_method_133_code 21 = .ok (.iload_n 1, 1) := by decide +kernel
theorem d_jdk_65_method_133_code_22 : decode jdk_65_method_133_code 22 = .ok (.isub, 1) := by decide +kernel
theorem d_jdk_65_method_133_code_23 : decode jdk_65_method_133_code 23 = .ok (.iload_n 3, 1) := by decide +kernel
theorem d_jdk_65_method_133_code_24 : decode jdk_65_method_133_code 24 = .ok (.invokestatic 304, 3) := by decide +kernel
theorem d_jdk_65_method_133_code_27 : decode jdk_65_method_133_code 27 = .ok (.invokestatic 150, 3) := by decide +kernel
theorem d_jdk_65_method_133_code_30 : decode jdk_65_method_133_code 30 = .ok (.aload 4, 2) := by decide +kernel
theorem d_jdk_65_method_133_code_32 : decode jdk_65_method_133_code 32 = .ok (.areturn, 1) := by decide +kernel
set_option maxRecDepth 65536 in
set_option maxHeartbeats 40000000 in
theorem c_crb (l : Launch) (Z : State) (a0 : Array Value) (hw : Tb a0 Z) (hEW : EW Z a0 EL0) (n0 : Nat) (d : Addr) (kd : ClassId) (cp : Int32) (xs : List Int32) (ys : List Value) (h0 : Heap) (O : Old Z n0 h0) (hcp : cp.toInt = (xs.length + ys.length : Nat)) (hcb : xs.length + ys.length ≤ 142) (hx : xs.length ≤ 70) (V_d : Arv Z h0 d kd .byte cp (xs.map Value.int ++ ys) (.int 0)) (X_d : Exa Z h0 d "[B") :
    Ct l Z EL0 n0 (⟨"java/util/Arrays", "copyOfRangeByte", "([BII)[B"⟩ : MethodName) jdk_65_method_133_code 5 (some (.array .byte)) ({ frames := 1, cells := 1, slots := 70, locals := 18 } : Room) #[(.ref d), (.int (0 : Int32)), (.int (Int32.ofNat xs.length))] h0 [] (fun v h sf => ∃ t kt, v = some (.ref t) ∧ h0.size ≤ t ∧ Keep h0 h [] ∧ Arv Z h t kt .byte (Int32.ofNat xs.length) (xs.map Value.int) (.int 0) ∧ sf t) := by
  refine Ct.of (a0 := a0) #[.val (.ref d), .val (.int (0 : Int32)), .val (.int (Int32.ofNat xs.length)), .unset, .unset] hEW O (plainFor_of_name pl_java_util_Arrays) (fun m => by first | (simp [entryFrame, mkF, argsToLocals, Value.category]; done) | rfl) ?_
  intro p_ e_ s_ m_ below_ meth_ c_ b_ T_ K hSP
  have KP := Keep.refl h0 []
  have hn := own_of (n := xs.length) (by omega)
  have cn := own_clamp hn
  have cc := own_clamp hcp
  have hn0 : ¬ (Int32.ofNat xs.length) < 0 := by rw [own_i32, hn, own_0]; omega
  refine k_iloadN K d_jdk_65_method_133_code_0 (pc' := 1) rfl rfl ?_
  refine k_iloadN K d_jdk_65_method_133_code_1 (pc' := 2) rfl rfl ?_
  refine k_staticP K [(.int (0 : Int32)), (.int (Int32.ofNat xs.length))] [] 0 (w227 hw) (w228 hw) (w157 hw) (w229 hw) (by decide) pd__II_V_999 (c_ckl l Z a0 hw hEW n0 0 (Int32.ofNat xs.length) h0 K.old hn0) d_jdk_65_method_133_code_2 nofun (pc' := 5) rfl rfl rfl rfl (Nat.le_of_eq rfl) (by decide) (by decide) (by decide) (by decide) ?_
  intro b51 T51 L51 K51 tr51
  show Goes p_.tables e_ below_ _ (T51.setTop (mkF m_ 5 #[.val (.ref d), .val (.int (0 : Int32)), .val (.int (Int32.ofNat xs.length)), .unset, .unset] []))
  refine k_iloadN K51 d_jdk_65_method_133_code_5 (pc' := 6) rfl rfl ?_
  refine k_iloadN K51 d_jdk_65_method_133_code_6 (pc' := 7) rfl rfl ?_
  refine k_isub K51 d_jdk_65_method_133_code_7 (pc' := 8) rfl ?_
  refine k_istoreN K51 d_jdk_65_method_133_code_8 (pc' := 9) (L' := #[.val (.ref d), .val (.int (0 : Int32)), .val (.int (Int32.ofNat xs.length)), .val (.int ((Int32.ofNat xs.length) - (0 : Int32))), .unset]) rfl rfl ?_
  refine k_iloadN K51 d_jdk_65_method_133_code_9 (pc' := 10) rfl rfl ?_
  rw [show (Int32.ofNat xs.length) - 0 = (Int32.ofNat xs.length) by simp]
  refine k_newarray K51 (aty := .byte) (z := (Int32.ofNat xs.length)) (w43 hw) hn0 (cap := 70) (by rw [cn]; exact hx) (by decide) d_jdk_65_method_133_code_10 (pc' := 12) rfl (by decide) (by decide) ?_
  intro T52 h52 a52 ka52 g52 K52 E52 tr52 sf_a52 V_a52
  have ga_a52 : n0 ≤ a52 := own_old K51.old g52
  have sz_a52 : h0.size ≤ a52 := g52 ▸ KP.1
  have ne_d_a52 : d ≠ a52 := own_ne V_d.lt g52
  replace V_d := V_d.ext E52
  replace KP := KP.ext E52
  replace V_a52 : Arv Z h52 a52 ka52 .byte (Int32.ofNat xs.length) (List.replicate xs.length (.int (0 : Int32))) (.int (0 : Int32)) := V_a52.pad (pad_rep [] (.int (0 : Int32)) xs.length)
  refine k_astore K52 d_jdk_65_method_133_code_12 (pc' := 14) (L' := #[.val (.ref d), .val (.int (0 : Int32)), .val (.int (Int32.ofNat xs.length)), .val (.int (Int32.ofNat xs.length)), .val (.ref a52)]) rfl rfl rfl ?_
  refine k_aloadN K52 d_jdk_65_method_133_code_14 (pc' := 15) rfl rfl rfl ?_
  refine k_iloadN K52 d_jdk_65_method_133_code_15 (pc' := 16) rfl rfl ?_
  refine k_aload K52 d_jdk_65_method_133_code_16 (pc' := 18) rfl rfl rfl ?_
  refine k_iconst K52 (0 : Int32) d_jdk_65_method_133_code_18 (pc' := 19) rfl rfl ?_
  refine k_aloadN K52 d_jdk_65_method_133_code_19 (pc' := 20) rfl rfl rfl ?_
  refine k_len K52 V_d d_jdk_65_method_133_code_20 (pc' := 21) rfl ?_
  refine k_iloadN K52 d_jdk_65_method_133_code_21 (pc' := 22) rfl rfl ?_
  refine k_isub K52 d_jdk_65_method_133_code_22 (pc' := 23) rfl ?_
  rw [show cp - 0 = cp by simp]
  refine k_iloadN K52 d_jdk_65_method_133_code_23 (pc' := 24) rfl rfl ?_
  refine k_staticP K52 [(.int cp), (.int (Int32.ofNat xs.length))] [(.int (0 : Int32)), (.ref a52), (.int (0 : Int32)), (.ref d)] 4 (w220 hw) (w221 hw) (w3 hw) (w222 hw) (by decide) pd__II_I_934 (c_mmin l Z a0 hw hEW n0 cp (Int32.ofNat xs.length) h52 K52.old ) d_jdk_65_method_133_code_24 nofun (pc' := 27) rfl rfl rfl rfl (Nat.le_of_eq rfl) (by decide) (by decide) (by decide) (by decide) ?_
  intro b53 T53 L53 K53 tr53
  show Goes p_.tables e_ below_ _ (T53.setTop (mkF m_ 27 #[.val (.ref d), .val (.int (0 : Int32)), .val (.int (Int32.ofNat xs.length)), .val (.int (Int32.ofNat xs.length)), .val (.ref a52)] [(.int (if (Int32.ofNat xs.length) < cp then (Int32.ofNat xs.length) else cp)), (.int (0 : Int32)), (.ref a52), (.int (0 : Int32)), (.ref d)]))
  replace sf_a52 := tr53 a52 V_a52.lt sf_a52
  have hmn : (if (Int32.ofNat xs.length) < cp then (Int32.ofNat xs.length) else cp) = (Int32.ofNat xs.length) := by
    split
    · rfl
    · rename_i q
      exact own_i32e (by rw [own_i32, hn, hcp] at q; rw [hn, hcp]; omega)
  rw [hmn]
  refine k_arraycopy K53 (sp := (0 : Int32)) (dp := (0 : Int32)) (nn := (Int32.ofNat xs.length)) (us := (xs.map Value.int)) (w223 hw) (w103 hw) (w101 hw) (w102 hw) V_d V_a52 rfl (by decide) (by decide) hn0 (by rw [cn, cc]; exact Nat.le_trans (Nat.le_of_eq (Nat.zero_add _)) (Nat.le_add_right _ _)) (by rw [cn]; exact Nat.le_of_eq (Nat.zero_add _)) (by rw [cn, own_range0 _ xs.length (by rw [List.length_append, List.length_map]; omega), List.take_append_of_le_length (by rw [List.length_map]; exact Nat.le_refl _), List.take_of_length_le (by rw [List.length_map]; exact Nat.le_refl _)]) (by rw [cn, List.length_replicate]; exact Nat.le_of_eq (Nat.zero_add _)) ga_a52 sf_a52 d_jdk_65_method_133_code_27 (pc' := 30) rfl rfl (by decide) 0 (Nat.le_of_eq rfl) (by decide) ?_
  intro T54 h54 L54 K54 KQ54 tr54 V54
  replace sf_a52 := tr54 a52 V_a52.lt sf_a52
  replace V_d := V_d.keep KQ54 (ninS ne_d_a52 nin0)
  replace KP := KP.trans KQ54 (allS (Or.inr sz_a52) all0)
  replace V_a52 := V54
  show Goes p_.tables e_ below_ _ (T54.setTop (mkF m_ 30 #[.val (.ref d), .val (.int (0 : Int32)), .val (.int (Int32.ofNat xs.length)), .val (.int (Int32.ofNat xs.length)), .val (.ref a52)] []))
  replace V_a52 : Arv Z h54 a52 ka52 .byte (Int32.ofNat xs.length) (xs.map Value.int) (.int 0) := by
    have e1 : List.take (0 : Int32).toNatClampNeg (List.replicate xs.length (Value.int 0)) ++ xs.map Value.int ++ List.drop ((0 : Int32).toNatClampNeg + (Int32.ofNat xs.length).toNatClampNeg) (List.replicate xs.length (Value.int 0)) = xs.map Value.int := by
      rw [cn, show (0 : Int32).toNatClampNeg = 0 by decide]; simp
    rw [e1] at V_a52; exact V_a52
  refine k_aload K54 d_jdk_65_method_133_code_30 (pc' := 32) rfl rfl rfl ?_
  exact k_aret K54 d_jdk_65_method_133_code_32 rfl rfl rfl (fun sf ht => ⟨a52, ka52, rfl, sz_a52, KP, V_a52, ht _ V_a52.lt sf_a52⟩) (by decide) (by decide)
theorem d_jdk_65_method_132_code_0 : decode jdk_65_method_132_code 0 = .ok (.iload_n 1, 1) := by decide +kernel
theorem d_jdk_65_method_132_code_1 : decode jdk_65_method_132_code 1 = .ok (.ifCond .ne 9, 3) := by decide +kernel
theorem d_jdk_65_method_132_code_4 : decode jdk_65_method_132_code 4 = .ok (.iload_n 2, 1) := by decide +kernel
theorem d_jdk_65_method_132_code_5 : decode jdk_65_method_132_code 5 = .ok (.aload_n 0, 1) := by decide +kernel
theorem d_jdk_65_method_132_code_6 : decode jdk_65_method_132_code 6 = .ok (.arraylength, 1) := by decide +kernel
theorem d_jdk_65_method_132_code_7 : decode jdk_65_method_132_code 7 = .ok (.if_icmp .eq 10, 3) := by decide +kernel
theorem w160 {Z : State} {a0 : Array Value} (hw : Tb a0 Z) : (Jvm.Cond.sameMethod "[B" "java/lang/Object" "clone" "()Ljava/lang/Object;").before a0 Z = true := hw _ (List.mem_of_getElem? (i := 160) rfl)
theorem d_jdk_65_method_132_code_17 : decode jdk_65_method_132_code 17 = .ok (.aload_n 0, 1) := by decide +kernel
theorem d_jdk_65_method_132_code_18 : decode jdk_65_method_132_code 18 = .ok (.invokevirtual 310, 3) := by decide +kernel
theorem w159 {Z : State} {a0 : Array Value} (hw : Tb a0 Z) : (Jvm.Cond.methodLink "java/util/Arrays" (310 : Nat) ({ cls := "[B", name := "clone", desc := "()Ljava/lang/Object;" } : Jvm.MethodName)).before a0 Z = true := hw _ (List.mem_of_getElem? (i := 159) rfl)
theorem w164 {Z : State} {a0 : Array Value} (hw : Tb a0 Z) : (Jvm.Cond.native ({ cls := "java/lang/Object", name := "clone", desc := "()Ljava/lang/Object;" } : Jvm.MethodName)).before a0 Z = true := hw _ (List.mem_of_getElem? (i := 164) rfl)
theorem w162 {Z : State} {a0 : Array Value} (hw : Tb a0 Z) : (Jvm.Cond.instanceMethod ({ cls := "java/lang/Object", name := "clone", desc := "()Ljava/lang/Object;" } : Jvm.MethodName)).before a0 Z = true := hw _ (List.mem_of_getElem? (i := 162) rfl)
theorem w163 {Z : State} {a0 : Array Value} (hw : Tb a0 Z) : (Jvm.Cond.selects "[B" ({ cls := "[B", name := "clone", desc := "()Ljava/lang/Object;" } : Jvm.MethodName) ({ cls := "java/lang/Object", name := "clone", desc := "()Ljava/lang/Object;" } : Jvm.MethodName)).before a0 Z = true := hw _ (List.mem_of_getElem? (i := 163) rfl)
theorem w165 {Z : State} {a0 : Array Value} (hw : Tb a0 Z) : (Jvm.Cond.castable "[B" "java/lang/Cloneable").before a0 Z = true := hw _ (List.mem_of_getElem? (i := 165) rfl)
theorem d_jdk_65_method_132_code_21 : decode jdk_65_method_132_code 21 = .ok (.checkcast 311, 3) := by decide +kernel
theorem w166 {Z : State} {a0 : Array Value} (hw : Tb a0 Z) : (Jvm.Cond.classLink "java/util/Arrays" (311 : Nat) "[B").before a0 Z = true := hw _ (List.mem_of_getElem? (i := 166) rfl)
theorem d_jdk_65_method_132_code_24 : decode jdk_65_method_132_code 24 = .ok (.areturn, 1) := by decide +kernel
theorem d_jdk_65_method_132_code_10 : decode jdk_65_method_132_code 10 = .ok (.aload_n 0, 1) := by decide +kernel
theorem d_jdk_65_method_132_code_11 : decode jdk_65_method_132_code 11 = .ok (.iload_n 1, 1) := by decide +kernel
theorem d_jdk_65_method_132_code_12 : decode jdk_65_method_132_code 12 = .ok (.iload_n 2, 1) := by decide +kernel
theorem d_jdk_65_method_132_code_13 : decode jdk_65_method_132_code 13 = .ok (.invokestatic 339, 3) := by decide +kernel
theorem w224 {Z : State} {a0 : Array Value} (hw : Tb a0 Z) : (Jvm.Cond.methodLink "java/util/Arrays" (339 : Nat) ({ cls := "java/util/Arrays", name := "copyOfRangeByte", desc := "([BII)[B" } : Jvm.MethodName)).before a0 Z = true := hw _ (List.mem_of_getElem? (i := 224) rfl)
theorem w226 {Z : State} {a0 : Array Value} (hw : Tb a0 Z) : (Jvm.Cond.code ({ cls := "java/util/Arrays", name := "copyOfRangeByte", desc := "([BII)[B" } : Jvm.MethodName) jdk_65_method_133_code (5 : Nat) (Option.some (Jvm.ClassFile.FieldType.array Jvm.ClassFile.FieldType.byte))).before a0 Z = true := hw _ (List.mem_of_getElem? (i := 226) rfl)
theorem w225 {Z : State} {a0 : Array Value} (hw : Tb a0 Z) : (Jvm.Cond.static ({ cls := "java/util/Arrays", name := "copyOfRangeByte", desc := "([BII)[B" } : Jvm.MethodName)).before a0 Z = true := hw _ (List.mem_of_getElem? (i := 225) rfl)
theorem pd___BII__B_2488 : parseMethodDescriptor "([BII)[B" = some ⟨[(.array .byte), .int, .int], some (.array .byte)⟩ := by decide +kernel
theorem d_jdk_65_method_132_code_16 : decode jdk_65_method_132_code 16 = .ok (.areturn, 1) := by decide +kernel
set_option maxRecDepth 65536 in
set_option maxHeartbeats 40000000 in
theorem c_cr (l : Launch) (Z : State) (a0 : Array Value) (hw : Tb a0 Z) (hEW : EW Z a0 EL0) (n0 : Nat) (d : Addr) (kd : ClassId) (cp : Int32) (xs : List Int32) (ys : List Value) (h0 : Heap) (O : Old Z n0 h0) (hcp : cp.toInt = (xs.length + ys.length : Nat)) (hcb : xs.length + ys.length ≤ 142) (hx : xs.length ≤ 70) (V_d : Arv Z h0 d kd .byte cp (xs.map Value.int ++ ys) (.int 0)) (X_d : Exa Z h0 d "[B") :
    Ct l Z EL0 n0 (⟨"java/util/Arrays", "copyOfRange", "([BII)[B"⟩ : MethodName) jdk_65_method_132_code 3 (some (.array .byte)) ({ frames := 2, cells := 1, slots := 142, locals := 34 } : Room) #[(.ref d), (.int (0 : Int32)), (.int (Int32.ofNat xs.length))] h0 [] (fun v h sf => ∃ t kt, v = some (.ref t) ∧ h0.size ≤ t ∧ Keep h0 h [] ∧ Arv Z h t kt .byte (Int32.ofNat xs.length) (xs.map Value.int) (.int 0) ∧ sf t) := by
  refine Ct.of (a0 := a0) #[.val (.ref d), .val (.int (0 : Int32)), .val (.int (Int32.ofNat xs.length))] hEW O (plainFor_of_name pl_java_util_Arrays) (fun m => by first | (simp [entryFrame, mkF, argsToLocals, Value.category]; done) | rfl) ?_
  intro p_ e_ s_ m_ below_ meth_ c_ b_ T_ K hSP
  have KP := Keep.refl h0 []
  have hn := own_of (n := xs.length) (by omega)
  refine k_iloadN K d_jdk_65_method_132_code_0 (pc' := 1) rfl rfl ?_
  refine k_if_ne K d_jdk_65_method_132_code_1 (by decide) (pc' := 10) (pc2 := 4) (by decide) rfl (fun q => absurd (by decide) q) (fun hc1 => ?_)
  refine k_iloadN K d_jdk_65_method_132_code_4 (pc' := 5) rfl rfl ?_
  refine k_aloadN K d_jdk_65_method_132_code_5 (pc' := 6) rfl rfl rfl ?_
  refine k_len K V_d d_jdk_65_method_132_code_6 (pc' := 7) rfl ?_
  refine k_icmp_eq K d_jdk_65_method_132_code_7 (by decide) (pc' := 17) (pc2 := 10) (by decide) rfl (fun hc7 => ?_) (fun hc7 => ?_)
  · have hy : ys = [] := List.eq_nil_of_length_eq_zero (by have q := congrArg Int32.toInt hc7; rw [hn, hcp] at q; omega)
    subst hy
    rw [List.append_nil] at V_d
    refine k_aloadN K d_jdk_65_method_132_code_17 (pc' := 18) rfl rfl rfl ?_
    refine k_cloneH K (w159 hw) (w160 hw) (w164 hw) (w162 hw) (w163 hw) (w165 hw) V_d X_d d_jdk_65_method_132_code_18 (pc' := 21) rfl rfl (by decide) 0 (Nat.le_of_eq rfl) (by decide) (cap := 142) (by rw [own_clamp hcp]; exact hcb) (by decide) (by decide) ?_
    intro T55 h55 a55 g55 K55 E55 tr55 sf_a55 V_a55 X_a55
    have ga_a55 : n0 ≤ a55 := own_old K.old g55
    have sz_a55 : h0.size ≤ a55 := g55 ▸ KP.1
    have ne_d_a55 : d ≠ a55 := own_ne V_d.lt g55
    replace V_d := V_d.ext E55
    replace X_d := X_d.ext E55
    replace KP := KP.ext E55
    refine k_castY K55 (w166 hw) (Ins.self X_a55) d_jdk_65_method_132_code_21 (pc' := 24) rfl ?_
    intro T56 K56
    exact k_aret K56 d_jdk_65_method_132_code_24 rfl rfl rfl (fun sf ht => ⟨a55, kd, rfl, sz_a55, KP, by rw [hc7]; exact V_a55, ht _ V_a55.lt sf_a55⟩) (by decide) (by decide)
  · refine k_aloadN K d_jdk_65_method_132_code_10 (pc' := 11) rfl rfl rfl ?_
    refine k_iloadN K d_jdk_65_method_132_code_11 (pc' := 12) rfl rfl ?_
    refine k_iloadN K d_jdk_65_method_132_code_12 (pc' := 13) rfl rfl ?_
    refine k_static K [(.ref d), (.int (0 : Int32)), (.int (Int32.ofNat xs.length))] [] 0 (w224 hw) (w225 hw) (w157 hw) (w226 hw) (by decide) pd___BII__B_2488 (c_crb l Z a0 hw hEW n0 d kd cp xs ys h0 K.old hcp hcb hx V_d X_d) d_jdk_65_method_132_code_13 nofun (pc' := 16) rfl rfl rfl rfl (Nat.le_of_eq rfl) (by decide) (by decide) (by decide) (by decide) ?_
    intro b57 T57 h57 L57 v57 K57 tr57 q57
    obtain ⟨t, kt, rfl, r1, r2, r3, r4⟩ := q57
    show Goes p_.tables e_ below_ _ (T57.setTop (mkF m_ 16 #[.val (.ref d), .val (.int (0 : Int32)), .val (.int (Int32.ofNat xs.length))] [(.ref t)]))
    exact k_aret K57 d_jdk_65_method_132_code_16 rfl rfl rfl (fun sf ht => ⟨t, kt, rfl, r1, r2, r3, ht _ r3.lt r4⟩) (by decide) (by decide)
theorem d_jdk_42_method_150_code_0 : decode jdk_42_method_150_code 0 = .ok (.aload_n 0, 1) := by decide +kernel
theorem d_jdk_42_method_150_code_1 : decode jdk_42_method_150_code 1 = .ok (.invokespecial 1, 3) := by decide +kernel
theorem w140 {Z : State} {a0 : Array Value} (hw : Tb a0 Z) : (Jvm.Cond.methodLink "java/lang/String" (1 : Nat) ({ cls := "java/lang/Object", name := "<init>", desc := "()V" } : Jvm.MethodName)).before a0 Z = true := hw _ (List.mem_of_getElem? (i := 140) rfl)
theorem d_jdk_42_method_150_code_4 : decode jdk_42_method_150_code 4 = .ok (.aload_n 1, 1) := by decide +kernel
theorem d_jdk_42_method_150_code_5 : decode jdk_42_method_150_code 5 = .ok (.invokevirtual 552, 3) := by decide +kernel
theorem w141 {Z : State} {a0 : Array Value} (hw : Tb a0 Z) : (Jvm.Cond.methodLink "java/lang/String" (552 : Nat) ({ cls := "java/lang/AbstractStringBuilder", name := "getValue", desc := "()[B" } : Jvm.MethodName)).before a0 Z = true := hw _ (List.mem_of_getElem? (i := 141) rfl)
theorem w145 {Z : State} {a0 : Array Value} (hw : Tb a0 Z) : (Jvm.Cond.code ({ cls := "java/lang/AbstractStringBuilder", name := "getValue", desc := "()[B" } : Jvm.MethodName) jdk_68_method_64_code (1 : Nat) (Option.some (Jvm.ClassFile.FieldType.array Jvm.ClassFile.FieldType.byte))).before a0 Z = true := hw _ (List.mem_of_getElem? (i := 145) rfl)
theorem w144 {Z : State} {a0 : Array Value} (hw : Tb a0 Z) : (Jvm.Cond.selects "java/lang/StringBuilder" ({ cls := "java/lang/AbstractStringBuilder", name := "getValue", desc := "()[B" } : Jvm.MethodName) ({ cls := "java/lang/AbstractStringBuilder", name := "getValue", desc := "()[B" } : Jvm.MethodName)).before a0 Z = true := hw _ (List.mem_of_getElem? (i := 144) rfl)
theorem w142 {Z : State} {a0 : Array Value} (hw : Tb a0 Z) : (Jvm.Cond.declares ({ cls := "java/lang/AbstractStringBuilder", name := "getValue", desc := "()[B" } : Jvm.MethodName)).before a0 Z = true := hw _ (List.mem_of_getElem? (i := 142) rfl)
theorem w143 {Z : State} {a0 : Array Value} (hw : Tb a0 Z) : (Jvm.Cond.instanceMethod ({ cls := "java/lang/AbstractStringBuilder", name := "getValue", desc := "()[B" } : Jvm.MethodName)).before a0 Z = true := hw _ (List.mem_of_getElem? (i := 143) rfl)
theorem pd____B_659 : parseMethodDescriptor "()[B" = some ⟨[], some (.array .byte)⟩ := by decide +kernel
theorem d_jdk_42_method_150_code_8 : decode jdk_42_method_150_code 8 = .ok (.astore_n 3, 1) := by decide +kernel
theorem d_jdk_42_method_150_code_9 : decode jdk_42_method_150_code 9 = .ok (.aload_n 1, 1) := by decide +kernel
theorem d_jdk_42_method_150_code_10 : decode jdk_42_method_150_code 10 = .ok (.invokevirtual 549, 3) := by decide +kernel
theorem w146 {Z : State} {a0 : Array Value} (hw : Tb a0 Z) : (Jvm.Cond.methodLink "java/lang/String" (549 : Nat) ({ cls := "java/lang/AbstractStringBuilder", name := "length", desc := "()I" } : Jvm.MethodName)).before a0 Z = true := hw _ (List.mem_of_getElem? (i := 146) rfl)
theorem w30 {Z : State} {a0 : Array Value} (hw : Tb a0 Z) : (Jvm.Cond.initialized "java/lang/StringBuilder").before a0 Z = true := hw _ (List.mem_of_getElem? (i := 30) rfl)
theorem w151 {Z : State} {a0 : Array Value} (hw : Tb a0 Z) : (Jvm.Cond.code ({ cls := "java/lang/StringBuilder", name := "length", desc := "()I" } : Jvm.MethodName) jdk_67_method_93_code (1 : Nat) (Option.some Jvm.ClassFile.FieldType.int)).before a0 Z = true := hw _ (List.mem_of_getElem? (i := 151) rfl)
theorem w149 {Z : State} {a0 : Array Value} (hw : Tb a0 Z) : (Jvm.Cond.selects "java/lang/StringBuilder" ({ cls := "java/lang/AbstractStringBuilder", name := "length", desc := "()I" } : Jvm.MethodName) ({ cls := "java/lang/StringBuilder", name := "length", desc := "()I" } : Jvm.MethodName)).before a0 Z = true := hw _ (List.mem_of_getElem? (i := 149) rfl)
theorem w147 {Z : State} {a0 : Array Value} (hw : Tb a0 Z) : (Jvm.Cond.declares ({ cls := "java/lang/AbstractStringBuilder", name := "length", desc := "()I" } : Jvm.MethodName)).before a0 Z = true := hw _ (List.mem_of_getElem? (i := 147) rfl)
theorem w150 {Z : State} {a0 : Array Value} (hw : Tb a0 Z) : (Jvm.Cond.instanceMethod ({ cls := "java/lang/StringBuilder", name := "length", desc := "()I" } : Jvm.MethodName)).before a0 Z = true := hw _ (List.mem_of_getElem? (i := 150) rfl)
theorem d_jdk_42_method_150_code_13 : decode jdk_42_method_150_code 13 = .ok (.istore 4, 2) := by decide +kernel
theorem d_jdk_42_method_150_code_15 : decode jdk_42_method_150_code 15 = .ok (.aload_n 1, 1) := by decide +kernel
theorem d_jdk_42_method_150_code_16 : decode jdk_42_method_150_code 16 = .ok (.invokevirtual 1047, 3) := by decide +kernel
theorem w154 {Z : State} {a0 : Array Value} (hw : Tb a0 Z) : (Jvm.Cond.methodLink "java/lang/String" (1047 : Nat) ({ cls := "java/lang/AbstractStringBuilder", name := "isLatin1", desc := "()Z" } : Jvm.MethodName)).before a0 Z = true := hw _ (List.mem_of_getElem? (i := 154) rfl)
theorem w121 {Z : State} {a0 : Array Value} (hw : Tb a0 Z) : (Jvm.Cond.code ({ cls := "java/lang/AbstractStringBuilder", name := "isLatin1", desc := "()Z" } : Jvm.MethodName) jdk_68_method_68_code (1 : Nat) (Option.some Jvm.ClassFile.FieldType.boolean)).before a0 Z = true := hw _ (List.mem_of_getElem? (i := 121) rfl)
theorem w120 {Z : State} {a0 : Array Value} (hw : Tb a0 Z) : (Jvm.Cond.selects "java/lang/StringBuilder" ({ cls := "java/lang/AbstractStringBuilder", name := "isLatin1", desc := "()Z" } : Jvm.MethodName) ({ cls := "java/lang/AbstractStringBuilder", name := "isLatin1", desc := "()Z" } : Jvm.MethodName)).before a0 Z = true := hw _ (List.mem_of_getElem? (i := 120) rfl)
theorem w118 {Z : State} {a0 : Array Value} (hw : Tb a0 Z) : (Jvm.Cond.declares ({ cls := "java/lang/AbstractStringBuilder", name := "isLatin1", desc := "()Z" } : Jvm.MethodName)).before a0 Z = true := hw _ (List.mem_of_getElem? (i := 118) rfl)
theorem w119 {Z : State} {a0 : Array Value} (hw : Tb a0 Z) : (Jvm.Cond.instanceMethod ({ cls := "java/lang/AbstractStringBuilder", name := "isLatin1", desc := "()Z" } : Jvm.MethodName)).before a0 Z = true := hw _ (List.mem_of_getElem? (i := 119) rfl)
theorem pd___Z_392 : parseMethodDescriptor "()Z" = some ⟨[], some .boolean⟩ := by decide +kernel
theorem d_jdk_42_method_150_code_19 : decode jdk_42_method_150_code 19 = .ok (.ifCond .eq 22, 3) := by decide +kernel
theorem d_jdk_42_method_150_code_22 : decode jdk_42_method_150_code 22 = .ok (.aload_n 0, 1) := by decide +kernel
theorem d_jdk_42_method_150_code_23 : decode jdk_42_method_150_code 23 = .ok (.iconst 0, 1) := by decide +kernel
theorem d_jdk_42_method_150_code_24 : decode jdk_42_method_150_code 24 = .ok (.putfield 15, 3) := by decide +kernel
theorem w51 {Z : State} {a0 : Array Value} (hw : Tb a0 Z) : (Jvm.Cond.laysFinal "java/lang/String" "java/lang/String" "coder" "B").before a0 Z = true := hw _ (List.mem_of_getElem? (i := 51) rfl)
theorem w49 {Z : State} {a0 : Array Value} (hw : Tb a0 Z) : (Jvm.Cond.instantiable "java/lang/String" (4 : Nat)).before a0 Z = true := hw _ (List.mem_of_getElem? (i := 49) rfl)
theorem w50 {Z : State} {a0 : Array Value} (hw : Tb a0 Z) : (Jvm.Cond.laysFinal "java/lang/String" "java/lang/String" "value" "[B").before a0 Z = true := hw _ (List.mem_of_getElem? (i := 50) rfl)
theorem d_jdk_42_method_150_code_27 : decode jdk_42_method_150_code 27 = .ok (.aload_n 0, 1) := by decide +kernel
theorem d_jdk_42_method_150_code_28 : decode jdk_42_method_150_code 28 = .ok (.aload_n 3, 1) := by decide +kernel
theorem d_jdk_42_method_150_code_29 : decode jdk_42_method_150_code 29 = .ok (.iconst 0, 1) := by decide +kernel
theorem d_jdk_42_method_150_code_30 : decode jdk_42_method_150_code 30 = .ok (.iload 4, 2) := by decide +kernel
theorem d_jdk_42_method_150_code_32 : decode jdk_42_method_150_code 32 = .ok (.invokestatic 54, 3) := by decide +kernel
theorem w155 {Z : State} {a0 : Array Value} (hw : Tb a0 Z) : (Jvm.Cond.methodLink "java/lang/String" (54 : Nat) ({ cls := "java/util/Arrays", name := "copyOfRange", desc := "([BII)[B" } : Jvm.MethodName)).before a0 Z = true := hw _ (List.mem_of_getElem? (i := 155) rfl)
theorem w158 {Z : State} {a0 : Array Value} (hw : Tb a0 Z) : (Jvm.Cond.code ({ cls := "java/util/Arrays", name := "copyOfRange", desc := "([BII)[B" } : Jvm.MethodName) jdk_65_method_132_code (3 : Nat) (Option.some (Jvm.ClassFile.FieldType.array Jvm.ClassFile.FieldType.byte))).before a0 Z = true := hw _ (List.mem_of_getElem? (i := 158) rfl)
theorem w156 {Z : State} {a0 : Array Value} (hw : Tb a0 Z) : (Jvm.Cond.static ({ cls := "java/util/Arrays", name := "copyOfRange", desc := "([BII)[B" } : Jvm.MethodName)).before a0 Z = true := hw _ (List.mem_of_getElem? (i := 156) rfl)
theorem d_jdk_42_method_150_code_35 : decode jdk_42_method_150_code 35 = .ok (.putfield 9, 3) := by decide +kernel
theorem d_jdk_42_method_150_code_38 : decode jdk_42_method_150_code 38 = .ok (.goto 59, 3) := by decide +kernel
theorem d_jdk_42_method_150_code_97 : decode jdk_42_method_150_code 97 = .ok (.return_, 1) := by decide +kernel
set_option maxRecDepth 65536 in
set_option maxHeartbeats 40000000 in
theorem c_si (l : Launch) (Z : State) (a0 : Array Value) (hw : Tb a0 Z) (hEW : EW Z a0 EL0) (n0 : Nat) (sb d : Addr) (kd : ClassId) (cp : Int32) (xs : List Int32) (ys : List Value) (a : Addr) (u1 u2 : Value) (cs0 : Int32) (h0 : Heap) (O : Old Z n0 h0) (B : Sbd Z h0 sb d kd cp xs ys) (hx : xs.length ≤ 70) (X_a : Exa Z h0 a "java/lang/String") (F_a_value : Fld Z h0 a "java/lang/String" "value" "[B" u1) (F_a_coder : Fld Z h0 a "java/lang/String" "coder" "B" u2) (ga_a : n0 ≤ a) (ne_d_a : d ≠ a) (SC : Sta Z Z.heap "java/lang/String" "COMPACT_STRINGS" "Z" (.int cs0)) (hcs : ¬ cs0 = 0) :
    Ct l Z EL0 n0 (⟨"java/lang/String", "<init>", "(Ljava/lang/AbstractStringBuilder;Ljava/lang/Void;)V"⟩ : MethodName) jdk_42_method_150_code 5 none ({ frames := 3, cells := 1, slots := 142, locals := 49 } : Room) #[(.ref a), (.ref sb), .null] h0 [a] (fun v h sf => v = none ∧ Keep h0 h [a] ∧ ∃ t kt, Str Z h a t kt 0 (Int32.ofNat xs.length) (xs.map Value.int)) := by
  refine Ct.of (a0 := a0) #[.val (.ref a), .val (.ref sb), .val .null, .unset, .unset] hEW O (plainFor_of_name pl_java_lang_String) (fun m => by first | (simp [entryFrame, mkF, argsToLocals, Value.category]; done) | rfl) ?_
  intro p_ e_ s_ m_ below_ meth_ c_ b_ T_ K hSP
  obtain ⟨X_sb, F_sb_value, F_sb_coder, F_sb_count, V_d, X_d, hcp, hcb⟩ := B
  have KP := Keep.refl h0 [a]
  have sf_a := hSP a (by simp)
  refine k_aloadN K d_jdk_42_method_150_code_0 (pc' := 1) rfl rfl rfl ?_
  refine k_initO K (w140 hw) (w17 hw) (w18 hw) d_jdk_42_method_150_code_1 (pc' := 4) rfl rfl (by decide) 0 (Nat.le_of_eq rfl) (by decide) ?_
  intro T58 K58
  refine k_aloadN K58 d_jdk_42_method_150_code_4 (pc' := 5) rfl rfl rfl ?_
  refine k_virtualP K58 [] [] 0 (w141 hw) (w142 hw) (w143 hw) (w144 hw) (w38 hw) (w145 hw) (notFace_of_selects (args := #[]) (mvT K58.hZ (w144 hw))) rfl (by decide) X_sb (by decide) pd____B_659 (c_gv l Z a0 hw hEW n0 sb d h0 K58.old F_sb_value) d_jdk_42_method_150_code_5 nofun (pc' := 8) rfl rfl rfl rfl (Nat.le_of_eq rfl) (by decide) (by decide) (by decide) (by decide) ?_
  intro b59 T59 L59 K59 tr59
  show Goes p_.tables e_ below_ _ (T59.setTop (mkF m_ 8 #[.val (.ref a), .val (.ref sb), .val .null, .unset, .unset] [(.ref d)]))
  replace sf_a := tr59 a X_a.lt sf_a
  refine k_astoreN K59 d_jdk_42_method_150_code_8 (pc' := 9) (L' := #[.val (.ref a), .val (.ref sb), .val .null, .val (.ref d), .unset]) rfl rfl rfl ?_
  refine k_aloadN K59 d_jdk_42_method_150_code_9 (pc' := 10) rfl rfl rfl ?_
  refine k_virtualP K59 [] [] 0 (w146 hw) (w147 hw) (w150 hw) (w149 hw) (w30 hw) (w151 hw) (own_nf (args := #[]) (y' := ({ cls := "java/lang/AbstractStringBuilder", name := "ensureCapacityInternal", desc := "(I)V" } : Jvm.MethodName)) rfl (mvT K59.hZ (w82 hw))) rfl (by decide) X_sb (by decide) pd___I_341 (c_sl l Z a0 hw hEW n0 sb (Int32.ofNat xs.length) h0 K59.old X_sb F_sb_count) d_jdk_42_method_150_code_10 nofun (pc' := 13) rfl rfl rfl rfl (Nat.le_of_eq rfl) (by decide) (by decide) (by decide) (by decide) ?_
  intro b60 T60 L60 K60 tr60
  show Goes p_.tables e_ below_ _ (T60.setTop (mkF m_ 13 #[.val (.ref a), .val (.ref sb), .val .null, .val (.ref d), .unset] [(.int (Int32.ofNat xs.length))]))
  replace sf_a := tr60 a X_a.lt sf_a
  refine k_istore K60 d_jdk_42_method_150_code_13 (pc' := 15) (L' := #[.val (.ref a), .val (.ref sb), .val .null, .val (.ref d), .val (.int (Int32.ofNat xs.length))]) rfl rfl ?_
  refine k_aloadN K60 d_jdk_42_method_150_code_15 (pc' := 16) rfl rfl rfl ?_
  refine k_virtualP K60 [] [] 0 (w154 hw) (w118 hw) (w119 hw) (w120 hw) (w38 hw) (w121 hw) (notFace_of_selects (args := #[]) (mvT K60.hZ (w120 hw))) rfl (by decide) X_sb (by decide) pd___Z_392 (c_ail l Z a0 hw hEW n0 sb cs0 h0 K60.old F_sb_coder SC hcs) d_jdk_42_method_150_code_16 nofun (pc' := 19) rfl rfl rfl rfl (Nat.le_of_eq rfl) (by decide) (by decide) (by decide) (by decide) ?_
  intro b61 T61 L61 K61 tr61
  show Goes p_.tables e_ below_ _ (T61.setTop (mkF m_ 19 #[.val (.ref a), .val (.ref sb), .val .null, .val (.ref d), .val (.int (Int32.ofNat xs.length))] [(.int (1 : Int32))]))
  replace sf_a := tr61 a X_a.lt sf_a
  refine k_if_eq K61 d_jdk_42_method_150_code_19 (by decide) (pc' := 41) (pc2 := 22) (by decide) rfl (fun q => absurd q (by decide)) (fun hc19 => ?_)
  refine k_aloadN K61 d_jdk_42_method_150_code_22 (pc' := 23) rfl rfl rfl ?_
  refine k_iconst K61 (0 : Int32) d_jdk_42_method_150_code_23 (pc' := 24) rfl rfl ?_
  refine k_putF K61 (w76 hw) Via.refl F_a_coder X_a (Or.inr ⟨(w51 hw), rfl, rfl⟩) (w49 hw) (ty := .byte) (by decide) rfl rfl ga_a sf_a d_jdk_42_method_150_code_24 (pc' := 27) rfl ?_
  intro T62 h62 K62 W62 tr62
  have F62 := F_a_coder.same W62
  replace sf_a := tr62 a X_a.lt sf_a
  replace X_a := X_a.wr W62
  replace F_a_value := F_a_value.other W62 (Or.inr (slot_ne (Or.inr (w50 hw)) (Or.inr (w51 hw)) (by decide) (t := (.array .byte)) (t' := .byte) (by decide) (by decide)))
  replace V_d := V_d.other W62 ne_d_a
  replace X_d := X_d.wr W62
  replace KP := KP.wr W62 (Or.inl (by simp))
  replace F_a_coder := F62
  refine k_aloadN K62 d_jdk_42_method_150_code_27 (pc' := 28) rfl rfl rfl ?_
  refine k_aloadN K62 d_jdk_42_method_150_code_28 (pc' := 29) rfl rfl rfl ?_
  refine k_iconst K62 (0 : Int32) d_jdk_42_method_150_code_29 (pc' := 30) rfl rfl ?_
  refine k_iload K62 d_jdk_42_method_150_code_30 (pc' := 32) rfl rfl ?_
  refine k_static K62 [(.ref d), (.int (0 : Int32)), (.int (Int32.ofNat xs.length))] [(.ref a)] 1 (w155 hw) (w156 hw) (w157 hw) (w158 hw) (by decide) pd___BII__B_2488 (c_cr l Z a0 hw hEW n0 d kd cp xs ys h62 K62.old hcp hcb hx V_d X_d) d_jdk_42_method_150_code_32 nofun (pc' := 35) rfl rfl rfl rfl (Nat.le_of_eq rfl) (by decide) (by decide) (by decide) (by decide) ?_
  intro b63 T63 h63 L63 v63 K63 tr63 q63
  obtain ⟨t, kt, rfl, r1, KQ, V_t, sf_t⟩ := q63
  have ga_t : n0 ≤ t := Nat.le_trans (own_n0 K62.old) r1
  have sz_t : h0.size ≤ t := Nat.le_trans KP.1 r1
  have ne_a_t : a ≠ t := own_ne2 X_a.lt r1
  have ne_d_t : d ≠ t := own_ne2 V_d.lt r1
  replace sf_a := tr63 a X_a.lt sf_a
  replace X_a := X_a.keep KQ
  replace F_a_value := F_a_value.keep KQ nin0
  replace F_a_coder := F_a_coder.keep KQ nin0
  replace V_d := V_d.keep KQ nin0
  replace X_d := X_d.keep KQ
  replace KP := KP.trans KQ all0
  show Goes p_.tables e_ below_ _ (T63.setTop (mkF m_ 35 #[.val (.ref a), .val (.ref sb), .val .null, .val (.ref d), .val (.int (Int32.ofNat xs.length))] [(.ref t), (.ref a)]))
  refine k_putF K63 (w69 hw) Via.refl F_a_value X_a (Or.inr ⟨(w50 hw), rfl, rfl⟩) (w49 hw) (ty := (.array .byte)) (by decide) rfl rfl ga_a sf_a d_jdk_42_method_150_code_35 (pc' := 38) rfl ?_
  intro T64 h64 K64 W64 tr64
  have F64 := F_a_value.same W64
  replace sf_a := tr64 a X_a.lt sf_a
  replace X_a := X_a.wr W64
  replace F_a_coder := F_a_coder.other W64 (Or.inr (slot_ne (Or.inr (w51 hw)) (Or.inr (w50 hw)) (by decide) (t := .byte) (t' := (.array .byte)) (by decide) (by decide)))
  replace V_d := V_d.other W64 ne_d_a
  replace X_d := X_d.wr W64
  replace V_t := V_t.other W64 (Ne.symm ne_a_t)
  replace KP := KP.wr W64 (Or.inl (by simp))
  replace F_a_value := F64
  refine k_goto K64 d_jdk_42_method_150_code_38 (by decide) (pc' := 97) (by decide) ?_
  exact k_return K64 d_jdk_42_method_150_code_97 rfl (fun sf ht => ⟨rfl, KP, t, kt, X_a, F_a_coder, F_a_value, V_t⟩) (by decide) (by decide)
theorem d_jdk_42_method_53_code_0 : decode jdk_42_method_53_code 0 = .ok (.aload_n 0, 1) := by decide +kernel
theorem d_jdk_42_method_53_code_1 : decode jdk_42_method_53_code 1 = .ok (.aload_n 1, 1) := by decide +kernel
theorem d_jdk_42_method_53_code_2 : decode jdk_42_method_53_code 2 = .ok (.aconst_null, 1) := by decide +kernel
theorem d_jdk_42_method_53_code_3 : decode jdk_42_method_53_code 3 = .ok (.invokespecial 489, 3) := by decide +kernel
theorem w137 {Z : State} {a0 : Array Value} (hw : Tb a0 Z) : (Jvm.Cond.methodLink "java/lang/String" (489 : Nat) ({ cls := "java/lang/String", name := "<init>", desc := "(Ljava/lang/AbstractStringBuilder;Ljava/lang/Void;)V" } : Jvm.MethodName)).before a0 Z = true := hw _ (List.mem_of_getElem? (i := 137) rfl)
theorem w139 {Z : State} {a0 : Array Value} (hw : Tb a0 Z) : (Jvm.Cond.code ({ cls := "java/lang/String", name := "<init>", desc := "(Ljava/lang/AbstractStringBuilder;Ljava/lang/Void;)V" } : Jvm.MethodName) jdk_42_method_150_code (5 : Nat) (Option.none : Option Jvm.ClassFile.FieldType)).before a0 Z = true := hw _ (List.mem_of_getElem? (i := 139) rfl)
theorem w138 {Z : State} {a0 : Array Value} (hw : Tb a0 Z) : (Jvm.Cond.instanceMethod ({ cls := "java/lang/String", name := "<init>", desc := "(Ljava/lang/AbstractStringBuilder;Ljava/lang/Void;)V" } : Jvm.MethodName)).before a0 Z = true := hw _ (List.mem_of_getElem? (i := 138) rfl)
theorem pd__Ljava_lang_AbstractStringBuilder_Ljava_lang_Void__V_7965 : parseMethodDescriptor "(Ljava/lang/AbstractStringBuilder;Ljava/lang/Void;)V" = some ⟨[(.object "java/lang/AbstractStringBuilder"), (.object "java/lang/Void")], none⟩ := by decide +kernel
theorem d_jdk_42_method_53_code_6 : decode jdk_42_method_53_code 6 = .ok (.return_, 1) := by decide +kernel
set_option maxRecDepth 65536 in
set_option maxHeartbeats 40000000 in
theorem c_si2 (l : Launch) (Z : State) (a0 : Array Value) (hw : Tb a0 Z) (hEW : EW Z a0 EL0) (n0 : Nat) (sb d : Addr) (kd : ClassId) (cp : Int32) (xs : List Int32) (ys : List Value) (a : Addr) (u1 u2 : Value) (cs0 : Int32) (h0 : Heap) (O : Old Z n0 h0) (B : Sbd Z h0 sb d kd cp xs ys) (hx : xs.length ≤ 70) (X_a : Exa Z h0 a "java/lang/String") (F_a_value : Fld Z h0 a "java/lang/String" "value" "[B" u1) (F_a_coder : Fld Z h0 a "java/lang/String" "coder" "B" u2) (ga_a : n0 ≤ a) (ne_d_a : d ≠ a) (SC : Sta Z Z.heap "java/lang/String" "COMPACT_STRINGS" "Z" (.int cs0)) (hcs : ¬ cs0 = 0) :
    Ct l Z EL0 n0 (⟨"java/lang/String", "<init>", "(Ljava/lang/StringBuilder;)V"⟩ : MethodName) jdk_42_method_53_code 2 none ({ frames := 4, cells := 1, slots := 142, locals := 65 } : Room) #[(.ref a), (.ref sb)] h0 [a] (fun v h sf => v = none ∧ Keep h0 h [a] ∧ ∃ t kt, Str Z h a t kt 0 (Int32.ofNat xs.length) (xs.map Value.int)) := by
  refine Ct.of (a0 := a0) #[.val (.ref a), .val (.ref sb)] hEW O (plainFor_of_name pl_java_lang_String) (fun m => by first | (simp [entryFrame, mkF, argsToLocals, Value.category]; done) | rfl) ?_
  intro p_ e_ s_ m_ below_ meth_ c_ b_ T_ K hSP
  refine k_aloadN K d_jdk_42_method_53_code_0 (pc' := 1) rfl rfl rfl ?_
  refine k_aloadN K d_jdk_42_method_53_code_1 (pc' := 2) rfl rfl rfl ?_
  refine k_aconst_null K d_jdk_42_method_53_code_2 (pc' := 3) rfl ?_
  refine k_special K [(.ref sb), .null] [] 0 (w137 hw) (w138 hw) (w42 hw) (w139 hw) rfl rfl (by decide) pd__Ljava_lang_AbstractStringBuilder_Ljava_lang_Void__V_7965 (c_si l Z a0 hw hEW n0 sb d kd cp xs ys a u1 u2 cs0 h0 K.old B hx X_a F_a_value F_a_coder ga_a ne_d_a SC hcs) d_jdk_42_method_53_code_3 (fun x hx => by cases List.mem_singleton.mp hx; exact ⟨X_a.lt, hSP _ (by simp)⟩) (pc' := 6) rfl rfl rfl rfl (Nat.le_of_eq rfl) (by decide) (by decide) (by decide) (by decide) ?_
  intro b65 T65 h65 L65 v65 K65 tr65 q65
  obtain ⟨rfl, KQ, t, kt, S⟩ := q65
  show Goes p_.tables e_ below_ _ (T65.setTop (mkF m_ 6 #[.val (.ref a), .val (.ref sb)] []))
  exact k_return K65 d_jdk_42_method_53_code_6 rfl (fun sf ht => ⟨rfl, KQ, t, kt, S⟩) (by decide) (by decide)
theorem d_jdk_67_method_42_code_0 : decode jdk_67_method_42_code 0 = .ok (.new 18, 3) := by decide +kernel
theorem w132 {Z : State} {a0 : Array Value} (hw : Tb a0 Z) : (Jvm.Cond.classLink "java/lang/StringBuilder" (18 : Nat) "java/lang/String").before a0 Z = true := hw _ (List.mem_of_getElem? (i := 132) rfl)
theorem d_jdk_67_method_42_code_3 : decode jdk_67_method_42_code 3 = .ok (.dup, 1) := by decide +kernel
theorem d_jdk_67_method_42_code_4 : decode jdk_67_method_42_code 4 = .ok (.aload_n 0, 1) := by decide +kernel
theorem d_jdk_67_method_42_code_5 : decode jdk_67_method_42_code 5 = .ok (.invokespecial 137, 3) := by decide +kernel
theorem w133 {Z : State} {a0 : Array Value} (hw : Tb a0 Z) : (Jvm.Cond.methodLink "java/lang/StringBuilder" (137 : Nat) ({ cls := "java/lang/String", name := "<init>", desc := "(Ljava/lang/StringBuilder;)V" } : Jvm.MethodName)).before a0 Z = true := hw _ (List.mem_of_getElem? (i := 133) rfl)
theorem w136 {Z : State} {a0 : Array Value} (hw : Tb a0 Z) : (Jvm.Cond.code ({ cls := "java/lang/String", name := "<init>", desc := "(Ljava/lang/StringBuilder;)V" } : Jvm.MethodName) jdk_42_method_53_code (2 : Nat) (Option.none : Option Jvm.ClassFile.FieldType)).before a0 Z = true := hw _ (List.mem_of_getElem? (i := 136) rfl)
theorem w134 {Z : State} {a0 : Array Value} (hw : Tb a0 Z) : (Jvm.Cond.instanceMethod ({ cls := "java/lang/String", name := "<init>", desc := "(Ljava/lang/StringBuilder;)V" } : Jvm.MethodName)).before a0 Z = true := hw _ (List.mem_of_getElem? (i := 134) rfl)
theorem pd__Ljava_lang_StringBuilder__V_7629 : parseMethodDescriptor "(Ljava/lang/StringBuilder;)V" = some ⟨[(.object "java/lang/StringBuilder")], none⟩ := by decide +kernel
theorem d_jdk_67_method_42_code_8 : decode jdk_67_method_42_code 8 = .ok (.areturn, 1) := by decide +kernel
set_option maxRecDepth 65536 in
set_option maxHeartbeats 40000000 in
theorem c_ts (l : Launch) (Z : State) (a0 : Array Value) (hw : Tb a0 Z) (hEW : EW Z a0 EL0) (n0 : Nat) (sb d : Addr) (kd : ClassId) (cp : Int32) (xs : List Int32) (ys : List Value) (cs0 : Int32) (h0 : Heap) (O : Old Z n0 h0) (B : Sbd Z h0 sb d kd cp xs ys) (hx : xs.length ≤ 70) (SC : Sta Z Z.heap "java/lang/String" "COMPACT_STRINGS" "Z" (.int cs0)) (hcs : ¬ cs0 = 0) :
    Ct l Z EL0 n0 (⟨"java/lang/StringBuilder", "toString", "()Ljava/lang/String;"⟩ : MethodName) jdk_67_method_42_code 1 (some (.object "java/lang/String")) ({ frames := 5, cells := 2, slots := 146, locals := 79 } : Room) #[(.ref sb)] h0 [] (fun v h sf => ∃ a t kt, v = some (.ref a) ∧ Keep h0 h [] ∧ Str Z h a t kt 0 (Int32.ofNat xs.length) (xs.map Value.int)) := by
  refine Ct.of (a0 := a0) #[.val (.ref sb)] hEW O (plainFor_of_name pl_java_lang_StringBuilder) (fun m => by first | (simp [entryFrame, mkF, argsToLocals, Value.category]; done) | rfl) ?_
  intro p_ e_ s_ m_ below_ meth_ c_ b_ T_ K hSP
  obtain ⟨X_sb, F_sb_value, F_sb_coder, F_sb_count, V_d, X_d, hcp, hcb⟩ := B
  have KP := Keep.refl h0 []
  refine k_new K (w132 hw) (w49 hw) (w42 hw) d_jdk_67_method_42_code_0 (pc' := 3) rfl (by decide) (by decide) ?_
  intro T66 h66 a66 g66 K66 E66 tr66 sf_a66 X_a66 D66 U66
  have ga_a66 : n0 ≤ a66 := own_old K.old g66
  have sz_a66 : h0.size ≤ a66 := g66 ▸ KP.1
  have ne_sb_a66 : sb ≠ a66 := own_ne X_sb.lt g66
  have ne_d_a66 : d ≠ a66 := own_ne V_d.lt g66
  replace X_sb := X_sb.ext E66
  replace F_sb_value := F_sb_value.ext E66
  replace F_sb_coder := F_sb_coder.ext E66
  replace F_sb_count := F_sb_count.ext E66
  replace V_d := V_d.ext E66
  replace X_d := X_d.ext E66
  replace KP := KP.ext E66
  have F_a66_value : Fld Z h66 a66 "java/lang/String" "value" "[B" .null := D66 (Or.inr (w50 hw)) (ty := (.array .byte)) (by decide)
  have F_a66_coder : Fld Z h66 a66 "java/lang/String" "coder" "B" (.int (0 : Int32)) := D66 (Or.inr (w51 hw)) (ty := .byte) (by decide)
  refine k_dup K66 d_jdk_67_method_42_code_3 (pc' := 4) rfl rfl ?_
  refine k_aloadN K66 d_jdk_67_method_42_code_4 (pc' := 5) rfl rfl rfl ?_
  refine k_special K66 [(.ref sb)] [(.ref a66)] 1 (w133 hw) (w134 hw) (w42 hw) (w136 hw) rfl rfl (by decide) pd__Ljava_lang_StringBuilder__V_7629 (c_si2 l Z a0 hw hEW n0 sb d kd cp xs ys a66 _ _ cs0 h66 K66.old ⟨X_sb, F_sb_value, F_sb_coder, F_sb_count, V_d, X_d, hcp, hcb⟩ hx X_a66 F_a66_value F_a66_coder ga_a66 ne_d_a66 SC hcs) d_jdk_67_method_42_code_5 (fun x hx => by cases List.mem_singleton.mp hx; exact ⟨X_a66.lt, sf_a66⟩) (pc' := 8) rfl rfl rfl rfl (Nat.le_of_eq rfl) (by decide) (by decide) (by decide) (by decide) ?_
  intro b67 T67 h67 L67 v67 K67 tr67 q67
  obtain ⟨rfl, KQ, t, kt, S⟩ := q67
  replace KP := KP.trans KQ (allS (Or.inr sz_a66) all0)
  show Goes p_.tables e_ below_ _ (T67.setTop (mkF m_ 8 #[.val (.ref sb)] [(.ref a66)]))
  exact k_aret K67 d_jdk_67_method_42_code_8 rfl rfl rfl (fun sf ht => ⟨a66, t, kt, rfl, KP, S⟩) (by decide) (by decide)
theorem d_jdk_30_method_1_code_0 : decode jdk_30_method_1_code 0 = .ok (.aload_n 0, 1) := by decide +kernel
theorem d_jdk_30_method_1_code_1 : decode jdk_30_method_1_code 1 = .ok (.invokespecial 1, 3) := by decide +kernel
theorem w16 {Z : State} {a0 : Array Value} (hw : Tb a0 Z) : (Jvm.Cond.methodLink "java/lang/Record" (1 : Nat) ({ cls := "java/lang/Object", name := "<init>", desc := "()V" } : Jvm.MethodName)).before a0 Z = true := hw _ (List.mem_of_getElem? (i := 16) rfl)
theorem d_jdk_30_method_1_code_4 : decode jdk_30_method_1_code 4 = .ok (.return_, 1) := by decide +kernel
theorem pl_java_lang_Record : plainName "java/lang/Record" = true := by first | (simp [plainName, overriddenIn]; done) | decide +kernel
set_option maxRecDepth 65536 in
set_option maxHeartbeats 40000000 in
theorem c_recordInit (l : Launch) (Z : State) (a0 : Array Value) (hw : Tb a0 Z) (hEW : EW Z a0 EL0) (n0 : Nat) (a : Addr) (h0 : Heap) (O : Old Z n0 h0)  :
    Ct l Z EL0 n0 (⟨"java/lang/Record", "<init>", "()V"⟩ : MethodName) jdk_30_method_1_code 1 none ({ frames := 1, cells := 0, slots := 0, locals := 12 } : Room) #[(.ref a)] h0 [] (Pu none h0) := by
  refine Ct.of (a0 := a0) #[.val (.ref a)] hEW O (plainFor_of_name pl_java_lang_Record) (fun m => by first | (simp [entryFrame, mkF, argsToLocals, Value.category]; done) | rfl) ?_
  intro p_ e_ s_ m_ below_ meth_ c_ b_ T_ K hSP
  refine k_aloadN K d_jdk_30_method_1_code_0 (pc' := 1) rfl rfl rfl ?_
  refine k_initO K (w16 hw) (w17 hw) (w18 hw) d_jdk_30_method_1_code_1 (pc' := 4) rfl rfl (by decide) 0 (Nat.le_of_eq rfl) (by decide) ?_
  intro T68 K68
  exact k_return K68 d_jdk_30_method_1_code_4 rfl (fun sf ht => ⟨rfl, rfl⟩) (by decide) (by decide)
def szN (n : Nat) : Nat := if n < 10 then 1 else if n < 100 then 2 else if n < 1000 then 3 else if n < 10000 then 4 else if n < 100000 then 5 else if n < 1000000 then 6 else if n < 10000000 then 7 else if n < 100000000 then 8 else if n < 1000000000 then 9 else 10
theorem szN_b (n : Nat) : 1 ≤ szN n ∧ szN n ≤ 10 := by
  unfold szN
  repeat' split
  all_goals omega
theorem own_neg {x : Int32} {n : Nat} (h : x.toInt = n) : (-x).toInt = -(n : Int) := by
  have hl : x.toInt < 2 ^ 31 := Int32.toInt_lt x
  rw [Int32.toInt_neg, h]
  rw [h] at hl
  exact Int.bmod_eq_of_le (by omega) (by omega)
def dig (n k : Nat) : Int32 := Int32.ofNat (48 + n / 10 ^ k % 10)
def dgs (n : Nat) : List Int32 := (List.range (szN n)).map fun i => dig n (szN n - 1 - i)
theorem d_jdk_33_method_13_code_0 : decode jdk_33_method_13_code 0 = .ok (.iconst 1, 1) := by decide +kernel
theorem d_jdk_33_method_13_code_1 : decode jdk_33_method_13_code 1 = .ok (.istore_n 1, 1) := by decide +kernel
theorem d_jdk_33_method_13_code_2 : decode jdk_33_method_13_code 2 = .ok (.iload_n 0, 1) := by decide +kernel
theorem d_jdk_33_method_13_code_3 : decode jdk_33_method_13_code 3 = .ok (.ifCond .lt 8, 3) := by decide +kernel
theorem d_jdk_33_method_13_code_6 : decode jdk_33_method_13_code 6 = .ok (.iconst 0, 1) := by decide +kernel
theorem d_jdk_33_method_13_code_7 : decode jdk_33_method_13_code 7 = .ok (.istore_n 1, 1) := by decide +kernel
theorem d_jdk_33_method_13_code_8 : decode jdk_33_method_13_code 8 = .ok (.iload_n 0, 1) := by decide +kernel
theorem d_jdk_33_method_13_code_9 : decode jdk_33_method_13_code 9 = .ok (.ineg, 1) := by decide +kernel
theorem d_jdk_33_method_13_code_10 : decode jdk_33_method_13_code 10 = .ok (.istore_n 0, 1) := by decide +kernel
theorem d_jdk_33_method_13_code_11 : decode jdk_33_method_13_code 11 = .ok (.bipush (-10), 2) := by decide +kernel
theorem d_jdk_33_method_13_code_13 : decode jdk_33_method_13_code 13 = .ok (.istore_n 2, 1) := by decide +kernel
theorem d_jdk_33_method_13_code_14 : decode jdk_33_method_13_code 14 = .ok (.iconst 1, 1) := by decide +kernel
theorem d_jdk_33_method_13_code_15 : decode jdk_33_method_13_code 15 = .ok (.istore_n 3, 1) := by decide +kernel
theorem d_jdk_33_method_13_code_16 : decode jdk_33_method_13_code 16 = .ok (.iload_n 3, 1) := by decide +kernel
theorem d_jdk_33_method_13_code_17 : decode jdk_33_method_13_code 17 = .ok (.bipush 10, 2) := by decide +kernel
theorem d_jdk_33_method_13_code_19 : decode jdk_33_method_13_code 19 = .ok (.if_icmp .ge 23, 3) := by decide +kernel
theorem d_jdk_33_method_13_code_22 : decode jdk_33_method_13_code 22 = .ok (.iload_n 0, 1) := by decide +kernel
theorem d_jdk_33_method_13_code_23 : decode jdk_33_method_13_code 23 = .ok (.iload_n 2, 1) := by decide +kernel
theorem d_jdk_33_method_13_code_24 : decode jdk_33_method_13_code 24 = .ok (.if_icmp .le 7, 3) := by decide +kernel
theorem d_jdk_33_method_13_code_31 : decode jdk_33_method_13_code 31 = .ok (.bipush 10, 2) := by decide +kernel
theorem d_jdk_33_method_13_code_33 : decode jdk_33_method_13_code 33 = .ok (.iload_n 2, 1) := by decide +kernel
theorem d_jdk_33_method_13_code_34 : decode jdk_33_method_13_code 34 = .ok (.imul, 1) := by decide +kernel
theorem d_jdk_33_method_13_code_35 : decode jdk_33_method_13_code 35 = .ok (.istore_n 2, 1) := by decide +kernel
theorem d_jdk_33_method_13_code_36 : decode jdk_33_method_13_code 36 = .ok (.iinc 3 1, 3) := by decide +kernel
theorem d_jdk_33_method_13_code_39 : decode jdk_33_method_13_code 39 = .ok (.goto (-23), 3) := by decide +kernel
theorem d_jdk_33_method_13_code_42 : decode jdk_33_method_13_code 42 = .ok (.bipush 10, 2) := by decide +kernel
theorem d_jdk_33_method_13_code_44 : decode jdk_33_method_13_code 44 = .ok (.iload_n 1, 1) := by decide +kernel
theorem d_jdk_33_method_13_code_45 : decode jdk_33_method_13_code 45 = .ok (.iadd, 1) := by decide +kernel
theorem d_jdk_33_method_13_code_46 : decode jdk_33_method_13_code 46 = .ok (.ireturn, 1) := by decide +kernel
theorem d_jdk_33_method_13_code_27 : decode jdk_33_method_13_code 27 = .ok (.iload_n 3, 1) := by decide +kernel
theorem d_jdk_33_method_13_code_28 : decode jdk_33_method_13_code 28 = .ok (.iload_n 1, 1) := by decide +kernel
theorem d_jdk_33_method_13_code_29 : decode jdk_33_method_13_code 29 = .ok (.iadd, 1) := by decide +kernel
theorem d_jdk_33_method_13_code_30 : decode jdk_33_method_13_code 30 = .ok (.ireturn, 1) := by decide +kernel
theorem pl_java_lang_Integer : plainName "java/lang/Integer" = true := by first | (simp [plainName, overriddenIn]; done) | decide +kernel
set_option maxRecDepth 65536 in
set_option maxHeartbeats 40000000 in
theorem c_ssize (l : Launch) (Z : State) (a0 : Array Value) (hw : Tb a0 Z) (hEW : EW Z a0 EL0) (n0 : Nat) (x : Int32) (n : Nat) (h0 : Heap) (O : Old Z n0 h0) (hx : x.toInt = n) :
    Ct l Z EL0 n0 (⟨"java/lang/Integer", "stringSize", "(I)I"⟩ : MethodName) jdk_33_method_13_code 4 (some .int) ({ frames := 0, cells := 0, slots := 0, locals := 0 } : Room) #[(.int x)] h0 [] (Pu (some (.int (Int32.ofNat (szN n)))) h0) := by
  refine Ct.of (a0 := a0) #[.val (.int x), .unset, .unset, .unset] hEW O (plainFor_of_name pl_java_lang_Integer) (fun m => by first | (simp [entryFrame, mkF, argsToLocals, Value.category]; done) | rfl) ?_
  intro p_ e_ s_ m_ below_ meth_ c_ b_ T_ K hSP
  have hneg := own_neg hx
  refine k_iconst K (1 : Int32) d_jdk_33_method_13_code_0 (pc' := 1) rfl rfl ?_
  refine k_istoreN K d_jdk_33_method_13_code_1 (pc' := 2) (L' := #[.val (.int x), .val (.int (1 : Int32)), .unset, .unset]) rfl rfl ?_
  refine k_iloadN K d_jdk_33_method_13_code_2 (pc' := 3) rfl rfl ?_
  refine k_if_lt K d_jdk_33_method_13_code_3 (by decide) (pc' := 11) (pc2 := 6) (by decide) rfl (fun q => absurd q (by rw [own_i32, hx, own_0]; omega)) (fun hc3 => ?_)
  refine k_iconst K (0 : Int32) d_jdk_33_method_13_code_6 (pc' := 7) rfl rfl ?_
  refine k_istoreN K d_jdk_33_method_13_code_7 (pc' := 8) (L' := #[.val (.int x), .val (.int (0 : Int32)), .unset, .unset]) rfl rfl ?_
  refine k_iloadN K d_jdk_33_method_13_code_8 (pc' := 9) rfl rfl ?_
  refine k_ineg K d_jdk_33_method_13_code_9 (pc' := 10) rfl ?_
  refine k_istoreN K d_jdk_33_method_13_code_10 (pc' := 11) (L' := #[.val (.int (-x)), .val (.int (0 : Int32)), .unset, .unset]) rfl rfl ?_
  refine k_bipush K (-10 : Int32) d_jdk_33_method_13_code_11 (pc' := 13) rfl rfl ?_
  refine k_istoreN K d_jdk_33_method_13_code_13 (pc' := 14) (L' := #[.val (.int (-x)), .val (.int (0 : Int32)), .val (.int (-10 : Int32)), .unset]) rfl rfl ?_
  refine k_iconst K (1 : Int32) d_jdk_33_method_13_code_14 (pc' := 15) rfl rfl ?_
  refine k_istoreN K d_jdk_33_method_13_code_15 (pc' := 16) (L' := #[.val (.int (-x)), .val (.int (0 : Int32)), .val (.int (-10 : Int32)), .val (.int (1 : Int32))]) rfl rfl ?_
  refine k_iloadN K d_jdk_33_method_13_code_16 (pc' := 17) rfl rfl ?_
  refine k_bipush K (10 : Int32) d_jdk_33_method_13_code_17 (pc' := 19) rfl rfl ?_
  refine k_icmp_ge K d_jdk_33_method_13_code_19 (by decide) (pc' := 42) (pc2 := 22) (by decide) rfl (fun q => absurd (by decide) q) (fun hc19 => ?_)
  refine k_iloadN K d_jdk_33_method_13_code_22 (pc' := 23) rfl rfl ?_
  refine k_iloadN K d_jdk_33_method_13_code_23 (pc' := 24) rfl rfl ?_
  refine k_icmp_le K d_jdk_33_method_13_code_24 (by decide) (pc' := 31) (pc2 := 27) (by decide) rfl (fun hc24 => ?_) (fun hc24 => ?_)
  · have m1 : ¬ n < 10 := by rw [own_i32, hneg, show (-10 : Int32).toInt = -10 by decide] at hc24; omega
    refine k_bipush K (10 : Int32) d_jdk_33_method_13_code_31 (pc' := 33) rfl rfl ?_
    refine k_iloadN K d_jdk_33_method_13_code_33 (pc' := 34) rfl rfl ?_
    refine k_imul K d_jdk_33_method_13_code_34 (pc' := 35) rfl ?_
    rw [show ((10 : Int32) * (-10 : Int32)) = (-100 : Int32) by decide]
    refine k_istoreN K d_jdk_33_method_13_code_35 (pc' := 36) (L' := #[.val (.int (-x)), .val (.int (0 : Int32)), .val (.int (-100 : Int32)), .val (.int (1 : Int32))]) rfl rfl ?_
    refine k_iinc K (1 : Int32) d_jdk_33_method_13_code_36 (pc' := 39) (L' := #[.val (.int (-x)), .val (.int (0 : Int32)), .val (.int (-100 : Int32)), .val (.int ((1 : Int32) + (1 : Int32)))]) rfl rfl rfl rfl ?_
    rw [show ((1 : Int32) + (1 : Int32)) = (2 : Int32) by decide]
    refine k_goto K d_jdk_33_method_13_code_39 (by decide) (pc' := 16) (by decide) ?_
    refine k_iloadN K d_jdk_33_method_13_code_16 (pc' := 17) rfl rfl ?_
    refine k_bipush K (10 : Int32) d_jdk_33_method_13_code_17 (pc' := 19) rfl rfl ?_
    refine k_icmp_ge K d_jdk_33_method_13_code_19 (by decide) (pc' := 42) (pc2 := 22) (by decide) rfl (fun q => absurd (by decide) q) (fun hc19 => ?_)
    refine k_iloadN K d_jdk_33_method_13_code_22 (pc' := 23) rfl rfl ?_
    refine k_iloadN K d_jdk_33_method_13_code_23 (pc' := 24) rfl rfl ?_
    refine k_icmp_le K d_jdk_33_method_13_code_24 (by decide) (pc' := 31) (pc2 := 27) (by decide) rfl (fun hc24 => ?_) (fun hc24 => ?_)
    · have m2 : ¬ n < 100 := by rw [own_i32, hneg, show (-100 : Int32).toInt = -100 by decide] at hc24; omega
      refine k_bipush K (10 : Int32) d_jdk_33_method_13_code_31 (pc' := 33) rfl rfl ?_
      refine k_iloadN K d_jdk_33_method_13_code_33 (pc' := 34) rfl rfl ?_
      refine k_imul K d_jdk_33_method_13_code_34 (pc' := 35) rfl ?_
      rw [show ((10 : Int32) * (-100 : Int32)) = (-1000 : Int32) by decide]
      refine k_istoreN K d_jdk_33_method_13_code_35 (pc' := 36) (L' := #[.val (.int (-x)), .val (.int (0 : Int32)), .val (.int (-1000 : Int32)), .val (.int (2 : Int32))]) rfl rfl ?_
      refine k_iinc K (1 : Int32) d_jdk_33_method_13_code_36 (pc' := 39) (L' := #[.val (.int (-x)), .val (.int (0 : Int32)), .val (.int (-1000 : Int32)), .val (.int ((2 : Int32) + (1 : Int32)))]) rfl rfl rfl rfl ?_
      rw [show ((2 : Int32) + (1 : Int32)) = (3 : Int32) by decide]
      refine k_goto K d_jdk_33_method_13_code_39 (by decide) (pc' := 16) (by decide) ?_
      refine k_iloadN K d_jdk_33_method_13_code_16 (pc' := 17) rfl rfl ?_
      refine k_bipush K (10 : Int32) d_jdk_33_method_13_code_17 (pc' := 19) rfl rfl ?_
      refine k_icmp_ge K d_jdk_33_method_13_code_19 (by decide) (pc' := 42) (pc2 := 22) (by decide) rfl (fun q => absurd (by decide) q) (fun hc19 => ?_)
      refine k_iloadN K d_jdk_33_method_13_code_22 (pc' := 23) rfl rfl ?_
      refine k_iloadN K d_jdk_33_method_13_code_23 (pc' := 24) rfl rfl ?_
      refine k_icmp_le K d_jdk_33_method_13_code_24 (by decide) (pc' := 31) (pc2 := 27) (by decide) rfl (fun hc24 => ?_) (fun hc24 => ?_)
      · have m3 : ¬ n < 1000 := by rw [own_i32, hneg, show (-1000 : Int32).toInt = -1000 by decide] at hc24; omega
        refine k_bipush K (10 : Int32) d_jdk_33_method_13_code_31 (pc' := 33) rfl rfl ?_
        refine k_iloadN K d_jdk_33_method_13_code_33 (pc' := 34) rfl rfl ?_
        refine k_imul K d_jdk_33_method_13_code_34 (pc' := 35) rfl ?_
        rw [show ((10 : Int32) * (-1000 : Int32)) = (-10000 : Int32) by decide]
        refine k_istoreN K d_jdk_33_method_13_code_35 (pc' := 36) (L' := #[.val (.int (-x)), .val (.int (0 : Int32)), .val (.int (-10000 : Int32)), .val (.int (3 : Int32))]) rfl rfl ?_
        refine k_iinc K (1 : Int32) d_jdk_33_method_13_code_36 (pc' := 39) (L' := #[.val (.int (-x)), .val (.int (0 : Int32)), .val (.int (-10000 : Int32)), .val (.int ((3 : Int32) + (1 : Int32)))]) rfl rfl rfl rfl ?_
        rw [show ((3 : Int32) + (1 : Int32)) = (4 : Int32) by decide]
        refine k_goto K d_jdk_33_method_13_code_39 (by decide) (pc' := 16) (by decide) ?_
        refine k_iloadN K d_jdk_33_method_13_code_16 (pc' := 17) rfl rfl ?_
        refine k_bipush K (10 : Int32) d_jdk_33_method_13_code_17 (pc' := 19) rfl rfl ?_
        refine k_icmp_ge K d_jdk_33_method_13_code_19 (by decide) (pc' := 42) (pc2 := 22) (by decide) rfl (fun q => absurd (by decide) q) (fun hc19 => ?_)
        refine k_iloadN K d_jdk_33_method_13_code_22 (pc' := 23) rfl rfl ?_
        refine k_iloadN K d_jdk_33_method_13_code_23 (pc' := 24) rfl rfl ?_
        refine k_icmp_le K d_jdk_33_method_13_code_24 (by decide) (pc' := 31) (pc2 := 27) (by decide) rfl (fun hc24 => ?_) (fun hc24 => ?_)
        · have m4 : ¬ n < 10000 := by rw [own_i32, hneg, show (-10000 : Int32).toInt = -10000 by decide] at hc24; omega
          refine k_bipush K (10 : Int32) d_jdk_33_method_13_code_31 (pc' := 33) rfl rfl ?_
          refine k_iloadN K d_jdk_33_method_13_code_33 (pc' := 34) rfl rfl ?_
          refine k_imul K d_jdk_33_method_13_code_34 (pc' := 35) rfl ?_
          rw [show ((10 : Int32) * (-10000 : Int32)) = (-100000 : Int32) by decide]
          refine k_istoreN K d_jdk_33_method_13_code_35 (pc' := 36) (L' := #[.val (.int (-x)), .val (.int (0 : Int32)), .val (.int (-100000 : Int32)), .val (.int (4 : Int32))]) rfl rfl ?_
          refine k_iinc K (1 : Int32) d_jdk_33_method_13_code_36 (pc' := 39) (L' := #[.val (.int (-x)), .val (.int (0 : Int32)), .val (.int (-100000 : Int32)), .val (.int ((4 : Int32) + (1 : Int32)))]) rfl rfl rfl rfl ?_
          rw [show ((4 : Int32) + (1 : Int32)) = (5 : Int32) by decide]
          refine k_goto K d_jdk_33_method_13_code_39 (by decide) (pc' := 16) (by decide) ?_
          refine k_iloadN K d_jdk_33_method_13_code_16 (pc' := 17) rfl rfl ?_
          refine k_bipush K (10 : Int32) d_jdk_33_method_13_code_17 (pc' := 19) rfl rfl ?_
          refine k_icmp_ge K d_jdk_33_method_13_code_19 (by decide) (pc' := 42) (pc2 := 22) (by decide) rfl (fun q => absurd (by decide) q) (fun hc19 => ?_)
          refine k_iloadN K d_jdk_33_method_13_code_22 (pc' := 23) rfl rfl ?_
          refine k_iloadN K d_jdk_33_method_13_code_23 (pc' := 24) rfl rfl ?_
          refine k_icmp_le K d_jdk_33_method_13_code_24 (by decide) (pc' := 31) (pc2 := 27) (by decide) rfl (fun hc24 => ?_) (fun hc24 => ?_)
          · have m5 : ¬ n < 100000 := by rw [own_i32, hneg, show (-100000 : Int32).toInt = -100000 by decide] at hc24; omega
            refine k_bipush K (10 : Int32) d_jdk_33_method_13_code_31 (pc' := 33) rfl rfl ?_
            refine k_iloadN K d_jdk_33_method_13_code_33 (pc' := 34) rfl rfl ?_
            refine k_imul K d_jdk_33_method_13_code_34 (pc' := 35) rfl ?_
            rw [show ((10 : Int32) * (-100000 : Int32)) = (-1000000 : Int32) by decide]
            refine k_istoreN K d_jdk_33_method_13_code_35 (pc' := 36) (L' := #[.val (.int (-x)), .val (.int (0 : Int32)), .val (.int (-1000000 : Int32)), .val (.int (5 : Int32))]) rfl rfl ?_
            refine k_iinc K (1 : Int32) d_jdk_33_method_13_code_36 (pc' := 39) (L' := #[.val (.int (-x)), .val (.int (0 : Int32)), .val (.int (-1000000 : Int32)), .val (.int ((5 : Int32) + (1 : Int32)))]) rfl rfl rfl rfl ?_
            rw [show ((5 : Int32) + (1 : Int32)) = (6 : Int32) by decide]
            refine k_goto K d_jdk_33_method_13_code_39 (by decide) (pc' := 16) (by decide) ?_
            refine k_iloadN K d_jdk_33_method_13_code_16 (pc' := 17) rfl rfl ?_
            refine k_bipush K (10 : Int32) d_jdk_33_method_13_code_17 (pc' := 19) rfl rfl ?_
            refine k_icmp_ge K d_jdk_33_method_13_code_19 (by decide) (pc' := 42) (pc2 := 22) (by decide) rfl (fun q => absurd (by decide) q) (fun hc19 => ?_)
            refine k_iloadN K d_jdk_33_method_13_code_22 (pc' := 23) rfl rfl ?_
            refine k_iloadN K d_jdk_33_method_13_code_23 (pc' := 24) rfl rfl ?_
            refine k_icmp_le K d_jdk_33_method_13_code_24 (by decide) (pc' := 31) (pc2 := 27) (by decide) rfl (fun hc24 => ?_) (fun hc24 => ?_)
            · have m6 : ¬ n < 1000000 := by rw [own_i32, hneg, show (-1000000 : Int32).toInt = -1000000 by decide] at hc24; omega
              refine k_bipush K (10 : Int32) d_jdk_33_method_13_code_31 (pc' := 33) rfl rfl ?_
              refine k_iloadN K d_jdk_33_method_13_code_33 (pc' := 34) rfl rfl ?_
              refine k_imul K d_jdk_33_method_13_code_34 (pc' := 35) rfl ?_
              rw [show ((10 : Int32) * (-1000000 : Int32)) = (-10000000 : Int32) by decide]
              refine k_istoreN K d_jdk_33_method_13_code_35 (pc' := 36) (L' := #[.val (.int (-x)), .val (.int (0 : Int32)), .val (.int (-10000000 : Int32)), .val (.int (6 : Int32))]) rfl rfl ?_
              refine k_iinc K (1 : Int32) d_jdk_33_method_13_code_36 (pc' := 39) (L' := #[.val (.int (-x)), .val (.int (0 : Int32)), .val (.int (-10000000 : Int32)), .val (.int ((6 : Int32) + (1 : Int32)))]) rfl rfl rfl rfl ?_
              rw [show ((6 : Int32) + (1 : Int32)) = (7 : Int32) by decide]
              refine k_goto K d_jdk_33_method_13_code_39 (by decide) (pc' := 16) (by decide) ?_
              refine k_iloadN K d_jdk_33_method_13_code_16 (pc' := 17) rfl rfl ?_
              refine k_bipush K (10 : Int32) d_jdk_33_method_13_code_17 (pc' := 19) rfl rfl ?_
              refine k_icmp_ge K d_jdk_33_method_13_code_19 (by decide) (pc' := 42) (pc2 := 22) (by decide) rfl (fun q => absurd (by decide) q) (fun hc19 => ?_)
              refine k_iloadN K d_jdk_33_method_13_code_22 (pc' := 23) rfl rfl ?_
              refine k_iloadN K d_jdk_33_method_13_code_23 (pc' := 24) rfl rfl ?_
              refine k_icmp_le K d_jdk_33_method_13_code_24 (by decide) (pc' := 31) (pc2 := 27) (by decide) rfl (fun hc24 => ?_) (fun hc24 => ?_)
              · have m7 : ¬ n < 10000000 := by rw [own_i32, hneg, show (-10000000 : Int32).toInt = -10000000 by decide] at hc24; omega
                refine k_bipush K (10 : Int32) d_jdk_33_method_13_code_31 (pc' := 33) rfl rfl ?_
                refine k_iloadN K d_jdk_33_method_13_code_33 (pc' := 34) rfl rfl ?_
                refine k_imul K d_jdk_33_method_13_code_34 (pc' := 35) rfl ?_
                rw [show ((10 : Int32) * (-10000000 : Int32)) = (-100000000 : Int32) by decide]
                refine k_istoreN K d_jdk_33_method_13_code_35 (pc' := 36) (L' := #[.val (.int (-x)), .val (.int (0 : Int32)), .val (.int (-100000000 : Int32)), .val (.int (7 : Int32))]) rfl rfl ?_
                refine k_iinc K (1 : Int32) d_jdk_33_method_13_code_36 (pc' := 39) (L' := #[.val (.int (-x)), .val (.int (0 : Int32)), .val (.int (-100000000 : Int32)), .val (.int ((7 : Int32) + (1 : Int32)))]) rfl rfl rfl rfl ?_
                rw [show ((7 : Int32) + (1 : Int32)) = (8 : Int32) by decide]
                refine k_goto K d_jdk_33_method_13_code_39 (by decide) (pc' := 16) (by decide) ?_
                refine k_iloadN K d_jdk_33_method_13_code_16 (pc' := 17) rfl rfl ?_
                refine k_bipush K (10 : Int32) d_jdk_33_method_13_code_17 (pc' := 19) rfl rfl ?_
                refine k_icmp_ge K d_jdk_33_method_13_code_19 (by decide) (pc' := 42) (pc2 := 22) (by decide) rfl (fun q => absurd (by decide) q) (fun hc19 => ?_)
                refine k_iloadN K d_jdk_33_method_13_code_22 (pc' := 23) rfl rfl ?_
                refine k_iloadN K d_jdk_33_method_13_code_23 (pc' := 24) rfl rfl ?_
                refine k_icmp_le K d_jdk_33_method_13_code_24 (by decide) (pc' := 31) (pc2 := 27) (by decide) rfl (fun hc24 => ?_) (fun hc24 => ?_)
                · have m8 : ¬ n < 100000000 := by rw [own_i32, hneg, show (-100000000 : Int32).toInt = -100000000 by decide] at hc24; omega
                  refine k_bipush K (10 : Int32) d_jdk_33_method_13_code_31 (pc' := 33) rfl rfl ?_
                  refine k_iloadN K d_jdk_33_method_13_code_33 (pc' := 34) rfl rfl ?_
                  refine k_imul K d_jdk_33_method_13_code_34 (pc' := 35) rfl ?_
                  rw [show ((10 : Int32) * (-100000000 : Int32)) = (-1000000000 : Int32) by decide]
                  refine k_istoreN K d_jdk_33_method_13_code_35 (pc' := 36) (L' := #[.val (.int (-x)), .val (.int (0 : Int32)), .val (.int (-1000000000 : Int32)), .val (.int (8 : Int32))]) rfl rfl ?_
                  refine k_iinc K (1 : Int32) d_jdk_33_method_13_code_36 (pc' := 39) (L' := #[.val (.int (-x)), .val (.int (0 : Int32)), .val (.int (-1000000000 : Int32)), .val (.int ((8 : Int32) + (1 : Int32)))]) rfl rfl rfl rfl ?_
                  rw [show ((8 : Int32) + (1 : Int32)) = (9 : Int32) by decide]
                  refine k_goto K d_jdk_33_method_13_code_39 (by decide) (pc' := 16) (by decide) ?_
                  refine k_iloadN K d_jdk_33_method_13_code_16 (pc' := 17) rfl rfl ?_
                  refine k_bipush K (10 : Int32) d_jdk_33_method_13_code_17 (pc' := 19) rfl rfl ?_
                  refine k_icmp_ge K d_jdk_33_method_13_code_19 (by decide) (pc' := 42) (pc2 := 22) (by decide) rfl (fun q => absurd (by decide) q) (fun hc19 => ?_)
                  refine k_iloadN K d_jdk_33_method_13_code_22 (pc' := 23) rfl rfl ?_
                  refine k_iloadN K d_jdk_33_method_13_code_23 (pc' := 24) rfl rfl ?_
                  refine k_icmp_le K d_jdk_33_method_13_code_24 (by decide) (pc' := 31) (pc2 := 27) (by decide) rfl (fun hc24 => ?_) (fun hc24 => ?_)
                  · have m9 : ¬ n < 1000000000 := by rw [own_i32, hneg, show (-1000000000 : Int32).toInt = -1000000000 by decide] at hc24; omega
                    refine k_bipush K (10 : Int32) d_jdk_33_method_13_code_31 (pc' := 33) rfl rfl ?_
                    refine k_iloadN K d_jdk_33_method_13_code_33 (pc' := 34) rfl rfl ?_
                    refine k_imul K d_jdk_33_method_13_code_34 (pc' := 35) rfl ?_
                    rw [show ((10 : Int32) * (-1000000000 : Int32)) = (-10000000000 : Int32) by decide]
                    refine k_istoreN K d_jdk_33_method_13_code_35 (pc' := 36) (L' := #[.val (.int (-x)), .val (.int (0 : Int32)), .val (.int (-10000000000 : Int32)), .val (.int (9 : Int32))]) rfl rfl ?_
                    refine k_iinc K (1 : Int32) d_jdk_33_method_13_code_36 (pc' := 39) (L' := #[.val (.int (-x)), .val (.int (0 : Int32)), .val (.int (-10000000000 : Int32)), .val (.int ((9 : Int32) + (1 : Int32)))]) rfl rfl rfl rfl ?_
                    rw [show ((9 : Int32) + (1 : Int32)) = (10 : Int32) by decide]
                    refine k_goto K d_jdk_33_method_13_code_39 (by decide) (pc' := 16) (by decide) ?_
                    refine k_iloadN K d_jdk_33_method_13_code_16 (pc' := 17) rfl rfl ?_
                    refine k_bipush K (10 : Int32) d_jdk_33_method_13_code_17 (pc' := 19) rfl rfl ?_
                    refine k_icmp_ge K d_jdk_33_method_13_code_19 (by decide) (pc' := 42) (pc2 := 22) (by decide) rfl (fun hc19 => ?_) (fun q => absurd q (by decide))
                    refine k_bipush K (10 : Int32) d_jdk_33_method_13_code_42 (pc' := 44) rfl rfl ?_
                    refine k_iloadN K d_jdk_33_method_13_code_44 (pc' := 45) rfl rfl ?_
                    refine k_iadd K d_jdk_33_method_13_code_45 (pc' := 46) rfl ?_
                    rw [show ((10 : Int32) + (0 : Int32)) = (10 : Int32) by decide]
                    exact k_iret K d_jdk_33_method_13_code_46 rfl (fun sf ht => ⟨by rw [show szN n = 10 from by simp [szN, m1, m2, m3, m4, m5, m6, m7, m8, m9]]; rfl, rfl⟩) (by decide) (by decide)
                  · have m9 : n < 1000000000 := by rw [own_i32, hneg, show (-1000000000 : Int32).toInt = -1000000000 by decide] at hc24; omega
                    refine k_iloadN K d_jdk_33_method_13_code_27 (pc' := 28) rfl rfl ?_
                    refine k_iloadN K d_jdk_33_method_13_code_28 (pc' := 29) rfl rfl ?_
                    refine k_iadd K d_jdk_33_method_13_code_29 (pc' := 30) rfl ?_
                    rw [show ((9 : Int32) + (0 : Int32)) = (9 : Int32) by decide]
                    exact k_iret K d_jdk_33_method_13_code_30 rfl (fun sf ht => ⟨by rw [show szN n = 9 from by simp [szN, m1, m2, m3, m4, m5, m6, m7, m8, m9]]; rfl, rfl⟩) (by decide) (by decide)
                · have m8 : n < 100000000 := by rw [own_i32, hneg, show (-100000000 : Int32).toInt = -100000000 by decide] at hc24; omega
                  refine k_iloadN K d_jdk_33_method_13_code_27 (pc' := 28) rfl rfl ?_
                  refine k_iloadN K d_jdk_33_method_13_code_28 (pc' := 29) rfl rfl ?_
                  refine k_iadd K d_jdk_33_method_13_code_29 (pc' := 30) rfl ?_
                  rw [show ((8 : Int32) + (0 : Int32)) = (8 : Int32) by decide]
                  exact k_iret K d_jdk_33_method_13_code_30 rfl (fun sf ht => ⟨by rw [show szN n = 8 from by simp [szN, m1, m2, m3, m4, m5, m6, m7, m8]]; rfl, rfl⟩) (by decide) (by decide)
              · have m7 : n < 10000000 := by rw [own_i32, hneg, show (-10000000 : Int32).toInt = -10000000 by decide] at hc24; omega
                refine k_iloadN K d_jdk_33_method_13_code_27 (pc' := 28) rfl rfl ?_
                refine k_iloadN K d_jdk_33_method_13_code_28 (pc' := 29) rfl rfl ?_
                refine k_iadd K d_jdk_33_method_13_code_29 (pc' := 30) rfl ?_
                rw [show ((7 : Int32) + (0 : Int32)) = (7 : Int32) by decide]
                exact k_iret K d_jdk_33_method_13_code_30 rfl (fun sf ht => ⟨by rw [show szN n = 7 from by simp [szN, m1, m2, m3, m4, m5, m6, m7]]; rfl, rfl⟩) (by decide) (by decide)
            · have m6 : n < 1000000 := by rw [own_i32, hneg, show (-1000000 : Int32).toInt = -1000000 by decide] at hc24; omega
              refine k_iloadN K d_jdk_33_method_13_code_27 (pc' := 28) rfl rfl ?_
              refine k_iloadN K d_jdk_33_method_13_code_28 (pc' := 29) rfl rfl ?_
              refine k_iadd K d_jdk_33_method_13_code_29 (pc' := 30) rfl ?_
              rw [show ((6 : Int32) + (0 : Int32)) = (6 : Int32) by decide]
              exact k_iret K d_jdk_33_method_13_code_30 rfl (fun sf ht => ⟨by rw [show szN n = 6 from by simp [szN, m1, m2, m3, m4, m5, m6]]; rfl, rfl⟩) (by decide) (by decide)
          · have m5 : n < 100000 := by rw [own_i32, hneg, show (-100000 : Int32).toInt = -100000 by decide] at hc24; omega
            refine k_iloadN K d_jdk_33_method_13_code_27 (pc' := 28) rfl rfl ?_
            refine k_iloadN K d_jdk_33_method_13_code_28 (pc' := 29) rfl rfl ?_
            refine k_iadd K d_jdk_33_method_13_code_29 (pc' := 30) rfl ?_
            rw [show ((5 : Int32) + (0 : Int32)) = (5 : Int32) by decide]
            exact k_iret K d_jdk_33_method_13_code_30 rfl (fun sf ht => ⟨by rw [show szN n = 5 from by simp [szN, m1, m2, m3, m4, m5]]; rfl, rfl⟩) (by decide) (by decide)
        · have m4 : n < 10000 := by rw [own_i32, hneg, show (-10000 : Int32).toInt = -10000 by decide] at hc24; omega
          refine k_iloadN K d_jdk_33_method_13_code_27 (pc' := 28) rfl rfl ?_
          refine k_iloadN K d_jdk_33_method_13_code_28 (pc' := 29) rfl rfl ?_
          refine k_iadd K d_jdk_33_method_13_code_29 (pc' := 30) rfl ?_
          rw [show ((4 : Int32) + (0 : Int32)) = (4 : Int32) by decide]
          exact k_iret K d_jdk_33_method_13_code_30 rfl (fun sf ht => ⟨by rw [show szN n = 4 from by simp [szN, m1, m2, m3, m4]]; rfl, rfl⟩) (by decide) (by decide)
      · have m3 : n < 1000 := by rw [own_i32, hneg, show (-1000 : Int32).toInt = -1000 by decide] at hc24; omega
        refine k_iloadN K d_jdk_33_method_13_code_27 (pc' := 28) rfl rfl ?_
        refine k_iloadN K d_jdk_33_method_13_code_28 (pc' := 29) rfl rfl ?_
        refine k_iadd K d_jdk_33_method_13_code_29 (pc' := 30) rfl ?_
        rw [show ((3 : Int32) + (0 : Int32)) = (3 : Int32) by decide]
        exact k_iret K d_jdk_33_method_13_code_30 rfl (fun sf ht => ⟨by rw [show szN n = 3 from by simp [szN, m1, m2, m3]]; rfl, rfl⟩) (by decide) (by decide)
    · have m2 : n < 100 := by rw [own_i32, hneg, show (-100 : Int32).toInt = -100 by decide] at hc24; omega
      refine k_iloadN K d_jdk_33_method_13_code_27 (pc' := 28) rfl rfl ?_
      refine k_iloadN K d_jdk_33_method_13_code_28 (pc' := 29) rfl rfl ?_
      refine k_iadd K d_jdk_33_method_13_code_29 (pc' := 30) rfl ?_
      rw [show ((2 : Int32) + (0 : Int32)) = (2 : Int32) by decide]
      exact k_iret K d_jdk_33_method_13_code_30 rfl (fun sf ht => ⟨by rw [show szN n = 2 from by simp [szN, m1, m2]]; rfl, rfl⟩) (by decide) (by decide)
  · have m1 : n < 10 := by rw [own_i32, hneg, show (-10 : Int32).toInt = -10 by decide] at hc24; omega
    refine k_iloadN K d_jdk_33_method_13_code_27 (pc' := 28) rfl rfl ?_
    refine k_iloadN K d_jdk_33_method_13_code_28 (pc' := 29) rfl rfl ?_
    refine k_iadd K d_jdk_33_method_13_code_29 (pc' := 30) rfl ?_
    rw [show ((1 : Int32) + (0 : Int32)) = (1 : Int32) by decide]
    exact k_iret K d_jdk_33_method_13_code_30 rfl (fun sf ht => ⟨by rw [show szN n = 1 from by simp [szN, m1]]; rfl, rfl⟩) (by decide) (by decide)
theorem d_method_3_code_0 : decode method_3_code 0 = .ok (.iload_n 0, 1) := by decide +kernel
theorem d_method_3_code_1 : decode method_3_code 1 = .ok (.bipush 10, 2) := by decide +kernel
theorem d_method_3_code_3 : decode method_3_code 3 = .ok (.if_icmp .ge 5, 3) := by decide +kernel
theorem d_method_3_code_8 : decode method_3_code 8 = .ok (.iload_n 0, 1) := by decide +kernel
theorem d_method_3_code_9 : decode method_3_code 9 = .ok (.bipush 100, 2) := by decide +kernel
theorem d_method_3_code_11 : decode method_3_code 11 = .ok (.if_icmp .ge 5, 3) := by decide +kernel
theorem d_method_3_code_16 : decode method_3_code 16 = .ok (.iload_n 0, 1) := by decide +kernel
theorem d_method_3_code_17 : decode method_3_code 17 = .ok (.sipush 1000, 3) := by decide +kernel
theorem d_method_3_code_20 : decode method_3_code 20 = .ok (.if_icmp .ge 5, 3) := by decide +kernel
theorem d_method_3_code_25 : decode method_3_code 25 = .ok (.iload_n 0, 1) := by decide +kernel
theorem d_method_3_code_26 : decode method_3_code 26 = .ok (.sipush 10000, 3) := by decide +kernel
theorem d_method_3_code_29 : decode method_3_code 29 = .ok (.if_icmp .ge 5, 3) := by decide +kernel
theorem d_method_3_code_34 : decode method_3_code 34 = .ok (.iload_n 0, 1) := by decide +kernel
theorem d_method_3_code_35 : decode method_3_code 35 = .ok (.ldc 43, 2) := by decide +kernel
theorem w230 {Z : State} {a0 : Array Value} (hw : Tb a0 Z) : (Jvm.Cond.constant "com/example/object_sieve/objectsieve/query/TextPositionToStringPinLaw" (43 : Nat) (100000 : Int32)).before a0 Z = true := hw _ (List.mem_of_getElem? (i := 230) rfl)
theorem d_method_3_code_37 : decode method_3_code 37 = .ok (.if_icmp .ge 5, 3) := by decide +kernel
theorem d_method_3_code_42 : decode method_3_code 42 = .ok (.iload_n 0, 1) := by decide +kernel
theorem d_method_3_code_43 : decode method_3_code 43 = .ok (.ldc 44, 2) := by decide +kernel
theorem w231 {Z : State} {a0 : Array Value} (hw : Tb a0 Z) : (Jvm.Cond.constant "com/example/object_sieve/objectsieve/query/TextPositionToStringPinLaw" (44 : Nat) (1000000 : Int32)).before a0 Z = true := hw _ (List.mem_of_getElem? (i := 231) rfl)
theorem d_method_3_code_45 : decode method_3_code 45 = .ok (.if_icmp .ge 6, 3) := by decide +kernel
theorem d_method_3_code_51 : decode method_3_code 51 = .ok (.iload_n 0, 1) := by decide +kernel
theorem d_method_3_code_52 : decode method_3_code 52 = .ok (.ldc 45, 2) := by decide +kernel
theorem w232 {Z : State} {a0 : Array Value} (hw : Tb a0 Z) : (Jvm.Cond.constant "com/example/object_sieve/objectsieve/query/TextPositionToStringPinLaw" (45 : Nat) (10000000 : Int32)).before a0 Z = true := hw _ (List.mem_of_getElem? (i := 232) rfl)
theorem d_method_3_code_54 : decode method_3_code 54 = .ok (.if_icmp .ge 6, 3) := by decide +kernel
theorem d_method_3_code_60 : decode method_3_code 60 = .ok (.iload_n 0, 1) := by decide +kernel
theorem d_method_3_code_61 : decode method_3_code 61 = .ok (.ldc 46, 2) := by decide +kernel
theorem w233 {Z : State} {a0 : Array Value} (hw : Tb a0 Z) : (Jvm.Cond.constant "com/example/object_sieve/objectsieve/query/TextPositionToStringPinLaw" (46 : Nat) (100000000 : Int32)).before a0 Z = true := hw _ (List.mem_of_getElem? (i := 233) rfl)
theorem d_method_3_code_63 : decode method_3_code 63 = .ok (.if_icmp .ge 6, 3) := by decide +kernel
theorem d_method_3_code_69 : decode method_3_code 69 = .ok (.iload_n 0, 1) := by decide +kernel
theorem d_method_3_code_70 : decode method_3_code 70 = .ok (.ldc 47, 2) := by decide +kernel
theorem w234 {Z : State} {a0 : Array Value} (hw : Tb a0 Z) : (Jvm.Cond.constant "com/example/object_sieve/objectsieve/query/TextPositionToStringPinLaw" (47 : Nat) (1000000000 : Int32)).before a0 Z = true := hw _ (List.mem_of_getElem? (i := 234) rfl)
theorem d_method_3_code_72 : decode method_3_code 72 = .ok (.if_icmp .ge 6, 3) := by decide +kernel
theorem d_method_3_code_78 : decode method_3_code 78 = .ok (.bipush 10, 2) := by decide +kernel
theorem d_method_3_code_80 : decode method_3_code 80 = .ok (.ireturn, 1) := by decide +kernel
theorem d_method_3_code_75 : decode method_3_code 75 = .ok (.bipush 9, 2) := by decide +kernel
theorem d_method_3_code_77 : decode method_3_code 77 = .ok (.ireturn, 1) := by decide +kernel
theorem d_method_3_code_66 : decode method_3_code 66 = .ok (.bipush 8, 2) := by decide +kernel
theorem d_method_3_code_68 : decode method_3_code 68 = .ok (.ireturn, 1) := by decide +kernel
theorem d_method_3_code_57 : decode method_3_code 57 = .ok (.bipush 7, 2) := by decide +kernel
theorem d_method_3_code_59 : decode method_3_code 59 = .ok (.ireturn, 1) := by decide +kernel
theorem d_method_3_code_48 : decode method_3_code 48 = .ok (.bipush 6, 2) := by decide +kernel
theorem d_method_3_code_50 : decode method_3_code 50 = .ok (.ireturn, 1) := by decide +kernel
theorem d_method_3_code_40 : decode method_3_code 40 = .ok (.iconst 5, 1) := by decide +kernel
theorem d_method_3_code_41 : decode method_3_code 41 = .ok (.ireturn, 1) := by decide +kernel
theorem d_method_3_code_32 : decode method_3_code 32 = .ok (.iconst 4, 1) := by decide +kernel
theorem d_method_3_code_33 : decode method_3_code 33 = .ok (.ireturn, 1) := by decide +kernel
theorem d_method_3_code_23 : decode method_3_code 23 = .ok (.iconst 3, 1) := by decide +kernel
theorem d_method_3_code_24 : decode method_3_code 24 = .ok (.ireturn, 1) := by decide +kernel
theorem d_method_3_code_14 : decode method_3_code 14 = .ok (.iconst 2, 1) := by decide +kernel
theorem d_method_3_code_15 : decode method_3_code 15 = .ok (.ireturn, 1) := by decide +kernel
theorem d_method_3_code_6 : decode method_3_code 6 = .ok (.iconst 1, 1) := by decide +kernel
theorem d_method_3_code_7 : decode method_3_code 7 = .ok (.ireturn, 1) := by decide +kernel
theorem pl_com_example_object_sieve_objectsieve_query_TextPositionToStringPinLaw : plainName "com/example/object_sieve/objectsieve/query/TextPositionToStringPinLaw" = true := by first | (simp [plainName, overriddenIn]; done) | decide +kernel
set_option maxRecDepth 65536 in
set_option maxHeartbeats 40000000 in
theorem c_numDigits (l : Launch) (Z : State) (a0 : Array Value) (hw : Tb a0 Z) (hEW : EW Z a0 EL0) (n0 : Nat) (x : Int32) (n : Nat) (h0 : Heap) (O : Old Z n0 h0) (hx : x.toInt = n) :
    Ct l Z EL0 n0 (⟨"com/example/object_sieve/objectsieve/query/TextPositionToStringPinLaw", "numDigits", "(I)I"⟩ : MethodName) method_3_code 1 (some .int) ({ frames := 0, cells := 0, slots := 0, locals := 0 } : Room) #[(.int x)] h0 [] (Pu (some (.int (Int32.ofNat (szN n)))) h0) := by
  refine Ct.of (a0 := a0) #[.val (.int x)] hEW O (plainFor_of_name pl_com_example_object_sieve_objectsieve_query_TextPositionToStringPinLaw) (fun m => by first | (simp [entryFrame, mkF, argsToLocals, Value.category]; done) | rfl) ?_
  intro p_ e_ s_ m_ below_ meth_ c_ b_ T_ K hSP
  refine k_iloadN K d_method_3_code_0 (pc' := 1) rfl rfl ?_
  refine k_bipush K (10 : Int32) d_method_3_code_1 (pc' := 3) rfl rfl ?_
  refine k_icmp_ge K d_method_3_code_3 (by decide) (pc' := 8) (pc2 := 6) (by decide) rfl (fun hc3 => ?_) (fun hc3 => ?_)
  · have m1 : ¬ n < 10 := by rw [own_i32, hx, show (10 : Int32).toInt = 10 by decide] at hc3; omega
    refine k_iloadN K d_method_3_code_8 (pc' := 9) rfl rfl ?_
    refine k_bipush K (100 : Int32) d_method_3_code_9 (pc' := 11) rfl rfl ?_
    refine k_icmp_ge K d_method_3_code_11 (by decide) (pc' := 16) (pc2 := 14) (by decide) rfl (fun hc11 => ?_) (fun hc11 => ?_)
    · have m2 : ¬ n < 100 := by rw [own_i32, hx, show (100 : Int32).toInt = 100 by decide] at hc11; omega
      refine k_iloadN K d_method_3_code_16 (pc' := 17) rfl rfl ?_
      refine k_sipush K (1000 : Int32) d_method_3_code_17 (pc' := 20) rfl rfl ?_
      refine k_icmp_ge K d_method_3_code_20 (by decide) (pc' := 25) (pc2 := 23) (by decide) rfl (fun hc20 => ?_) (fun hc20 => ?_)
      · have m3 : ¬ n < 1000 := by rw [own_i32, hx, show (1000 : Int32).toInt = 1000 by decide] at hc20; omega
        refine k_iloadN K d_method_3_code_25 (pc' := 26) rfl rfl ?_
        refine k_sipush K (10000 : Int32) d_method_3_code_26 (pc' := 29) rfl rfl ?_
        refine k_icmp_ge K d_method_3_code_29 (by decide) (pc' := 34) (pc2 := 32) (by decide) rfl (fun hc29 => ?_) (fun hc29 => ?_)
        · have m4 : ¬ n < 10000 := by rw [own_i32, hx, show (10000 : Int32).toInt = 10000 by decide] at hc29; omega
          refine k_iloadN K d_method_3_code_34 (pc' := 35) rfl rfl ?_
          refine k_ldcI K (w230 hw) d_method_3_code_35 (pc' := 37) rfl ?_
          refine k_icmp_ge K d_method_3_code_37 (by decide) (pc' := 42) (pc2 := 40) (by decide) rfl (fun hc37 => ?_) (fun hc37 => ?_)
          · have m5 : ¬ n < 100000 := by rw [own_i32, hx, show (100000 : Int32).toInt = 100000 by decide] at hc37; omega
            refine k_iloadN K d_method_3_code_42 (pc' := 43) rfl rfl ?_
            refine k_ldcI K (w231 hw) d_method_3_code_43 (pc' := 45) rfl ?_
            refine k_icmp_ge K d_method_3_code_45 (by decide) (pc' := 51) (pc2 := 48) (by decide) rfl (fun hc45 => ?_) (fun hc45 => ?_)
            · have m6 : ¬ n < 1000000 := by rw [own_i32, hx, show (1000000 : Int32).toInt = 1000000 by decide] at hc45; omega
              refine k_iloadN K d_method_3_code_51 (pc' := 52) rfl rfl ?_
              refine k_ldcI K (w232 hw) d_method_3_code_52 (pc' := 54) rfl ?_
              refine k_icmp_ge K d_method_3_code_54 (by decide) (pc' := 60) (pc2 := 57) (by decide) rfl (fun hc54 => ?_) (fun hc54 => ?_)
              · have m7 : ¬ n < 10000000 := by rw [own_i32, hx, show (10000000 : Int32).toInt = 10000000 by decide] at hc54; omega
                refine k_iloadN K d_method_3_code_60 (pc' := 61) rfl rfl ?_
                refine k_ldcI K (w233 hw) d_method_3_code_61 (pc' := 63) rfl ?_
                refine k_icmp_ge K d_method_3_code_63 (by decide) (pc' := 69) (pc2 := 66) (by decide) rfl (fun hc63 => ?_) (fun hc63 => ?_)
                · have m8 : ¬ n < 100000000 := by rw [own_i32, hx, show (100000000 : Int32).toInt = 100000000 by decide] at hc63; omega
                  refine k_iloadN K d_method_3_code_69 (pc' := 70) rfl rfl ?_
                  refine k_ldcI K (w234 hw) d_method_3_code_70 (pc' := 72) rfl ?_
                  refine k_icmp_ge K d_method_3_code_72 (by decide) (pc' := 78) (pc2 := 75) (by decide) rfl (fun hc72 => ?_) (fun hc72 => ?_)
                  · have m9 : ¬ n < 1000000000 := by rw [own_i32, hx, show (1000000000 : Int32).toInt = 1000000000 by decide] at hc72; omega
                    refine k_bipush K (10 : Int32) d_method_3_code_78 (pc' := 80) rfl rfl ?_
                    exact k_iret K d_method_3_code_80 rfl (fun sf ht => ⟨by rw [show szN n = 10 from by simp [szN, m1, m2, m3, m4, m5, m6, m7, m8, m9]]; rfl, rfl⟩) (by decide) (by decide)
                  · have m9 : n < 1000000000 := by rw [own_i32, hx, show (1000000000 : Int32).toInt = 1000000000 by decide] at hc72; omega
                    refine k_bipush K (9 : Int32) d_method_3_code_75 (pc' := 77) rfl rfl ?_
                    exact k_iret K d_method_3_code_77 rfl (fun sf ht => ⟨by rw [show szN n = 9 from by simp [szN, m1, m2, m3, m4, m5, m6, m7, m8, m9]]; rfl, rfl⟩) (by decide) (by decide)
                · have m8 : n < 100000000 := by rw [own_i32, hx, show (100000000 : Int32).toInt = 100000000 by decide] at hc63; omega
                  refine k_bipush K (8 : Int32) d_method_3_code_66 (pc' := 68) rfl rfl ?_
                  exact k_iret K d_method_3_code_68 rfl (fun sf ht => ⟨by rw [show szN n = 8 from by simp [szN, m1, m2, m3, m4, m5, m6, m7, m8]]; rfl, rfl⟩) (by decide) (by decide)
              · have m7 : n < 10000000 := by rw [own_i32, hx, show (10000000 : Int32).toInt = 10000000 by decide] at hc54; omega
                refine k_bipush K (7 : Int32) d_method_3_code_57 (pc' := 59) rfl rfl ?_
                exact k_iret K d_method_3_code_59 rfl (fun sf ht => ⟨by rw [show szN n = 7 from by simp [szN, m1, m2, m3, m4, m5, m6, m7]]; rfl, rfl⟩) (by decide) (by decide)
            · have m6 : n < 1000000 := by rw [own_i32, hx, show (1000000 : Int32).toInt = 1000000 by decide] at hc45; omega
              refine k_bipush K (6 : Int32) d_method_3_code_48 (pc' := 50) rfl rfl ?_
              exact k_iret K d_method_3_code_50 rfl (fun sf ht => ⟨by rw [show szN n = 6 from by simp [szN, m1, m2, m3, m4, m5, m6]]; rfl, rfl⟩) (by decide) (by decide)
          · have m5 : n < 100000 := by rw [own_i32, hx, show (100000 : Int32).toInt = 100000 by decide] at hc37; omega
            refine k_iconst K (5 : Int32) d_method_3_code_40 (pc' := 41) rfl rfl ?_
            exact k_iret K d_method_3_code_41 rfl (fun sf ht => ⟨by rw [show szN n = 5 from by simp [szN, m1, m2, m3, m4, m5]]; rfl, rfl⟩) (by decide) (by decide)
        · have m4 : n < 10000 := by rw [own_i32, hx, show (10000 : Int32).toInt = 10000 by decide] at hc29; omega
          refine k_iconst K (4 : Int32) d_method_3_code_32 (pc' := 33) rfl rfl ?_
          exact k_iret K d_method_3_code_33 rfl (fun sf ht => ⟨by rw [show szN n = 4 from by simp [szN, m1, m2, m3, m4]]; rfl, rfl⟩) (by decide) (by decide)
      · have m3 : n < 1000 := by rw [own_i32, hx, show (1000 : Int32).toInt = 1000 by decide] at hc20; omega
        refine k_iconst K (3 : Int32) d_method_3_code_23 (pc' := 24) rfl rfl ?_
        exact k_iret K d_method_3_code_24 rfl (fun sf ht => ⟨by rw [show szN n = 3 from by simp [szN, m1, m2, m3]]; rfl, rfl⟩) (by decide) (by decide)
    · have m2 : n < 100 := by rw [own_i32, hx, show (100 : Int32).toInt = 100 by decide] at hc11; omega
      refine k_iconst K (2 : Int32) d_method_3_code_14 (pc' := 15) rfl rfl ?_
      exact k_iret K d_method_3_code_15 rfl (fun sf ht => ⟨by rw [show szN n = 2 from by simp [szN, m1, m2]]; rfl, rfl⟩) (by decide) (by decide)
  · have m1 : n < 10 := by rw [own_i32, hx, show (10 : Int32).toInt = 10 by decide] at hc3; omega
    refine k_iconst K (1 : Int32) d_method_3_code_6 (pc' := 7) rfl rfl ?_
    exact k_iret K d_method_3_code_7 rfl (fun sf ht => ⟨by rw [show szN n = 1 from by simp [szN, m1]]; rfl, rfl⟩) (by decide) (by decide)
theorem d_method_4_code_0 : decode method_4_code 0 = .ok (.iload_n 0, 1) := by decide +kernel
theorem d_method_4_code_1 : decode method_4_code 1 = .ok (.ifCond .ne 5, 3) := by decide +kernel
theorem d_method_4_code_6 : decode method_4_code 6 = .ok (.iload_n 0, 1) := by decide +kernel
theorem d_method_4_code_7 : decode method_4_code 7 = .ok (.iconst 1, 1) := by decide +kernel
theorem d_method_4_code_8 : decode method_4_code 8 = .ok (.if_icmp .ne 6, 3) := by decide +kernel
theorem d_method_4_code_14 : decode method_4_code 14 = .ok (.iload_n 0, 1) := by decide +kernel
theorem d_method_4_code_15 : decode method_4_code 15 = .ok (.iconst 2, 1) := by decide +kernel
theorem d_method_4_code_16 : decode method_4_code 16 = .ok (.if_icmp .ne 6, 3) := by decide +kernel
theorem d_method_4_code_22 : decode method_4_code 22 = .ok (.iload_n 0, 1) := by decide +kernel
theorem d_method_4_code_23 : decode method_4_code 23 = .ok (.iconst 3, 1) := by decide +kernel
theorem d_method_4_code_24 : decode method_4_code 24 = .ok (.if_icmp .ne 7, 3) := by decide +kernel
theorem d_method_4_code_31 : decode method_4_code 31 = .ok (.iload_n 0, 1) := by decide +kernel
theorem d_method_4_code_32 : decode method_4_code 32 = .ok (.iconst 4, 1) := by decide +kernel
theorem d_method_4_code_33 : decode method_4_code 33 = .ok (.if_icmp .ne 7, 3) := by decide +kernel
theorem d_method_4_code_40 : decode method_4_code 40 = .ok (.iload_n 0, 1) := by decide +kernel
theorem d_method_4_code_41 : decode method_4_code 41 = .ok (.iconst 5, 1) := by decide +kernel
theorem d_method_4_code_42 : decode method_4_code 42 = .ok (.if_icmp .ne 6, 3) := by decide +kernel
theorem d_method_4_code_48 : decode method_4_code 48 = .ok (.iload_n 0, 1) := by decide +kernel
theorem d_method_4_code_49 : decode method_4_code 49 = .ok (.bipush 6, 2) := by decide +kernel
theorem d_method_4_code_51 : decode method_4_code 51 = .ok (.if_icmp .ne 6, 3) := by decide +kernel
theorem d_method_4_code_57 : decode method_4_code 57 = .ok (.iload_n 0, 1) := by decide +kernel
theorem d_method_4_code_58 : decode method_4_code 58 = .ok (.bipush 7, 2) := by decide +kernel
theorem d_method_4_code_60 : decode method_4_code 60 = .ok (.if_icmp .ne 6, 3) := by decide +kernel
theorem d_method_4_code_66 : decode method_4_code 66 = .ok (.iload_n 0, 1) := by decide +kernel
theorem d_method_4_code_67 : decode method_4_code 67 = .ok (.bipush 8, 2) := by decide +kernel
theorem d_method_4_code_69 : decode method_4_code 69 = .ok (.if_icmp .ne 6, 3) := by decide +kernel
theorem d_method_4_code_75 : decode method_4_code 75 = .ok (.ldc 47, 2) := by decide +kernel
theorem d_method_4_code_77 : decode method_4_code 77 = .ok (.ireturn, 1) := by decide +kernel
theorem d_method_4_code_72 : decode method_4_code 72 = .ok (.ldc 46, 2) := by decide +kernel
theorem d_method_4_code_74 : decode method_4_code 74 = .ok (.ireturn, 1) := by decide +kernel
theorem d_method_4_code_63 : decode method_4_code 63 = .ok (.ldc 45, 2) := by decide +kernel
theorem d_method_4_code_65 : decode method_4_code 65 = .ok (.ireturn, 1) := by decide +kernel
theorem d_method_4_code_54 : decode method_4_code 54 = .ok (.ldc 44, 2) := by decide +kernel
theorem d_method_4_code_56 : decode method_4_code 56 = .ok (.ireturn, 1) := by decide +kernel
theorem d_method_4_code_45 : decode method_4_code 45 = .ok (.ldc 43, 2) := by decide +kernel
theorem d_method_4_code_47 : decode method_4_code 47 = .ok (.ireturn, 1) := by decide +kernel
theorem d_method_4_code_36 : decode method_4_code 36 = .ok (.sipush 10000, 3) := by decide +kernel
theorem d_method_4_code_39 : decode method_4_code 39 = .ok (.ireturn, 1) := by decide +kernel
theorem d_method_4_code_27 : decode method_4_code 27 = .ok (.sipush 1000, 3) := by decide +kernel
theorem d_method_4_code_30 : decode method_4_code 30 = .ok (.ireturn, 1) := by decide +kernel
theorem d_method_4_code_19 : decode method_4_code 19 = .ok (.bipush 100, 2) := by decide +kernel
theorem d_method_4_code_21 : decode method_4_code 21 = .ok (.ireturn, 1) := by decide +kernel
theorem d_method_4_code_11 : decode method_4_code 11 = .ok (.bipush 10, 2) := by decide +kernel
theorem d_method_4_code_13 : decode method_4_code 13 = .ok (.ireturn, 1) := by decide +kernel
theorem d_method_4_code_4 : decode method_4_code 4 = .ok (.iconst 1, 1) := by decide +kernel
theorem d_method_4_code_5 : decode method_4_code 5 = .ok (.ireturn, 1) := by decide +kernel
set_option maxRecDepth 65536 in
set_option maxHeartbeats 40000000 in
theorem c_pow10 (l : Launch) (Z : State) (a0 : Array Value) (hw : Tb a0 Z) (hEW : EW Z a0 EL0) (n0 : Nat) (x : Int32) (n : Nat) (h0 : Heap) (O : Old Z n0 h0) (hx : x.toInt = n) (hn : n < 10) :
    Ct l Z EL0 n0 (⟨"com/example/object_sieve/objectsieve/query/TextPositionToStringPinLaw", "pow10", "(I)I"⟩ : MethodName) method_4_code 1 (some .int) ({ frames := 0, cells := 0, slots := 0, locals := 0 } : Room) #[(.int x)] h0 [] (Pu (some (.int (Int32.ofNat (10 ^ n)))) h0) := by
  refine Ct.of (a0 := a0) #[.val (.int x)] hEW O (plainFor_of_name pl_com_example_object_sieve_objectsieve_query_TextPositionToStringPinLaw) (fun m => by first | (simp [entryFrame, mkF, argsToLocals, Value.category]; done) | rfl) ?_
  intro p_ e_ s_ m_ below_ meth_ c_ b_ T_ K hSP
  refine k_iloadN K d_method_4_code_0 (pc' := 1) rfl rfl ?_
  refine k_if_ne K d_method_4_code_1 (by decide) (pc' := 6) (pc2 := 4) (by decide) rfl (fun hc1 => ?_) (fun hc1 => ?_)
  · have m0 : n ≠ 0 := fun q => hc1 (own_i32e (by rw [hx, q]; rfl))
    refine k_iloadN K d_method_4_code_6 (pc' := 7) rfl rfl ?_
    refine k_iconst K (1 : Int32) d_method_4_code_7 (pc' := 8) rfl rfl ?_
    refine k_icmp_ne K d_method_4_code_8 (by decide) (pc' := 14) (pc2 := 11) (by decide) rfl (fun hc8 => ?_) (fun hc8 => ?_)
    · have m1 : n ≠ 1 := fun q => hc8 (own_i32e (by rw [hx, q]; rfl))
      refine k_iloadN K d_method_4_code_14 (pc' := 15) rfl rfl ?_
      refine k_iconst K (2 : Int32) d_method_4_code_15 (pc' := 16) rfl rfl ?_
      refine k_icmp_ne K d_method_4_code_16 (by decide) (pc' := 22) (pc2 := 19) (by decide) rfl (fun hc16 => ?_) (fun hc16 => ?_)
      · have m2 : n ≠ 2 := fun q => hc16 (own_i32e (by rw [hx, q]; rfl))
        refine k_iloadN K d_method_4_code_22 (pc' := 23) rfl rfl ?_
        refine k_iconst K (3 : Int32) d_method_4_code_23 (pc' := 24) rfl rfl ?_
        refine k_icmp_ne K d_method_4_code_24 (by decide) (pc' := 31) (pc2 := 27) (by decide) rfl (fun hc24 => ?_) (fun hc24 => ?_)
        · have m3 : n ≠ 3 := fun q => hc24 (own_i32e (by rw [hx, q]; rfl))
          refine k_iloadN K d_method_4_code_31 (pc' := 32) rfl rfl ?_
          refine k_iconst K (4 : Int32) d_method_4_code_32 (pc' := 33) rfl rfl ?_
          refine k_icmp_ne K d_method_4_code_33 (by decide) (pc' := 40) (pc2 := 36) (by decide) rfl (fun hc33 => ?_) (fun hc33 => ?_)
          · have m4 : n ≠ 4 := fun q => hc33 (own_i32e (by rw [hx, q]; rfl))
            refine k_iloadN K d_method_4_code_40 (pc' := 41) rfl rfl ?_
            refine k_iconst K (5 : Int32) d_method_4_code_41 (pc' := 42) rfl rfl ?_
            refine k_icmp_ne K d_method_4_code_42 (by decide) (pc' := 48) (pc2 := 45) (by decide) rfl (fun hc42 => ?_) (fun hc42 => ?_)
            · have m5 : n ≠ 5 := fun q => hc42 (own_i32e (by rw [hx, q]; rfl))
              refine k_iloadN K d_method_4_code_48 (pc' := 49) rfl rfl ?_
              refine k_bipush K (6 : Int32) d_method_4_code_49 (pc' := 51) rfl rfl ?_
              refine k_icmp_ne K d_method_4_code_51 (by decide) (pc' := 57) (pc2 := 54) (by decide) rfl (fun hc51 => ?_) (fun hc51 => ?_)
              · have m6 : n ≠ 6 := fun q => hc51 (own_i32e (by rw [hx, q]; rfl))
                refine k_iloadN K d_method_4_code_57 (pc' := 58) rfl rfl ?_
                refine k_bipush K (7 : Int32) d_method_4_code_58 (pc' := 60) rfl rfl ?_
                refine k_icmp_ne K d_method_4_code_60 (by decide) (pc' := 66) (pc2 := 63) (by decide) rfl (fun hc60 => ?_) (fun hc60 => ?_)
                · have m7 : n ≠ 7 := fun q => hc60 (own_i32e (by rw [hx, q]; rfl))
                  refine k_iloadN K d_method_4_code_66 (pc' := 67) rfl rfl ?_
                  refine k_bipush K (8 : Int32) d_method_4_code_67 (pc' := 69) rfl rfl ?_
                  refine k_icmp_ne K d_method_4_code_69 (by decide) (pc' := 75) (pc2 := 72) (by decide) rfl (fun hc69 => ?_) (fun hc69 => ?_)
                  · have m8 : n ≠ 8 := fun q => hc69 (own_i32e (by rw [hx, q]; rfl))
                    refine k_ldcI K (w234 hw) d_method_4_code_75 (pc' := 77) rfl ?_
                    obtain rfl : n = 9 := by omega
                    exact k_iret K d_method_4_code_77 rfl (fun sf ht => ⟨rfl, rfl⟩) (by decide) (by decide)
                  · obtain rfl : n = 8 := by have q := congrArg Int32.toInt hc69; rw [hx, show (8 : Int32).toInt = 8 by decide] at q; omega
                    refine k_ldcI K (w233 hw) d_method_4_code_72 (pc' := 74) rfl ?_
                    exact k_iret K d_method_4_code_74 rfl (fun sf ht => ⟨rfl, rfl⟩) (by decide) (by decide)
                · obtain rfl : n = 7 := by have q := congrArg Int32.toInt hc60; rw [hx, show (7 : Int32).toInt = 7 by decide] at q; omega
                  refine k_ldcI K (w232 hw) d_method_4_code_63 (pc' := 65) rfl ?_
                  exact k_iret K d_method_4_code_65 rfl (fun sf ht => ⟨rfl, rfl⟩) (by decide) (by decide)
              · obtain rfl : n = 6 := by have q := congrArg Int32.toInt hc51; rw [hx, show (6 : Int32).toInt = 6 by decide] at q; omega
                refine k_ldcI K (w231 hw) d_method_4_code_54 (pc' := 56) rfl ?_
                exact k_iret K d_method_4_code_56 rfl (fun sf ht => ⟨rfl, rfl⟩) (by decide) (by decide)
            · obtain rfl : n = 5 := by have q := congrArg Int32.toInt hc42; rw [hx, show (5 : Int32).toInt = 5 by decide] at q; omega
              refine k_ldcI K (w230 hw) d_method_4_code_45 (pc' := 47) rfl ?_
              exact k_iret K d_method_4_code_47 rfl (fun sf ht => ⟨rfl, rfl⟩) (by decide) (by decide)
          · obtain rfl : n = 4 := by have q := congrArg Int32.toInt hc33; rw [hx, show (4 : Int32).toInt = 4 by decide] at q; omega
            refine k_sipush K (10000 : Int32) d_method_4_code_36 (pc' := 39) rfl rfl ?_
            exact k_iret K d_method_4_code_39 rfl (fun sf ht => ⟨rfl, rfl⟩) (by decide) (by decide)
        · obtain rfl : n = 3 := by have q := congrArg Int32.toInt hc24; rw [hx, show (3 : Int32).toInt = 3 by decide] at q; omega
          refine k_sipush K (1000 : Int32) d_method_4_code_27 (pc' := 30) rfl rfl ?_
          exact k_iret K d_method_4_code_30 rfl (fun sf ht => ⟨rfl, rfl⟩) (by decide) (by decide)
      · obtain rfl : n = 2 := by have q := congrArg Int32.toInt hc16; rw [hx, show (2 : Int32).toInt = 2 by decide] at q; omega
        refine k_bipush K (100 : Int32) d_method_4_code_19 (pc' := 21) rfl rfl ?_
        exact k_iret K d_method_4_code_21 rfl (fun sf ht => ⟨rfl, rfl⟩) (by decide) (by decide)
    · obtain rfl : n = 1 := by have q := congrArg Int32.toInt hc8; rw [hx, show (1 : Int32).toInt = 1 by decide] at q; omega
      refine k_bipush K (10 : Int32) d_method_4_code_11 (pc' := 13) rfl rfl ?_
      exact k_iret K d_method_4_code_13 rfl (fun sf ht => ⟨rfl, rfl⟩) (by decide) (by decide)
  · obtain rfl : n = 0 := by have q := congrArg Int32.toInt hc1; rw [hx, show (0 : Int32).toInt = 0 by decide] at q; omega
    refine k_iconst K (1 : Int32) d_method_4_code_4 (pc' := 5) rfl rfl ?_
    exact k_iret K d_method_4_code_5 rfl (fun sf ht => ⟨rfl, rfl⟩) (by decide) (by decide)
set_option maxHeartbeats 8000000 in
theorem szN_gt {n : Nat} : ∀ k, k ≤ 9 → 10 ^ k ≤ n → k < szN n
  | 0, _, h => by
    have h' : 1 ≤ n := h
    unfold szN; repeat' split
    all_goals omega
  | 1, _, h => by
    have h' : 10 ≤ n := h
    unfold szN; repeat' split
    all_goals omega
  | 2, _, h => by
    have h' : 100 ≤ n := h
    unfold szN; repeat' split
    all_goals omega
  | 3, _, h => by
    have h' : 1000 ≤ n := h
    unfold szN; repeat' split
    all_goals omega
  | 4, _, h => by
    have h' : 10000 ≤ n := h
    unfold szN; repeat' split
    all_goals omega
  | 5, _, h => by
    have h' : 100000 ≤ n := h
    unfold szN; repeat' split
    all_goals omega
  | 6, _, h => by
    have h' : 1000000 ≤ n := h
    unfold szN; repeat' split
    all_goals omega
  | 7, _, h => by
    have h' : 10000000 ≤ n := h
    unfold szN; repeat' split
    all_goals omega
  | 8, _, h => by
    have h' : 100000000 ≤ n := h
    unfold szN; repeat' split
    all_goals omega
  | 9, _, h => by
    have h' : 1000000000 ≤ n := h
    unfold szN; repeat' split
    all_goals omega
  | k + 10, q, _ => by omega
set_option maxHeartbeats 8000000 in
theorem szN_le {n : Nat} : ∀ k, 1 ≤ k → k ≤ 10 → n < 10 ^ k → szN n ≤ k
  | 0, q, _, _ => by omega
  | 1, _, _, h => by
    have h' : n < 10 := h
    unfold szN; repeat' split
    all_goals omega
  | 2, _, _, h => by
    have h' : n < 100 := h
    unfold szN; repeat' split
    all_goals omega
  | 3, _, _, h => by
    have h' : n < 1000 := h
    unfold szN; repeat' split
    all_goals omega
  | 4, _, _, h => by
    have h' : n < 10000 := h
    unfold szN; repeat' split
    all_goals omega
  | 5, _, _, h => by
    have h' : n < 100000 := h
    unfold szN; repeat' split
    all_goals omega
  | 6, _, _, h => by
    have h' : n < 1000000 := h
    unfold szN; repeat' split
    all_goals omega
  | 7, _, _, h => by
    have h' : n < 10000000 := h
    unfold szN; repeat' split
    all_goals omega
  | 8, _, _, h => by
    have h' : n < 100000000 := h
    unfold szN; repeat' split
    all_goals omega
  | 9, _, _, h => by
    have h' : n < 1000000000 := h
    unfold szN; repeat' split
    all_goals omega
  | 10, _, _, h => by
    have h' : n < 10000000000 := h
    unfold szN; repeat' split
    all_goals omega
  | k + 11, _, q, _ => by omega
theorem own_div100 {x : Int32} {m : Nat} (h : x.toInt = -(m : Int)) : (x / 100).toInt = -((m / 100 : Nat) : Int) := by
  have hl : -2 ^ 31 ≤ x.toInt := Int32.le_toInt x
  rw [Int32.toInt_div, h, show (100 : Int32).toInt = ((100 : Nat) : Int) by decide, Int.neg_tdiv, ← Int.ofNat_tdiv]
  rw [h] at hl
  have hm : m ≤ 2147483648 := by omega
  exact Int.bmod_eq_of_le (by omega) (by omega)
theorem own_r100 {x : Int32} {m : Nat} (h : x.toInt = -(m : Int)) : (x / 100 * 100 - x).toInt = ((m % 100 : Nat) : Int) := by
  have hl : -2 ^ 31 ≤ x.toInt := Int32.le_toInt x
  have e := own_div100 h
  rw [h] at hl
  have e2 : (x / 100 * 100).toInt = -((100 * (m / 100) : Nat) : Int) := by
    rw [Int32.toInt_mul, e, show (100 : Int32).toInt = 100 by decide, Int.bmod_eq_of_le (by omega) (by omega)]; omega
  rw [Int32.toInt_sub, e2, h, Int.bmod_eq_of_le (by omega) (by omega)]; omega
theorem own_nb {v : Nat} (h : v < 128) : nar .byte (Int32.ofNat v) = Int32.ofNat v := by
  have := (by decide : ∀ v : Fin 128, nar .byte (Int32.ofNat v.val) = Int32.ofNat v.val) ⟨v, h⟩
  exact this
theorem own_pd {n c m : Nat} (h : m = n / 10 ^ c) (j : Nat) : n / 10 ^ (c + j) = m / 10 ^ j := by
  rw [h, Nat.pow_add, Nat.div_div_eq_div_mul]
theorem own_szc {n c m j : Nat} (h : m = n / 10 ^ c) (hj : 10 ^ j ≤ m) (hn : n < 10 ^ 10) : c + j < szN n := by
  have h2 : 10 ^ (c + j) ≤ n := by
    rw [Nat.pow_add]
    calc 10 ^ c * 10 ^ j ≤ 10 ^ c * m := Nat.mul_le_mul_left _ hj
      _ = 10 ^ c * (n / 10 ^ c) := by rw [h]
      _ ≤ n := Nat.mul_div_le _ _
  have h3 : c + j < 10 := (Nat.pow_lt_pow_iff_right (by decide : 1 < 10)).mp (Nat.lt_of_le_of_lt h2 hn)
  exact szN_gt _ (by omega) h2
theorem own_szl {n c m j : Nat} (h : m = n / 10 ^ c) (hj : m < 10 ^ j) (h1 : 1 ≤ c + j) (h2 : c + j ≤ 10) : szN n ≤ c + j := by
  refine szN_le _ h1 h2 ?_
  rw [Nat.pow_add, Nat.mul_comm]
  exact (Nat.div_lt_iff_lt_mul (Nat.pow_pos (by decide))).mp (h ▸ hj)
theorem own_gs {vs : List Value} {i j : Nat} {v d : Value} (h : i < vs.length) : (vs.set i v).getD j d = if j = i then v else vs.getD j d := by
  by_cases q : j = i
  · subst q; simp [List.getD_eq_getElem?_getD, h]
  · rw [if_neg q]; simp [List.getD_eq_getElem?_getD, List.getElem?_set, Ne.symm q, show ¬ i = j from fun e => q e.symm]
theorem d_jdk_33_method_12_code_0 : decode jdk_33_method_12_code 0 = .ok (.iload_n 1, 1) := by decide +kernel
theorem d_jdk_33_method_12_code_1 : decode jdk_33_method_12_code 1 = .ok (.istore 5, 2) := by decide +kernel
theorem d_jdk_33_method_12_code_3 : decode jdk_33_method_12_code 3 = .ok (.iload_n 0, 1) := by decide +kernel
theorem d_jdk_33_method_12_code_4 : decode jdk_33_method_12_code 4 = .ok (.ifCond .ge 7, 3) := by decide +kernel
theorem d_jdk_33_method_12_code_11 : decode jdk_33_method_12_code 11 = .ok (.iconst 0, 1) := by decide +kernel
theorem d_jdk_33_method_12_code_12 : decode jdk_33_method_12_code 12 = .ok (.istore 6, 2) := by decide +kernel
theorem d_jdk_33_method_12_code_14 : decode jdk_33_method_12_code 14 = .ok (.iload 6, 2) := by decide +kernel
theorem d_jdk_33_method_12_code_16 : decode jdk_33_method_12_code 16 = .ok (.ifCond .ne 6, 3) := by decide +kernel
theorem d_jdk_33_method_12_code_19 : decode jdk_33_method_12_code 19 = .ok (.iload_n 0, 1) := by decide +kernel
theorem d_jdk_33_method_12_code_20 : decode jdk_33_method_12_code 20 = .ok (.ineg, 1) := by decide +kernel
theorem d_jdk_33_method_12_code_21 : decode jdk_33_method_12_code 21 = .ok (.istore_n 0, 1) := by decide +kernel
theorem d_jdk_33_method_12_code_22 : decode jdk_33_method_12_code 22 = .ok (.iload_n 0, 1) := by decide +kernel
theorem d_jdk_33_method_12_code_23 : decode jdk_33_method_12_code 23 = .ok (.bipush (-100), 2) := by decide +kernel
theorem d_jdk_33_method_12_code_25 : decode jdk_33_method_12_code 25 = .ok (.if_icmp .gt 47, 3) := by decide +kernel
theorem d_jdk_33_method_12_code_72 : decode jdk_33_method_12_code 72 = .ok (.aload_n 2, 1) := by decide +kernel
theorem d_jdk_33_method_12_code_73 : decode jdk_33_method_12_code 73 = .ok (.iinc 5 (-1), 3) := by decide +kernel
theorem d_jdk_33_method_12_code_76 : decode jdk_33_method_12_code 76 = .ok (.iload 5, 2) := by decide +kernel
theorem d_jdk_33_method_12_code_78 : decode jdk_33_method_12_code 78 = .ok (.getstatic 83, 3) := by decide +kernel
theorem w125 {Z : State} {a0 : Array Value} (hw : Tb a0 Z) : (Jvm.Cond.fieldLink "java/lang/Integer" (83 : Nat) "java/lang/Integer" "DigitOnes" "[B").before a0 Z = true := hw _ (List.mem_of_getElem? (i := 125) rfl)
theorem d_jdk_33_method_12_code_81 : decode jdk_33_method_12_code 81 = .ok (.iload_n 0, 1) := by decide +kernel
theorem d_jdk_33_method_12_code_82 : decode jdk_33_method_12_code 82 = .ok (.ineg, 1) := by decide +kernel
theorem d_jdk_33_method_12_code_83 : decode jdk_33_method_12_code 83 = .ok (.baload, 1) := by decide +kernel
theorem d_jdk_33_method_12_code_84 : decode jdk_33_method_12_code 84 = .ok (.bastore, 1) := by decide +kernel
theorem d_jdk_33_method_12_code_85 : decode jdk_33_method_12_code 85 = .ok (.iload_n 0, 1) := by decide +kernel
theorem d_jdk_33_method_12_code_86 : decode jdk_33_method_12_code 86 = .ok (.bipush (-9), 2) := by decide +kernel
theorem d_jdk_33_method_12_code_88 : decode jdk_33_method_12_code 88 = .ok (.if_icmp .ge 16, 3) := by decide +kernel
theorem d_jdk_33_method_12_code_104 : decode jdk_33_method_12_code 104 = .ok (.iload 6, 2) := by decide +kernel
theorem d_jdk_33_method_12_code_106 : decode jdk_33_method_12_code 106 = .ok (.ifCond .eq 12, 3) := by decide +kernel
theorem d_jdk_33_method_12_code_118 : decode jdk_33_method_12_code 118 = .ok (.iload 5, 2) := by decide +kernel
theorem d_jdk_33_method_12_code_120 : decode jdk_33_method_12_code 120 = .ok (.ireturn, 1) := by decide +kernel
theorem d_jdk_33_method_12_code_91 : decode jdk_33_method_12_code 91 = .ok (.aload_n 2, 1) := by decide +kernel
theorem d_jdk_33_method_12_code_92 : decode jdk_33_method_12_code 92 = .ok (.iinc 5 (-1), 3) := by decide +kernel
theorem d_jdk_33_method_12_code_95 : decode jdk_33_method_12_code 95 = .ok (.iload 5, 2) := by decide +kernel
theorem d_jdk_33_method_12_code_97 : decode jdk_33_method_12_code 97 = .ok (.getstatic 87, 3) := by decide +kernel
theorem w204 {Z : State} {a0 : Array Value} (hw : Tb a0 Z) : (Jvm.Cond.fieldLink "java/lang/Integer" (87 : Nat) "java/lang/Integer" "DigitTens" "[B").before a0 Z = true := hw _ (List.mem_of_getElem? (i := 204) rfl)
theorem d_jdk_33_method_12_code_100 : decode jdk_33_method_12_code 100 = .ok (.iload_n 0, 1) := by decide +kernel
theorem d_jdk_33_method_12_code_101 : decode jdk_33_method_12_code 101 = .ok (.ineg, 1) := by decide +kernel
theorem d_jdk_33_method_12_code_102 : decode jdk_33_method_12_code 102 = .ok (.baload, 1) := by decide +kernel
theorem d_jdk_33_method_12_code_103 : decode jdk_33_method_12_code 103 = .ok (.bastore, 1) := by decide +kernel
theorem d_jdk_33_method_12_code_28 : decode jdk_33_method_12_code 28 = .ok (.iload_n 0, 1) := by decide +kernel
theorem d_jdk_33_method_12_code_29 : decode jdk_33_method_12_code 29 = .ok (.bipush 100, 2) := by decide +kernel
theorem d_jdk_33_method_12_code_31 : decode jdk_33_method_12_code 31 = .ok (.idiv, 1) := by decide +kernel
theorem d_jdk_33_method_12_code_32 : decode jdk_33_method_12_code 32 = .ok (.istore_n 3, 1) := by decide +kernel
theorem d_jdk_33_method_12_code_33 : decode jdk_33_method_12_code 33 = .ok (.iload_n 3, 1) := by decide +kernel
theorem d_jdk_33_method_12_code_34 : decode jdk_33_method_12_code 34 = .ok (.bipush 100, 2) := by decide +kernel
theorem d_jdk_33_method_12_code_36 : decode jdk_33_method_12_code 36 = .ok (.imul, 1) := by decide +kernel
theorem d_jdk_33_method_12_code_37 : decode jdk_33_method_12_code 37 = .ok (.iload_n 0, 1) := by decide +kernel
theorem d_jdk_33_method_12_code_38 : decode jdk_33_method_12_code 38 = .ok (.isub, 1) := by decide +kernel
theorem d_jdk_33_method_12_code_39 : decode jdk_33_method_12_code 39 = .ok (.istore 4, 2) := by decide +kernel
theorem d_jdk_33_method_12_code_41 : decode jdk_33_method_12_code 41 = .ok (.iload_n 3, 1) := by decide +kernel
theorem d_jdk_33_method_12_code_42 : decode jdk_33_method_12_code 42 = .ok (.istore_n 0, 1) := by decide +kernel
theorem d_jdk_33_method_12_code_43 : decode jdk_33_method_12_code 43 = .ok (.aload_n 2, 1) := by decide +kernel
theorem d_jdk_33_method_12_code_44 : decode jdk_33_method_12_code 44 = .ok (.iinc 5 (-1), 3) := by decide +kernel
theorem d_jdk_33_method_12_code_47 : decode jdk_33_method_12_code 47 = .ok (.iload 5, 2) := by decide +kernel
theorem d_jdk_33_method_12_code_49 : decode jdk_33_method_12_code 49 = .ok (.getstatic 83, 3) := by decide +kernel
theorem d_jdk_33_method_12_code_52 : decode jdk_33_method_12_code 52 = .ok (.iload 4, 2) := by decide +kernel
theorem d_jdk_33_method_12_code_54 : decode jdk_33_method_12_code 54 = .ok (.baload, 1) := by decide +kernel
theorem d_jdk_33_method_12_code_55 : decode jdk_33_method_12_code 55 = .ok (.bastore, 1) := by decide +kernel
theorem d_jdk_33_method_12_code_56 : decode jdk_33_method_12_code 56 = .ok (.aload_n 2, 1) := by decide +kernel
theorem d_jdk_33_method_12_code_57 : decode jdk_33_method_12_code 57 = .ok (.iinc 5 (-1), 3) := by decide +kernel
theorem d_jdk_33_method_12_code_60 : decode jdk_33_method_12_code 60 = .ok (.iload 5, 2) := by decide +kernel
theorem d_jdk_33_method_12_code_62 : decode jdk_33_method_12_code 62 = .ok (.getstatic 87, 3) := by decide +kernel
theorem d_jdk_33_method_12_code_65 : decode jdk_33_method_12_code 65 = .ok (.iload 4, 2) := by decide +kernel
theorem d_jdk_33_method_12_code_67 : decode jdk_33_method_12_code 67 = .ok (.baload, 1) := by decide +kernel
theorem d_jdk_33_method_12_code_68 : decode jdk_33_method_12_code 68 = .ok (.bastore, 1) := by decide +kernel
theorem d_jdk_33_method_12_code_69 : decode jdk_33_method_12_code 69 = .ok (.goto (-47), 3) := by decide +kernel
set_option maxRecDepth 65536 in
set_option maxHeartbeats 40000000 in
theorem c_getChars (l : Launch) (Z : State) (a0 : Array Value) (hw : Tb a0 Z) (hEW : EW Z a0 EL0) (n0 : Nat) (x : Int32) (n : Nat) (d : Addr) (kd : ClassId) (cp : Int32) (cn bs : Nat) (vs0 : List Value) (od td : Addr) (ko kt_ : ClassId) (OL TL : List Value) (h0 : Heap) (O : Old Z n0 h0) (hx : x.toInt = n) (h1 : 1 ≤ n) (hcp : cp.toInt = cn) (hcn : cn ≤ 142) (hvs : vs0.length = cn) (hfit : bs + szN n ≤ cn) (V_d : Arv Z h0 d kd .byte cp vs0 (.int 0)) (ga_d : n0 ≤ d) (SO : Sta Z Z.heap "java/lang/Integer" "DigitOnes" "[B" (.ref od)) (VO : Arv Z Z.heap od ko .byte 100 OL (.int 0)) (hO : ∀ r, r < 100 → OL.getD r (.int 0) = .int (Int32.ofNat (48 + r % 10))) (ST_ : Sta Z Z.heap "java/lang/Integer" "DigitTens" "[B" (.ref td)) (VT_ : Arv Z Z.heap td kt_ .byte 100 TL (.int 0)) (hT : ∀ r, r < 100 → TL.getD r (.int 0) = .int (Int32.ofNat (48 + r / 10)))  :
    Ct l Z EL0 n0 (⟨"java/lang/Integer", "getChars", "(II[B)I"⟩ : MethodName) jdk_33_method_12_code 7 (some .int) ({ frames := 0, cells := 0, slots := 0, locals := 0 } : Room) #[(.int x), (.int (Int32.ofNat (bs + szN n))), (.ref d)] h0 [d] (fun v h sf => ∃ r vs', v = some (.int r) ∧ Keep h0 h [d] ∧ Arv Z h d kd .byte cp vs' (.int 0) ∧ vs'.length = cn ∧ (∀ j, j < bs → vs'.getD j (.int 0) = vs0.getD j (.int 0)) ∧ (∀ k, k < szN n → vs'.getD (bs + szN n - 1 - k) (.int 0) = .int (dig n k))) := by
  refine Ct.of (a0 := a0) #[.val (.int x), .val (.int (Int32.ofNat (bs + szN n))), .val (.ref d), .unset, .unset, .unset, .unset] hEW O (plainFor_of_name pl_java_lang_Integer) (fun m => by first | (simp [entryFrame, mkF, argsToLocals, Value.category]; done) | rfl) ?_
  intro p_ e_ s_ m_ below_ meth_ c_ b_ T_ K hSP
  have KP := Keep.refl h0 [d]
  have sf_d := hSP d (by simp)
  have hn10 : n < 10 ^ 10 := by have q : x.toInt < 2 ^ 31 := Int32.toInt_lt x; rw [hx] at q; omega
  have hneg := own_neg hx
  have hsz := szN_b n
  refine k_iloadN K d_jdk_33_method_12_code_0 (pc' := 1) rfl rfl ?_
  refine k_istore K d_jdk_33_method_12_code_1 (pc' := 3) (L' := #[.val (.int x), .val (.int (Int32.ofNat (bs + szN n))), .val (.ref d), .unset, .unset, .val (.int (Int32.ofNat (bs + szN n))), .unset]) rfl rfl ?_
  refine k_iloadN K d_jdk_33_method_12_code_3 (pc' := 4) rfl rfl ?_
  refine k_if_ge K d_jdk_33_method_12_code_4 (by decide) (pc' := 11) (pc2 := 7) (by decide) rfl (fun hc4 => ?_) (fun q => absurd q (by rw [own_i32, hx, own_0]; omega))
  refine k_iconst K (0 : Int32) d_jdk_33_method_12_code_11 (pc' := 12) rfl rfl ?_
  refine k_istore K d_jdk_33_method_12_code_12 (pc' := 14) (L' := #[.val (.int x), .val (.int (Int32.ofNat (bs + szN n))), .val (.ref d), .unset, .unset, .val (.int (Int32.ofNat (bs + szN n))), .val (.int (0 : Int32))]) rfl rfl ?_
  refine k_iload K d_jdk_33_method_12_code_14 (pc' := 16) rfl rfl ?_
  refine k_if_ne K d_jdk_33_method_12_code_16 (by decide) (pc' := 22) (pc2 := 19) (by decide) rfl (fun q => absurd (by decide) q) (fun hc16 => ?_)
  refine k_iloadN K d_jdk_33_method_12_code_19 (pc' := 20) rfl rfl ?_
  refine k_ineg K d_jdk_33_method_12_code_20 (pc' := 21) rfl ?_
  refine k_istoreN K d_jdk_33_method_12_code_21 (pc' := 22) (L' := #[.val (.int (-x)), .val (.int (Int32.ofNat (bs + szN n))), .val (.ref d), .unset, .unset, .val (.int (Int32.ofNat (bs + szN n))), .val (.int (0 : Int32))]) rfl rfl ?_
  have LOOP : ∀ (k : Nat) (ii : Int32) (m c pos : Nat) (hm : ii.toInt = -(m : Int)) (hmn : m = n / 10 ^ c) (hm1 : 1 ≤ m) (hfu : m < 100 ^ (k + 1)) (hpc : pos + c = bs + szN n) (vs : List Value) (lvs : vs.length = cn) (hj : ∀ j, j < bs → vs.getD j (.int 0) = vs0.getD j (.int 0)) (hd_ : ∀ i, i < c → vs.getD (bs + szN n - 1 - i) (.int 0) = .int (dig n i)) (s3 : Slot) (hs3 : s3 = .unset ∨ ∃ w, s3 = .val (.int w)) (s4 : Slot) (hs4 : s4 = .unset ∨ ∃ w, s4 = .val (.int w)) (bl Tl : State) (hl : Heap) (Ll : List Loc), Wk p_ l e_ ({ frames := 0, cells := 0, slots := 0, locals := 0 } : Room) s_ m_ #[(.int x), (.int (Int32.ofNat (bs + szN n))), (.ref d)] below_ meth_ c_ Z a0 EL0 n0 (⟨"java/lang/Integer", "getChars", "(II[B)I"⟩ : MethodName) jdk_33_method_12_code 7 (some .int) bl Tl hl Ll 0 0 → (Keep h0 hl [d]) → (Arv Z hl d kd .byte cp vs (.int 0)) → (Sfe Z EL0 bl.vm hl d) → Goes p_.tables e_ below_ (FinW Z EL0 s_ n0 ({ frames := 0, cells := 0, slots := 0, locals := 0 } : Room) (fun v h sf => ∃ r vs', v = some (.int r) ∧ Keep h0 h [d] ∧ Arv Z h d kd .byte cp vs' (.int 0) ∧ vs'.length = cn ∧ (∀ j, j < bs → vs'.getD j (.int 0) = vs0.getD j (.int 0)) ∧ (∀ k, k < szN n → vs'.getD (bs + szN n - 1 - k) (.int 0) = .int (dig n k)))) (Tl.setTop (mkF m_ 22 #[.val (.int ii), .val (.int (Int32.ofNat (bs + szN n))), .val (.ref d), s3, s4, .val (.int (Int32.ofNat pos)), .val (.int (0 : Int32))] [])) := by
    intro k
    induction k with
    | zero =>
      intro ii m c pos hm hmn hm1 hfu hpc vs lvs hj hd_ s3 hs3 s4 hs4 bl Tl hl Ll Kl KP V_d sf_d
      have hm99 : m < 100 := by simpa using hfu
      refine k_iloadN Kl d_jdk_33_method_12_code_22 (pc' := 23) rfl rfl ?_
      refine k_bipush Kl (-100 : Int32) d_jdk_33_method_12_code_23 (pc' := 25) rfl rfl ?_
      refine k_icmp_gt Kl d_jdk_33_method_12_code_25 (by decide) (pc' := 72) (pc2 := 28) (by decide) rfl (fun hc25 => ?_) (fun q => absurd (by rw [own_i32, hm, show (-100 : Int32).toInt = -100 by decide]; omega) q)
      have hs1 : c + 0 < szN n := own_szc hmn (by simpa using hm1) hn10
      have hni : (-ii).toInt = (m : Nat) := by rw [Int32.toInt_neg, hm, Int.bmod_eq_of_le (by omega) (by omega)]; omega
      refine k_aloadN Kl d_jdk_33_method_12_code_72 (pc' := 73) rfl rfl rfl ?_
      refine k_iinc Kl (-1 : Int32) d_jdk_33_method_12_code_73 (pc' := 76) (L' := #[.val (.int ii), .val (.int (Int32.ofNat (bs + szN n))), .val (.ref d), s3, s4, .val (.int ((Int32.ofNat pos) + (-1 : Int32))), .val (.int (0 : Int32))]) rfl rfl rfl rfl ?_
      refine k_iload Kl d_jdk_33_method_12_code_76 (pc' := 78) rfl rfl ?_
      have hp_ : Int32.ofNat (pos) + (-1) = Int32.ofNat (pos - 1) := own_i32e (by rw [XT.add32 (by rw [own_of (by omega), show (-1 : Int32).toInt = -1 by decide]; constructor <;> omega), own_of (by omega), own_of (by omega), show (-1 : Int32).toInt = -1 by decide]; omega)
      rw [hp_]
      refine k_getS Kl (w125 hw) Via.refl SO d_jdk_33_method_12_code_78 (pc' := 81) rfl ?_
      intro T70 K70
      refine k_iloadN K70 d_jdk_33_method_12_code_81 (pc' := 82) rfl rfl ?_
      refine k_ineg K70 d_jdk_33_method_12_code_82 (pc' := 83) rfl ?_
      refine k_baload K70 (j := (-ii)) (VO.ext K70.old.2) (own_in hni (show (100 : Int32).toInt = (100 : Nat) by decide) (by omega)) (by rw [own_clamp hni]; exact hO _ (by omega)) d_jdk_33_method_12_code_83 (pc' := 84) rfl ?_
      have hpn := own_of (n := pos - 1) (by omega)
      refine k_bastore K70 (j := (Int32.ofNat (pos - 1))) V_d (own_in hpn hcp (by omega)) (by rw [own_clamp hpn]; first | (rw [lvs]; omega) | (rw [List.length_set, lvs]; omega)) ga_d sf_d d_jdk_33_method_12_code_84 (pc' := 85) rfl ?_
      intro T71 h71 K71 W71 tr71 V71
      replace sf_d := tr71 d V_d.lt sf_d
      replace KP := KP.wr W71 (Or.inl (by simp))
      replace V_d := V71
      rw [own_clamp hpn, own_nb (by omega)] at V_d
      have hdg : (.int (Int32.ofNat (48 + m % 10)) : Value) = .int (dig n c) := by rw [dig, ← hmn]
      rw [hdg] at V_d
      refine k_iloadN K71 d_jdk_33_method_12_code_85 (pc' := 86) rfl rfl ?_
      refine k_bipush K71 (-9 : Int32) d_jdk_33_method_12_code_86 (pc' := 88) rfl rfl ?_
      refine k_icmp_ge K71 d_jdk_33_method_12_code_88 (by decide) (pc' := 104) (pc2 := 91) (by decide) rfl (fun hc88 => ?_) (fun hc88 => ?_)
      · have hm9 : m < 10 := by rw [own_i32, hm, show (-9 : Int32).toInt = -9 by decide] at hc88; omega
        have hsl : szN n ≤ c + 1 := own_szl hmn (by simpa using hm9) (by omega) (by omega)
        refine k_iload K71 d_jdk_33_method_12_code_104 (pc' := 106) rfl rfl ?_
        refine k_if_eq K71 d_jdk_33_method_12_code_106 (by decide) (pc' := 118) (pc2 := 109) (by decide) rfl (fun hc106 => ?_) (fun q => absurd (by decide) q)
        refine k_iload K71 d_jdk_33_method_12_code_118 (pc' := 120) rfl rfl ?_
        exact k_iret K71 d_jdk_33_method_12_code_120 rfl (fun sf ht => ⟨_, _, rfl, KP, V_d, by rw [List.length_set, lvs], fun j hj2 => by rw [own_gs (by rw [lvs]; omega), if_neg (by omega)]; exact hj j hj2, fun i hi => by
          rw [own_gs (by rw [lvs]; omega)]
          by_cases q : i = c
          · subst q; rw [if_pos (by omega)]
          · rw [if_neg (by omega)]; exact hd_ i (by omega)⟩) (by decide) (by decide)
      · have hm9 : 10 ≤ m := by rw [own_i32, hm, show (-9 : Int32).toInt = -9 by decide] at hc88; omega
        have hs2 : c + 1 < szN n := own_szc hmn (by simpa using hm9) hn10
        have hsl : szN n ≤ c + 2 := own_szl hmn (by simpa using hm99) (by omega) (by omega)
        refine k_aloadN K71 d_jdk_33_method_12_code_91 (pc' := 92) rfl rfl rfl ?_
        refine k_iinc K71 (-1 : Int32) d_jdk_33_method_12_code_92 (pc' := 95) (L' := #[.val (.int ii), .val (.int (Int32.ofNat (bs + szN n))), .val (.ref d), s3, s4, .val (.int ((Int32.ofNat (pos - 1)) + (-1 : Int32))), .val (.int (0 : Int32))]) rfl rfl rfl rfl ?_
        refine k_iload K71 d_jdk_33_method_12_code_95 (pc' := 97) rfl rfl ?_
        have hp_ : Int32.ofNat (pos - 1) + (-1) = Int32.ofNat (pos - 1 - 1) := own_i32e (by rw [XT.add32 (by rw [own_of (by omega), show (-1 : Int32).toInt = -1 by decide]; constructor <;> omega), own_of (by omega), own_of (by omega), show (-1 : Int32).toInt = -1 by decide]; omega)
        rw [hp_]
        refine k_getS K71 (w204 hw) Via.refl ST_ d_jdk_33_method_12_code_97 (pc' := 100) rfl ?_
        intro T72 K72
        refine k_iloadN K72 d_jdk_33_method_12_code_100 (pc' := 101) rfl rfl ?_
        refine k_ineg K72 d_jdk_33_method_12_code_101 (pc' := 102) rfl ?_
        refine k_baload K72 (j := (-ii)) (VT_.ext K72.old.2) (own_in hni (show (100 : Int32).toInt = (100 : Nat) by decide) (by omega)) (by rw [own_clamp hni]; exact hT _ (by omega)) d_jdk_33_method_12_code_102 (pc' := 103) rfl ?_
        have hpn := own_of (n := pos - 1 - 1) (by omega)
        refine k_bastore K72 (j := (Int32.ofNat (pos - 1 - 1))) V_d (own_in hpn hcp (by omega)) (by rw [own_clamp hpn]; first | (rw [lvs]; omega) | (rw [List.length_set, lvs]; omega)) ga_d sf_d d_jdk_33_method_12_code_103 (pc' := 104) rfl ?_
        intro T73 h73 K73 W73 tr73 V73
        replace sf_d := tr73 d V_d.lt sf_d
        replace KP := KP.wr W73 (Or.inl (by simp))
        replace V_d := V73
        rw [own_clamp hpn, own_nb (by omega)] at V_d
        have hdg2 : (.int (Int32.ofNat (48 + m / 10)) : Value) = .int (dig n (c + 1)) := by rw [dig, own_pd hmn 1, Nat.pow_one, Nat.mod_eq_of_lt (by omega)]
        rw [hdg2] at V_d
        refine k_iload K73 d_jdk_33_method_12_code_104 (pc' := 106) rfl rfl ?_
        refine k_if_eq K73 d_jdk_33_method_12_code_106 (by decide) (pc' := 118) (pc2 := 109) (by decide) rfl (fun hc106 => ?_) (fun q => absurd (by decide) q)
        refine k_iload K73 d_jdk_33_method_12_code_118 (pc' := 120) rfl rfl ?_
        exact k_iret K73 d_jdk_33_method_12_code_120 rfl (fun sf ht => ⟨_, _, rfl, KP, V_d, by rw [List.length_set, List.length_set, lvs], fun j hj2 => by rw [own_gs (by rw [List.length_set, lvs]; omega), if_neg (by omega), own_gs (by rw [lvs]; omega), if_neg (by omega)]; exact hj j hj2, fun i hi => by
          rw [own_gs (by rw [List.length_set, lvs]; omega)]
          by_cases q : i = c + 1
          · subst q; rw [if_pos (by omega)]
          · rw [if_neg (by omega), own_gs (by rw [lvs]; omega)]
            by_cases q2 : i = c
            · subst q2; rw [if_pos (by omega)]
            · rw [if_neg (by omega)]; exact hd_ i (by omega)⟩) (by decide) (by decide)
    | succ k ih =>
      intro ii m c pos hm hmn hm1 hfu hpc vs lvs hj hd_ s3 hs3 s4 hs4 bl Tl hl Ll Kl KP V_d sf_d
      refine k_iloadN Kl d_jdk_33_method_12_code_22 (pc' := 23) rfl rfl ?_
      refine k_bipush Kl (-100 : Int32) d_jdk_33_method_12_code_23 (pc' := 25) rfl rfl ?_
      refine k_icmp_gt Kl d_jdk_33_method_12_code_25 (by decide) (pc' := 72) (pc2 := 28) (by decide) rfl (fun hc25 => ?_) (fun hc25 => ?_)
      · have hm99 : m < 100 := by rw [own_i32, hm, show (-100 : Int32).toInt = -100 by decide] at hc25; omega
        have hs1 : c + 0 < szN n := own_szc hmn (by simpa using hm1) hn10
        have hni : (-ii).toInt = (m : Nat) := by rw [Int32.toInt_neg, hm, Int.bmod_eq_of_le (by omega) (by omega)]; omega
        refine k_aloadN Kl d_jdk_33_method_12_code_72 (pc' := 73) rfl rfl rfl ?_
        refine k_iinc Kl (-1 : Int32) d_jdk_33_method_12_code_73 (pc' := 76) (L' := #[.val (.int ii), .val (.int (Int32.ofNat (bs + szN n))), .val (.ref d), s3, s4, .val (.int ((Int32.ofNat pos) + (-1 : Int32))), .val (.int (0 : Int32))]) rfl rfl rfl rfl ?_
        refine k_iload Kl d_jdk_33_method_12_code_76 (pc' := 78) rfl rfl ?_
        have hp_ : Int32.ofNat (pos) + (-1) = Int32.ofNat (pos - 1) := own_i32e (by rw [XT.add32 (by rw [own_of (by omega), show (-1 : Int32).toInt = -1 by decide]; constructor <;> omega), own_of (by omega), own_of (by omega), show (-1 : Int32).toInt = -1 by decide]; omega)
        rw [hp_]
        refine k_getS Kl (w125 hw) Via.refl SO d_jdk_33_method_12_code_78 (pc' := 81) rfl ?_
        intro T74 K74
        refine k_iloadN K74 d_jdk_33_method_12_code_81 (pc' := 82) rfl rfl ?_
        refine k_ineg K74 d_jdk_33_method_12_code_82 (pc' := 83) rfl ?_
        refine k_baload K74 (j := (-ii)) (VO.ext K74.old.2) (own_in hni (show (100 : Int32).toInt = (100 : Nat) by decide) (by omega)) (by rw [own_clamp hni]; exact hO _ (by omega)) d_jdk_33_method_12_code_83 (pc' := 84) rfl ?_
        have hpn := own_of (n := pos - 1) (by omega)
        refine k_bastore K74 (j := (Int32.ofNat (pos - 1))) V_d (own_in hpn hcp (by omega)) (by rw [own_clamp hpn]; first | (rw [lvs]; omega) | (rw [List.length_set, lvs]; omega)) ga_d sf_d d_jdk_33_method_12_code_84 (pc' := 85) rfl ?_
        intro T75 h75 K75 W75 tr75 V75
        replace sf_d := tr75 d V_d.lt sf_d
        replace KP := KP.wr W75 (Or.inl (by simp))
        replace V_d := V75
        rw [own_clamp hpn, own_nb (by omega)] at V_d
        have hdg : (.int (Int32.ofNat (48 + m % 10)) : Value) = .int (dig n c) := by rw [dig, ← hmn]
        rw [hdg] at V_d
        refine k_iloadN K75 d_jdk_33_method_12_code_85 (pc' := 86) rfl rfl ?_
        refine k_bipush K75 (-9 : Int32) d_jdk_33_method_12_code_86 (pc' := 88) rfl rfl ?_
        refine k_icmp_ge K75 d_jdk_33_method_12_code_88 (by decide) (pc' := 104) (pc2 := 91) (by decide) rfl (fun hc88 => ?_) (fun hc88 => ?_)
        · have hm9 : m < 10 := by rw [own_i32, hm, show (-9 : Int32).toInt = -9 by decide] at hc88; omega
          have hsl : szN n ≤ c + 1 := own_szl hmn (by simpa using hm9) (by omega) (by omega)
          refine k_iload K75 d_jdk_33_method_12_code_104 (pc' := 106) rfl rfl ?_
          refine k_if_eq K75 d_jdk_33_method_12_code_106 (by decide) (pc' := 118) (pc2 := 109) (by decide) rfl (fun hc106 => ?_) (fun q => absurd (by decide) q)
          refine k_iload K75 d_jdk_33_method_12_code_118 (pc' := 120) rfl rfl ?_
          exact k_iret K75 d_jdk_33_method_12_code_120 rfl (fun sf ht => ⟨_, _, rfl, KP, V_d, by rw [List.length_set, lvs], fun j hj2 => by rw [own_gs (by rw [lvs]; omega), if_neg (by omega)]; exact hj j hj2, fun i hi => by
            rw [own_gs (by rw [lvs]; omega)]
            by_cases q : i = c
            · subst q; rw [if_pos (by omega)]
            · rw [if_neg (by omega)]; exact hd_ i (by omega)⟩) (by decide) (by decide)
        · have hm9 : 10 ≤ m := by rw [own_i32, hm, show (-9 : Int32).toInt = -9 by decide] at hc88; omega
          have hs2 : c + 1 < szN n := own_szc hmn (by simpa using hm9) hn10
          have hsl : szN n ≤ c + 2 := own_szl hmn (by simpa using hm99) (by omega) (by omega)
          refine k_aloadN K75 d_jdk_33_method_12_code_91 (pc' := 92) rfl rfl rfl ?_
          refine k_iinc K75 (-1 : Int32) d_jdk_33_method_12_code_92 (pc' := 95) (L' := #[.val (.int ii), .val (.int (Int32.ofNat (bs + szN n))), .val (.ref d), s3, s4, .val (.int ((Int32.ofNat (pos - 1)) + (-1 : Int32))), .val (.int (0 : Int32))]) rfl rfl rfl rfl ?_
          refine k_iload K75 d_jdk_33_method_12_code_95 (pc' := 97) rfl rfl ?_
          have hp_ : Int32.ofNat (pos - 1) + (-1) = Int32.ofNat (pos - 1 - 1) := own_i32e (by rw [XT.add32 (by rw [own_of (by omega), show (-1 : Int32).toInt = -1 by decide]; constructor <;> omega), own_of (by omega), own_of (by omega), show (-1 : Int32).toInt = -1 by decide]; omega)
          rw [hp_]
          refine k_getS K75 (w204 hw) Via.refl ST_ d_jdk_33_method_12_code_97 (pc' := 100) rfl ?_
          intro T76 K76
          refine k_iloadN K76 d_jdk_33_method_12_code_100 (pc' := 101) rfl rfl ?_
          refine k_ineg K76 d_jdk_33_method_12_code_101 (pc' := 102) rfl ?_
          refine k_baload K76 (j := (-ii)) (VT_.ext K76.old.2) (own_in hni (show (100 : Int32).toInt = (100 : Nat) by decide) (by omega)) (by rw [own_clamp hni]; exact hT _ (by omega)) d_jdk_33_method_12_code_102 (pc' := 103) rfl ?_
          have hpn := own_of (n := pos - 1 - 1) (by omega)
          refine k_bastore K76 (j := (Int32.ofNat (pos - 1 - 1))) V_d (own_in hpn hcp (by omega)) (by rw [own_clamp hpn]; first | (rw [lvs]; omega) | (rw [List.length_set, lvs]; omega)) ga_d sf_d d_jdk_33_method_12_code_103 (pc' := 104) rfl ?_
          intro T77 h77 K77 W77 tr77 V77
          replace sf_d := tr77 d V_d.lt sf_d
          replace KP := KP.wr W77 (Or.inl (by simp))
          replace V_d := V77
          rw [own_clamp hpn, own_nb (by omega)] at V_d
          have hdg2 : (.int (Int32.ofNat (48 + m / 10)) : Value) = .int (dig n (c + 1)) := by rw [dig, own_pd hmn 1, Nat.pow_one, Nat.mod_eq_of_lt (by omega)]
          rw [hdg2] at V_d
          refine k_iload K77 d_jdk_33_method_12_code_104 (pc' := 106) rfl rfl ?_
          refine k_if_eq K77 d_jdk_33_method_12_code_106 (by decide) (pc' := 118) (pc2 := 109) (by decide) rfl (fun hc106 => ?_) (fun q => absurd (by decide) q)
          refine k_iload K77 d_jdk_33_method_12_code_118 (pc' := 120) rfl rfl ?_
          exact k_iret K77 d_jdk_33_method_12_code_120 rfl (fun sf ht => ⟨_, _, rfl, KP, V_d, by rw [List.length_set, List.length_set, lvs], fun j hj2 => by rw [own_gs (by rw [List.length_set, lvs]; omega), if_neg (by omega), own_gs (by rw [lvs]; omega), if_neg (by omega)]; exact hj j hj2, fun i hi => by
            rw [own_gs (by rw [List.length_set, lvs]; omega)]
            by_cases q : i = c + 1
            · subst q; rw [if_pos (by omega)]
            · rw [if_neg (by omega), own_gs (by rw [lvs]; omega)]
              by_cases q2 : i = c
              · subst q2; rw [if_pos (by omega)]
              · rw [if_neg (by omega)]; exact hd_ i (by omega)⟩) (by decide) (by decide)
      · have hm100 : 100 ≤ m := by rw [own_i32, hm, show (-100 : Int32).toInt = -100 by decide] at hc25; omega
        have hs3_ : c + 2 < szN n := own_szc hmn (by simpa using hm100) hn10
        have hr := own_r100 hm
        have hq := own_div100 hm
        refine k_iloadN Kl d_jdk_33_method_12_code_28 (pc' := 29) rfl rfl ?_
        refine k_bipush Kl (100 : Int32) d_jdk_33_method_12_code_29 (pc' := 31) rfl rfl ?_
        refine k_idiv Kl d_jdk_33_method_12_code_31 (pc' := 32) rfl (by decide) ?_
        refine k_istoreN Kl d_jdk_33_method_12_code_32 (pc' := 33) (L' := #[.val (.int ii), .val (.int (Int32.ofNat (bs + szN n))), .val (.ref d), .val (.int (ii / (100 : Int32))), s4, .val (.int (Int32.ofNat pos)), .val (.int (0 : Int32))]) rfl (by rcases hs3 with rfl | ⟨w, rfl⟩ <;> rfl) ?_
        refine k_iloadN Kl d_jdk_33_method_12_code_33 (pc' := 34) rfl rfl ?_
        refine k_bipush Kl (100 : Int32) d_jdk_33_method_12_code_34 (pc' := 36) rfl rfl ?_
        refine k_imul Kl d_jdk_33_method_12_code_36 (pc' := 37) rfl ?_
        refine k_iloadN Kl d_jdk_33_method_12_code_37 (pc' := 38) rfl rfl ?_
        refine k_isub Kl d_jdk_33_method_12_code_38 (pc' := 39) rfl ?_
        refine k_istore Kl d_jdk_33_method_12_code_39 (pc' := 41) (L' := #[.val (.int ii), .val (.int (Int32.ofNat (bs + szN n))), .val (.ref d), .val (.int (ii / (100 : Int32))), .val (.int (((ii / (100 : Int32)) * (100 : Int32)) - ii)), .val (.int (Int32.ofNat pos)), .val (.int (0 : Int32))]) rfl (by rcases hs4 with rfl | ⟨w, rfl⟩ <;> rfl) ?_
        refine k_iloadN Kl d_jdk_33_method_12_code_41 (pc' := 42) rfl rfl ?_
        refine k_istoreN Kl d_jdk_33_method_12_code_42 (pc' := 43) (L' := #[.val (.int (ii / (100 : Int32))), .val (.int (Int32.ofNat (bs + szN n))), .val (.ref d), .val (.int (ii / (100 : Int32))), .val (.int (((ii / (100 : Int32)) * (100 : Int32)) - ii)), .val (.int (Int32.ofNat pos)), .val (.int (0 : Int32))]) rfl rfl ?_
        refine k_aloadN Kl d_jdk_33_method_12_code_43 (pc' := 44) rfl rfl rfl ?_
        refine k_iinc Kl (-1 : Int32) d_jdk_33_method_12_code_44 (pc' := 47) (L' := #[.val (.int (ii / (100 : Int32))), .val (.int (Int32.ofNat (bs + szN n))), .val (.ref d), .val (.int (ii / (100 : Int32))), .val (.int (((ii / (100 : Int32)) * (100 : Int32)) - ii)), .val (.int ((Int32.ofNat pos) + (-1 : Int32))), .val (.int (0 : Int32))]) rfl rfl rfl rfl ?_
        refine k_iload Kl d_jdk_33_method_12_code_47 (pc' := 49) rfl rfl ?_
        have hp_ : Int32.ofNat (pos) + (-1) = Int32.ofNat (pos - 1) := own_i32e (by rw [XT.add32 (by rw [own_of (by omega), show (-1 : Int32).toInt = -1 by decide]; constructor <;> omega), own_of (by omega), own_of (by omega), show (-1 : Int32).toInt = -1 by decide]; omega)
        rw [hp_]
        refine k_getS Kl (w125 hw) Via.refl SO d_jdk_33_method_12_code_49 (pc' := 52) rfl ?_
        intro T78 K78
        refine k_iload K78 d_jdk_33_method_12_code_52 (pc' := 54) rfl rfl ?_
        refine k_baload K78 (j := (((ii / (100 : Int32)) * (100 : Int32)) - ii)) (VO.ext K78.old.2) (own_in hr (show (100 : Int32).toInt = (100 : Nat) by decide) (by omega)) (by rw [own_clamp hr]; exact hO _ (by omega)) d_jdk_33_method_12_code_54 (pc' := 55) rfl ?_
        have hpn := own_of (n := pos - 1) (by omega)
        refine k_bastore K78 (j := (Int32.ofNat (pos - 1))) V_d (own_in hpn hcp (by omega)) (by rw [own_clamp hpn]; first | (rw [lvs]; omega) | (rw [List.length_set, lvs]; omega)) ga_d sf_d d_jdk_33_method_12_code_55 (pc' := 56) rfl ?_
        intro T79 h79 K79 W79 tr79 V79
        replace sf_d := tr79 d V_d.lt sf_d
        replace KP := KP.wr W79 (Or.inl (by simp))
        replace V_d := V79
        rw [own_clamp hpn, own_nb (by omega)] at V_d
        have hdg : (.int (Int32.ofNat (48 + m % 100 % 10)) : Value) = .int (dig n c) := by rw [dig, ← hmn, Nat.mod_mod_of_dvd _ (by decide : 10 ∣ 100)]
        rw [hdg] at V_d
        refine k_aloadN K79 d_jdk_33_method_12_code_56 (pc' := 57) rfl rfl rfl ?_
        refine k_iinc K79 (-1 : Int32) d_jdk_33_method_12_code_57 (pc' := 60) (L' := #[.val (.int (ii / (100 : Int32))), .val (.int (Int32.ofNat (bs + szN n))), .val (.ref d), .val (.int (ii / (100 : Int32))), .val (.int (((ii / (100 : Int32)) * (100 : Int32)) - ii)), .val (.int ((Int32.ofNat (pos - 1)) + (-1 : Int32))), .val (.int (0 : Int32))]) rfl rfl rfl rfl ?_
        refine k_iload K79 d_jdk_33_method_12_code_60 (pc' := 62) rfl rfl ?_
        have hp_ : Int32.ofNat (pos - 1) + (-1) = Int32.ofNat (pos - 1 - 1) := own_i32e (by rw [XT.add32 (by rw [own_of (by omega), show (-1 : Int32).toInt = -1 by decide]; constructor <;> omega), own_of (by omega), own_of (by omega), show (-1 : Int32).toInt = -1 by decide]; omega)
        rw [hp_]
        refine k_getS K79 (w204 hw) Via.refl ST_ d_jdk_33_method_12_code_62 (pc' := 65) rfl ?_
        intro T80 K80
        refine k_iload K80 d_jdk_33_method_12_code_65 (pc' := 67) rfl rfl ?_
        refine k_baload K80 (j := (((ii / (100 : Int32)) * (100 : Int32)) - ii)) (VT_.ext K80.old.2) (own_in hr (show (100 : Int32).toInt = (100 : Nat) by decide) (by omega)) (by rw [own_clamp hr]; exact hT _ (by omega)) d_jdk_33_method_12_code_67 (pc' := 68) rfl ?_
        have hpn := own_of (n := pos - 1 - 1) (by omega)
        refine k_bastore K80 (j := (Int32.ofNat (pos - 1 - 1))) V_d (own_in hpn hcp (by omega)) (by rw [own_clamp hpn]; first | (rw [lvs]; omega) | (rw [List.length_set, lvs]; omega)) ga_d sf_d d_jdk_33_method_12_code_68 (pc' := 69) rfl ?_
        intro T81 h81 K81 W81 tr81 V81
        replace sf_d := tr81 d V_d.lt sf_d
        replace KP := KP.wr W81 (Or.inl (by simp))
        replace V_d := V81
        rw [own_clamp hpn, own_nb (by omega)] at V_d
        have hdg2 : (.int (Int32.ofNat (48 + m % 100 / 10)) : Value) = .int (dig n (c + 1)) := by rw [dig, own_pd hmn 1, Nat.pow_one, show m % 100 / 10 = m / 10 % 10 by omega]
        rw [hdg2] at V_d
        refine k_goto K81 d_jdk_33_method_12_code_69 (by decide) (pc' := 22) (by decide) ?_
        exact ih _ (m / 100) (c + 2) (pos - 1 - 1) hq (by rw [own_pd hmn 2]) (by omega) (by rw [Nat.pow_succ] at hfu; omega) (by omega) _ (by rw [List.length_set, List.length_set, lvs]) (fun j hj2 => by rw [own_gs (by rw [List.length_set, lvs]; omega), if_neg (by omega), own_gs (by rw [lvs]; omega), if_neg (by omega)]; exact hj j hj2) (fun i hi => by
          rw [own_gs (by rw [List.length_set, lvs]; omega)]
          by_cases q : i = c + 1
          · subst q; rw [if_pos (by omega)]
          · rw [if_neg (by omega), own_gs (by rw [lvs]; omega)]
            by_cases q2 : i = c
            · subst q2; rw [if_pos (by omega)]
            · rw [if_neg (by omega)]; exact hd_ i (by omega)) _ (Or.inr ⟨_, rfl⟩) _ (Or.inr ⟨_, rfl⟩) _ _ _ _ K81 KP V_d sf_d
  exact LOOP 5 (-x) n 0 (bs + szN n) hneg (by simp) h1 (by omega) rfl vs0 hvs (fun _ _ => rfl) (fun i hi => absurd hi (Nat.not_lt_zero _)) _ (Or.inl rfl) _ (Or.inl rfl) _ _ _ _ K KP V_d sf_d
theorem dgs_l (n : Nat) : (dgs n).length = szN n := by simp [dgs]
theorem own_split {vs : List Value} {xs : List Int32} {ys : List Value} {n cn : Nat} (l : vs.length = cn) (hf : xs.length + szN n ≤ cn) (h1 : ∀ j, j < xs.length → vs.getD j (.int 0) = (xs.map Value.int ++ ys).getD j (.int 0)) (h2 : ∀ k, k < szN n → vs.getD (xs.length + szN n - 1 - k) (.int 0) = .int (dig n k)) : vs = (xs ++ dgs n).map Value.int ++ vs.drop (xs.length + szN n) := by
  have e : vs.take (xs.length + szN n) = (xs ++ dgs n).map Value.int := by
    apply List.ext_getElem
    · simp [dgs]; omega
    · intro j hj hj2
      have hj3 : j < xs.length + szN n := by simpa [dgs] using hj2
      have hv : vs.getD j (.int 0) = vs[j]'(by omega) := by simp [List.getD_eq_getElem?_getD, show j < vs.length by omega]
      rw [List.getElem_take, ← hv]
      by_cases q : j < xs.length
      · rw [h1 j q]; simp [List.getD_eq_getElem?_getD, q, List.getElem?_append_left, List.getElem_append_left]
      · have hk := h2 (xs.length + szN n - 1 - j) (by omega)
        rw [show xs.length + szN n - 1 - (xs.length + szN n - 1 - j) = j by omega] at hk
        rw [hk, List.getElem_map, List.getElem_append_right (by omega)]
        simp only [dgs, List.getElem_map, List.getElem_range]
        rw [show szN n - 1 - (j - xs.length) = xs.length + szN n - 1 - j by omega]
  rw [← e, List.take_append_drop]
theorem d_jdk_68_method_32_code_0 : decode jdk_68_method_32_code 0 = .ok (.aload_n 0, 1) := by decide +kernel
theorem d_jdk_68_method_32_code_1 : decode jdk_68_method_32_code 1 = .ok (.getfield 79, 3) := by decide +kernel
theorem d_jdk_68_method_32_code_4 : decode jdk_68_method_32_code 4 = .ok (.istore_n 2, 1) := by decide +kernel
theorem d_jdk_68_method_32_code_5 : decode jdk_68_method_32_code 5 = .ok (.iload_n 2, 1) := by decide +kernel
theorem d_jdk_68_method_32_code_6 : decode jdk_68_method_32_code 6 = .ok (.iload_n 1, 1) := by decide +kernel
theorem d_jdk_68_method_32_code_7 : decode jdk_68_method_32_code 7 = .ok (.invokestatic 245, 3) := by decide +kernel
theorem w113 {Z : State} {a0 : Array Value} (hw : Tb a0 Z) : (Jvm.Cond.methodLink "java/lang/AbstractStringBuilder" (245 : Nat) ({ cls := "java/lang/Integer", name := "stringSize", desc := "(I)I" } : Jvm.MethodName)).before a0 Z = true := hw _ (List.mem_of_getElem? (i := 113) rfl)
theorem w115 {Z : State} {a0 : Array Value} (hw : Tb a0 Z) : (Jvm.Cond.initialized "java/lang/Integer").before a0 Z = true := hw _ (List.mem_of_getElem? (i := 115) rfl)
theorem w116 {Z : State} {a0 : Array Value} (hw : Tb a0 Z) : (Jvm.Cond.code ({ cls := "java/lang/Integer", name := "stringSize", desc := "(I)I" } : Jvm.MethodName) jdk_33_method_13_code (4 : Nat) (Option.some Jvm.ClassFile.FieldType.int)).before a0 Z = true := hw _ (List.mem_of_getElem? (i := 116) rfl)
theorem w114 {Z : State} {a0 : Array Value} (hw : Tb a0 Z) : (Jvm.Cond.static ({ cls := "java/lang/Integer", name := "stringSize", desc := "(I)I" } : Jvm.MethodName)).before a0 Z = true := hw _ (List.mem_of_getElem? (i := 114) rfl)
theorem d_jdk_68_method_32_code_10 : decode jdk_68_method_32_code 10 = .ok (.iadd, 1) := by decide +kernel
theorem d_jdk_68_method_32_code_11 : decode jdk_68_method_32_code 11 = .ok (.istore_n 3, 1) := by decide +kernel
theorem d_jdk_68_method_32_code_12 : decode jdk_68_method_32_code 12 = .ok (.aload_n 0, 1) := by decide +kernel
theorem d_jdk_68_method_32_code_13 : decode jdk_68_method_32_code 13 = .ok (.iload_n 3, 1) := by decide +kernel
theorem d_jdk_68_method_32_code_14 : decode jdk_68_method_32_code 14 = .ok (.invokevirtual 100, 3) := by decide +kernel
theorem d_jdk_68_method_32_code_17 : decode jdk_68_method_32_code 17 = .ok (.aload_n 0, 1) := by decide +kernel
theorem d_jdk_68_method_32_code_18 : decode jdk_68_method_32_code 18 = .ok (.invokevirtual 83, 3) := by decide +kernel
theorem w117 {Z : State} {a0 : Array Value} (hw : Tb a0 Z) : (Jvm.Cond.methodLink "java/lang/AbstractStringBuilder" (83 : Nat) ({ cls := "java/lang/AbstractStringBuilder", name := "isLatin1", desc := "()Z" } : Jvm.MethodName)).before a0 Z = true := hw _ (List.mem_of_getElem? (i := 117) rfl)
theorem d_jdk_68_method_32_code_21 : decode jdk_68_method_32_code 21 = .ok (.ifCond .eq 16, 3) := by decide +kernel
theorem d_jdk_68_method_32_code_24 : decode jdk_68_method_32_code 24 = .ok (.iload_n 1, 1) := by decide +kernel
theorem d_jdk_68_method_32_code_25 : decode jdk_68_method_32_code 25 = .ok (.iload_n 3, 1) := by decide +kernel
theorem d_jdk_68_method_32_code_26 : decode jdk_68_method_32_code 26 = .ok (.aload_n 0, 1) := by decide +kernel
theorem d_jdk_68_method_32_code_27 : decode jdk_68_method_32_code 27 = .ok (.getfield 15, 3) := by decide +kernel
theorem d_jdk_68_method_32_code_30 : decode jdk_68_method_32_code 30 = .ok (.invokestatic 248, 3) := by decide +kernel
theorem w122 {Z : State} {a0 : Array Value} (hw : Tb a0 Z) : (Jvm.Cond.methodLink "java/lang/AbstractStringBuilder" (248 : Nat) ({ cls := "java/lang/Integer", name := "getChars", desc := "(II[B)I" } : Jvm.MethodName)).before a0 Z = true := hw _ (List.mem_of_getElem? (i := 122) rfl)
theorem w124 {Z : State} {a0 : Array Value} (hw : Tb a0 Z) : (Jvm.Cond.code ({ cls := "java/lang/Integer", name := "getChars", desc := "(II[B)I" } : Jvm.MethodName) jdk_33_method_12_code (7 : Nat) (Option.some Jvm.ClassFile.FieldType.int)).before a0 Z = true := hw _ (List.mem_of_getElem? (i := 124) rfl)
theorem w123 {Z : State} {a0 : Array Value} (hw : Tb a0 Z) : (Jvm.Cond.static ({ cls := "java/lang/Integer", name := "getChars", desc := "(II[B)I" } : Jvm.MethodName)).before a0 Z = true := hw _ (List.mem_of_getElem? (i := 123) rfl)
theorem pd__II_B_I_1856 : parseMethodDescriptor "(II[B)I" = some ⟨[.int, .int, (.array .byte)], some .int⟩ := by decide +kernel
theorem d_jdk_68_method_32_code_33 : decode jdk_68_method_32_code 33 = .ok (.pop, 1) := by decide +kernel
theorem d_jdk_68_method_32_code_34 : decode jdk_68_method_32_code 34 = .ok (.goto 14, 3) := by decide +kernel
theorem d_jdk_68_method_32_code_48 : decode jdk_68_method_32_code 48 = .ok (.aload_n 0, 1) := by decide +kernel
theorem d_jdk_68_method_32_code_49 : decode jdk_68_method_32_code 49 = .ok (.iload_n 3, 1) := by decide +kernel
theorem d_jdk_68_method_32_code_50 : decode jdk_68_method_32_code 50 = .ok (.putfield 79, 3) := by decide +kernel
theorem d_jdk_68_method_32_code_53 : decode jdk_68_method_32_code 53 = .ok (.aload_n 0, 1) := by decide +kernel
theorem d_jdk_68_method_32_code_54 : decode jdk_68_method_32_code 54 = .ok (.areturn, 1) := by decide +kernel
set_option maxRecDepth 65536 in
set_option maxHeartbeats 40000000 in
theorem c_appI (l : Launch) (Z : State) (a0 : Array Value) (hw : Tb a0 Z) (hEW : EW Z a0 EL0) (n0 : Nat) (sb d : Addr) (kd : ClassId) (cp : Int32) (xs : List Int32) (ys : List Value) (x : Int32) (n : Nat) (od td : Addr) (ko kt_ : ClassId) (OL TL : List Value) (cs0 : Int32) (h0 : Heap) (O : Old Z n0 h0) (B : Sbd Z h0 sb d kd cp xs ys) (ga_sb : n0 ≤ sb) (ga_d : n0 ≤ d) (ne_sb_d : sb ≠ d) (hx : x.toInt = n) (h1 : 1 ≤ n) (htot : xs.length + szN n ≤ 70) (SO : Sta Z Z.heap "java/lang/Integer" "DigitOnes" "[B" (.ref od)) (VO : Arv Z Z.heap od ko .byte 100 OL (.int 0)) (hO : ∀ r, r < 100 → OL.getD r (.int 0) = .int (Int32.ofNat (48 + r % 10))) (ST_ : Sta Z Z.heap "java/lang/Integer" "DigitTens" "[B" (.ref td)) (VT_ : Arv Z Z.heap td kt_ .byte 100 TL (.int 0)) (hT : ∀ r, r < 100 → TL.getD r (.int 0) = .int (Int32.ofNat (48 + r / 10))) (SC : Sta Z Z.heap "java/lang/String" "COMPACT_STRINGS" "Z" (.int cs0)) (hcs : ¬ cs0 = 0) :
    Ct l Z EL0 n0 (⟨"java/lang/AbstractStringBuilder", "append", "(I)Ljava/lang/AbstractStringBuilder;"⟩ : MethodName) jdk_68_method_32_code 4 (some (.object "java/lang/AbstractStringBuilder")) ({ frames := 4, cells := 1, slots := 142, locals := 62 } : Room) #[(.ref sb), (.int x)] h0 [sb, d] (fun v h sf => ∃ d' kd' cp' ys', v = some (.ref sb) ∧ Keep h0 h [sb, d] ∧ Sbd Z h sb d' kd' cp' (xs ++ dgs n) ys' ∧ (d' = d ∨ h0.size ≤ d') ∧ sf d') := by
  refine Ct.of (a0 := a0) #[.val (.ref sb), .val (.int x), .unset, .unset] hEW O (plainFor_of_name pl_java_lang_AbstractStringBuilder) (fun m => by first | (simp [entryFrame, mkF, argsToLocals, Value.category]; done) | rfl) ?_
  intro p_ e_ s_ m_ below_ meth_ c_ b_ T_ K hSP
  have B0 := B
  obtain ⟨X_sb, F_sb_value, F_sb_coder, F_sb_count, V_d, X_d, hcp, hcb⟩ := B
  have KP := Keep.refl h0 [sb, d]
  have sf_sb := hSP sb (by simp)
  have sf_d := hSP d (by simp)
  refine k_aloadN K d_jdk_68_method_32_code_0 (pc' := 1) rfl rfl rfl ?_
  refine k_getF K (w77 hw) Via.refl F_sb_count d_jdk_68_method_32_code_1 (pc' := 4) rfl ?_
  intro T82 K82
  refine k_istoreN K82 d_jdk_68_method_32_code_4 (pc' := 5) (L' := #[.val (.ref sb), .val (.int x), .val (.int (Int32.ofNat xs.length)), .unset]) rfl rfl ?_
  refine k_iloadN K82 d_jdk_68_method_32_code_5 (pc' := 6) rfl rfl ?_
  refine k_iloadN K82 d_jdk_68_method_32_code_6 (pc' := 7) rfl rfl ?_
  refine k_staticP K82 [(.int x)] [(.int (Int32.ofNat xs.length))] 1 (w113 hw) (w114 hw) (w115 hw) (w116 hw) (by decide) pd__I_I_601 (c_ssize l Z a0 hw hEW n0 x n h0 K82.old hx) d_jdk_68_method_32_code_7 nofun (pc' := 10) rfl rfl rfl rfl (Nat.le_of_eq rfl) (by decide) (by decide) (by decide) (by decide) ?_
  intro b83 T83 L83 K83 tr83
  show Goes p_.tables e_ below_ _ (T83.setTop (mkF m_ 10 #[.val (.ref sb), .val (.int x), .val (.int (Int32.ofNat xs.length)), .unset] [(.int (Int32.ofNat (szN n))), (.int (Int32.ofNat xs.length))]))
  replace sf_sb := tr83 sb X_sb.lt sf_sb
  replace sf_d := tr83 d V_d.lt sf_d
  refine k_iadd K83 d_jdk_68_method_32_code_10 (pc' := 11) rfl ?_
  rw [own_sumN (own_of (by omega)) (by omega)]
  refine k_istoreN K83 d_jdk_68_method_32_code_11 (pc' := 12) (L' := #[.val (.ref sb), .val (.int x), .val (.int (Int32.ofNat xs.length)), .val (.int (Int32.ofNat (xs.length + szN n)))]) rfl rfl ?_
  refine k_aloadN K83 d_jdk_68_method_32_code_12 (pc' := 13) rfl rfl rfl ?_
  refine k_iloadN K83 d_jdk_68_method_32_code_13 (pc' := 14) rfl rfl ?_
  refine k_private K83 [(.int (Int32.ofNat (xs.length + szN n)))] [] 0 (w79 hw) (w80 hw) (own_priv2 K83 (w82 hw) (w80 hw) (w81 hw) (by decide)) (w81 hw) (w38 hw) (w83 hw) X_sb (by decide) pd__I_V_653 (c_ensure l Z a0 hw hEW n0 sb d kd cp xs ys (Int32.ofNat (xs.length + szN n)) (xs.length + szN n) h0 K83.old B0 ga_sb ga_d ne_sb_d (own_of (by omega)) htot) d_jdk_68_method_32_code_14 (fun x hx => by
    simp only [List.mem_cons, List.not_mem_nil, or_false] at hx
    rcases hx with rfl | rfl
    · exact ⟨X_sb.lt, sf_sb⟩
    · exact ⟨V_d.lt, sf_d⟩) (pc' := 17) rfl rfl rfl rfl (Nat.le_of_eq rfl) (by decide) (by decide) (by decide) (by decide) ?_
  intro b84 T84 h84 L84 v84 K84 tr84 q84
  obtain ⟨d', kd', cp', ys', rfl, KQ, B1, hroom, hd', sf_d'⟩ := q84
  have hd2 : d' = d ∨ h0.size ≤ d' := hd'
  have ga_d' : n0 ≤ d' := hd'.elim (fun q => q ▸ ga_d) fun q => Nat.le_trans (own_n0 K83.old) q
  have ne_sb_d' : sb ≠ d' := hd'.elim (fun q => q ▸ ne_sb_d) fun q => own_ne2 X_sb.lt q
  replace sf_sb := tr84 sb X_sb.lt sf_sb
  replace KP := KP.trans KQ (allS (Or.inl (by simp)) all0)
  have B1c := B1
  obtain ⟨X_sb, F_sb_value, F_sb_coder, F_sb_count, V_d', X_d', hcp', hcb'⟩ := B1c
  show Goes p_.tables e_ below_ _ (T84.setTop (mkF m_ 17 #[.val (.ref sb), .val (.int x), .val (.int (Int32.ofNat xs.length)), .val (.int (Int32.ofNat (xs.length + szN n)))] []))
  refine k_aloadN K84 d_jdk_68_method_32_code_17 (pc' := 18) rfl rfl rfl ?_
  refine k_virtualP K84 [] [] 0 (w117 hw) (w118 hw) (w119 hw) (w120 hw) (w38 hw) (w121 hw) (notFace_of_selects (args := #[]) (mvT K84.hZ (w120 hw))) rfl (by decide) X_sb (by decide) pd___Z_392 (c_ail l Z a0 hw hEW n0 sb cs0 h84 K84.old F_sb_coder SC hcs) d_jdk_68_method_32_code_18 nofun (pc' := 21) rfl rfl rfl rfl (Nat.le_of_eq rfl) (by decide) (by decide) (by decide) (by decide) ?_
  intro b85 T85 L85 K85 tr85
  show Goes p_.tables e_ below_ _ (T85.setTop (mkF m_ 21 #[.val (.ref sb), .val (.int x), .val (.int (Int32.ofNat xs.length)), .val (.int (Int32.ofNat (xs.length + szN n)))] [(.int (1 : Int32))]))
  replace sf_sb := tr85 sb X_sb.lt sf_sb
  replace sf_d' := tr85 d' X_d'.lt sf_d'
  refine k_if_eq K85 d_jdk_68_method_32_code_21 (by decide) (pc' := 37) (pc2 := 24) (by decide) rfl (fun q => absurd q (by decide)) (fun hc21 => ?_)
  refine k_iloadN K85 d_jdk_68_method_32_code_24 (pc' := 25) rfl rfl ?_
  refine k_iloadN K85 d_jdk_68_method_32_code_25 (pc' := 26) rfl rfl ?_
  refine k_aloadN K85 d_jdk_68_method_32_code_26 (pc' := 27) rfl rfl rfl ?_
  refine k_getF K85 (w44 hw) Via.refl F_sb_value d_jdk_68_method_32_code_27 (pc' := 30) rfl ?_
  intro T86 K86
  refine k_static K86 [(.int x), (.int (Int32.ofNat (xs.length + szN n))), (.ref d')] [] 0 (w122 hw) (w123 hw) (w115 hw) (w124 hw) (by decide) pd__II_B_I_1856 (c_getChars l Z a0 hw hEW n0 x n d' kd' cp' (xs.length + ys'.length) xs.length (xs.map Value.int ++ ys') od td ko kt_ OL TL h84 K86.old hx h1 hcp' hcb' (by simp) (by omega) V_d' ga_d' SO VO hO ST_ VT_ hT) d_jdk_68_method_32_code_30 (fun x hx => by cases List.mem_singleton.mp hx; exact ⟨V_d'.lt, sf_d'⟩) (pc' := 33) rfl rfl rfl rfl (Nat.le_of_eq rfl) (by decide) (by decide) (by decide) (by decide) ?_
  intro b87 T87 h87 L87 v87 K87 tr87 q87
  obtain ⟨r, vs', rfl, KQ2, V2, lv, w1_, w2_⟩ := q87
  replace sf_sb := tr87 sb X_sb.lt sf_sb
  replace sf_d' := tr87 d' X_d'.lt sf_d'
  replace X_sb := X_sb.keep KQ2
  replace F_sb_value := F_sb_value.keep KQ2 (ninS ne_sb_d' nin0)
  replace F_sb_coder := F_sb_coder.keep KQ2 (ninS ne_sb_d' nin0)
  replace F_sb_count := F_sb_count.keep KQ2 (ninS ne_sb_d' nin0)
  replace X_d' := X_d'.keep KQ2
  replace KP := KP.trans KQ2 (allS (hd2.imp (fun q => by rw [q]; simp) id) all0)
  have hsp := own_split lv (by omega) w1_ w2_
  rw [hsp] at V2
  replace V_d' := V2
  show Goes p_.tables e_ below_ _ (T87.setTop (mkF m_ 33 #[.val (.ref sb), .val (.int x), .val (.int (Int32.ofNat xs.length)), .val (.int (Int32.ofNat (xs.length + szN n)))] [(.int r)]))
  refine k_pop K87 d_jdk_68_method_32_code_33 (pc' := 34) rfl rfl ?_
  refine k_goto K87 d_jdk_68_method_32_code_34 (by decide) (pc' := 48) (by decide) ?_
  refine k_aloadN K87 d_jdk_68_method_32_code_48 (pc' := 49) rfl rfl rfl ?_
  refine k_iloadN K87 d_jdk_68_method_32_code_49 (pc' := 50) rfl rfl ?_
  refine k_putF K87 (w77 hw) Via.refl F_sb_count X_sb (Or.inl (w78 hw)) (w29 hw) (ty := .int) (by decide) rfl rfl ga_sb sf_sb d_jdk_68_method_32_code_50 (pc' := 53) rfl ?_
  intro T88 h88 K88 W88 tr88
  have F88 := F_sb_count.same W88
  replace sf_sb := tr88 sb X_sb.lt sf_sb
  replace sf_d' := tr88 d' X_d'.lt sf_d'
  replace X_sb := X_sb.wr W88
  replace F_sb_value := F_sb_value.other W88 (Or.inr (slot_ne (Or.inl (w45 hw)) (Or.inl (w78 hw)) (by decide) (t := (.array .byte)) (t' := .int) (by decide) (by decide)))
  replace F_sb_coder := F_sb_coder.other W88 (Or.inr (slot_ne (Or.inl (w47 hw)) (Or.inl (w78 hw)) (by decide) (t := .byte) (t' := .int) (by decide) (by decide)))
  replace X_d' := X_d'.wr W88
  replace V_d' := V_d'.other W88 (Ne.symm ne_sb_d')
  replace KP := KP.wr W88 (Or.inl (by simp))
  replace F_sb_count := F88
  refine k_aloadN K88 d_jdk_68_method_32_code_53 (pc' := 54) rfl rfl rfl ?_
  have hlen : xs.length + szN n = (xs ++ dgs n).length := by rw [List.length_append, dgs_l]
  rw [hlen] at F_sb_count
  exact k_aret K88 d_jdk_68_method_32_code_54 rfl rfl rfl (fun sf ht => ⟨d', kd', cp', vs'.drop (xs.length + szN n), rfl, KP, ⟨X_sb, F_sb_value, F_sb_coder, F_sb_count, V_d', X_d', by rw [hcp', List.length_append, dgs_l, List.length_drop, lv]; omega, by rw [List.length_append, dgs_l, List.length_drop, lv]; omega⟩, hd2, ht _ V_d'.lt sf_d'⟩) (by decide) (by decide)
theorem d_jdk_67_method_15_code_0 : decode jdk_67_method_15_code 0 = .ok (.aload_n 0, 1) := by decide +kernel
theorem d_jdk_67_method_15_code_1 : decode jdk_67_method_15_code 1 = .ok (.iload_n 1, 1) := by decide +kernel
theorem d_jdk_67_method_15_code_2 : decode jdk_67_method_15_code 2 = .ok (.invokespecial 53, 3) := by decide +kernel
theorem w109 {Z : State} {a0 : Array Value} (hw : Tb a0 Z) : (Jvm.Cond.methodLink "java/lang/StringBuilder" (53 : Nat) ({ cls := "java/lang/AbstractStringBuilder", name := "append", desc := "(I)Ljava/lang/AbstractStringBuilder;" } : Jvm.MethodName)).before a0 Z = true := hw _ (List.mem_of_getElem? (i := 109) rfl)
theorem w112 {Z : State} {a0 : Array Value} (hw : Tb a0 Z) : (Jvm.Cond.code ({ cls := "java/lang/AbstractStringBuilder", name := "append", desc := "(I)Ljava/lang/AbstractStringBuilder;" } : Jvm.MethodName) jdk_68_method_32_code (4 : Nat) (Option.some (Jvm.ClassFile.FieldType.object "java/lang/AbstractStringBuilder"))).before a0 Z = true := hw _ (List.mem_of_getElem? (i := 112) rfl)
theorem w110 {Z : State} {a0 : Array Value} (hw : Tb a0 Z) : (Jvm.Cond.instanceMethod ({ cls := "java/lang/AbstractStringBuilder", name := "append", desc := "(I)Ljava/lang/AbstractStringBuilder;" } : Jvm.MethodName)).before a0 Z = true := hw _ (List.mem_of_getElem? (i := 110) rfl)
theorem pd__I_Ljava_lang_AbstractStringBuilder__5809 : parseMethodDescriptor "(I)Ljava/lang/AbstractStringBuilder;" = some ⟨[.int], some (.object "java/lang/AbstractStringBuilder")⟩ := by decide +kernel
theorem d_jdk_67_method_15_code_5 : decode jdk_67_method_15_code 5 = .ok (.pop, 1) := by decide +kernel
theorem d_jdk_67_method_15_code_6 : decode jdk_67_method_15_code 6 = .ok (.aload_n 0, 1) := by decide +kernel
theorem d_jdk_67_method_15_code_7 : decode jdk_67_method_15_code 7 = .ok (.areturn, 1) := by decide +kernel
set_option maxRecDepth 65536 in
set_option maxHeartbeats 40000000 in
theorem c_sappI (l : Launch) (Z : State) (a0 : Array Value) (hw : Tb a0 Z) (hEW : EW Z a0 EL0) (n0 : Nat) (sb d : Addr) (kd : ClassId) (cp : Int32) (xs : List Int32) (ys : List Value) (x : Int32) (n : Nat) (od td : Addr) (ko kt_ : ClassId) (OL TL : List Value) (cs0 : Int32) (h0 : Heap) (O : Old Z n0 h0) (B : Sbd Z h0 sb d kd cp xs ys) (ga_sb : n0 ≤ sb) (ga_d : n0 ≤ d) (ne_sb_d : sb ≠ d) (hx : x.toInt = n) (h1 : 1 ≤ n) (htot : xs.length + szN n ≤ 70) (SO : Sta Z Z.heap "java/lang/Integer" "DigitOnes" "[B" (.ref od)) (VO : Arv Z Z.heap od ko .byte 100 OL (.int 0)) (hO : ∀ r, r < 100 → OL.getD r (.int 0) = .int (Int32.ofNat (48 + r % 10))) (ST_ : Sta Z Z.heap "java/lang/Integer" "DigitTens" "[B" (.ref td)) (VT_ : Arv Z Z.heap td kt_ .byte 100 TL (.int 0)) (hT : ∀ r, r < 100 → TL.getD r (.int 0) = .int (Int32.ofNat (48 + r / 10))) (SC : Sta Z Z.heap "java/lang/String" "COMPACT_STRINGS" "Z" (.int cs0)) (hcs : ¬ cs0 = 0) :
    Ct l Z EL0 n0 (⟨"java/lang/StringBuilder", "append", "(I)Ljava/lang/StringBuilder;"⟩ : MethodName) jdk_67_method_15_code 2 (some (.object "java/lang/StringBuilder")) ({ frames := 5, cells := 1, slots := 142, locals := 77 } : Room) #[(.ref sb), (.int x)] h0 [sb, d] (fun v h sf => ∃ d' kd' cp' ys', v = some (.ref sb) ∧ Keep h0 h [sb, d] ∧ Sbd Z h sb d' kd' cp' (xs ++ dgs n) ys' ∧ (d' = d ∨ h0.size ≤ d') ∧ sf d') := by
  refine Ct.of (a0 := a0) #[.val (.ref sb), .val (.int x)] hEW O (plainFor_of_name pl_java_lang_StringBuilder) (fun m => by first | (simp [entryFrame, mkF, argsToLocals, Value.category]; done) | rfl) ?_
  intro p_ e_ s_ m_ below_ meth_ c_ b_ T_ K hSP
  have X_sb := B.1
  have V_d := B.2.2.2.2.1
  refine k_aloadN K d_jdk_67_method_15_code_0 (pc' := 1) rfl rfl rfl ?_
  refine k_iloadN K d_jdk_67_method_15_code_1 (pc' := 2) rfl rfl ?_
  refine k_super K [(.int x)] [] 0 (w109 hw) (own_same (y' := ({ cls := "java/lang/AbstractStringBuilder", name := "ensureCapacityInternal", desc := "(I)V" } : Jvm.MethodName)) rfl (w82 hw) (w110 hw) (by decide)) (w110 hw) (w61 hw) (by decide) (w38 hw) (w112 hw) (Ins.self X_sb) (by decide) pd__I_Ljava_lang_AbstractStringBuilder__5809 (c_appI l Z a0 hw hEW n0 sb d kd cp xs ys x n od td ko kt_ OL TL cs0 h0 K.old B ga_sb ga_d ne_sb_d hx h1 htot SO VO hO ST_ VT_ hT SC hcs) d_jdk_67_method_15_code_2 (fun x hx => by
    simp only [List.mem_cons, List.not_mem_nil, or_false] at hx
    rcases hx with rfl | rfl
    · exact ⟨X_sb.lt, hSP _ (by simp)⟩
    · exact ⟨V_d.lt, hSP _ (by simp)⟩) (pc' := 5) rfl rfl rfl rfl (Nat.le_of_eq rfl) (by decide) (by decide) (by decide) (by decide) ?_
  intro b89 T89 h89 L89 v89 K89 tr89 q89
  obtain ⟨d', kd', cp', ys', rfl, KQ, B2, hd', sf_d'⟩ := q89
  show Goes p_.tables e_ below_ _ (T89.setTop (mkF m_ 5 #[.val (.ref sb), .val (.int x)] [(.ref sb)]))
  refine k_pop K89 d_jdk_67_method_15_code_5 (pc' := 6) rfl rfl ?_
  refine k_aloadN K89 d_jdk_67_method_15_code_6 (pc' := 7) rfl rfl rfl ?_
  exact k_aret K89 d_jdk_67_method_15_code_7 rfl rfl rfl (fun sf ht => ⟨d', kd', cp', ys', rfl, KQ, B2, hd', ht _ B2.2.2.2.2.1.lt sf_d'⟩) (by decide) (by decide)
theorem d_prog_8_method_1_code_0 : decode prog_8_method_1_code 0 = .ok (.aload_n 0, 1) := by decide +kernel
theorem d_prog_8_method_1_code_1 : decode prog_8_method_1_code 1 = .ok (.invokespecial 1, 3) := by decide +kernel
theorem w11 {Z : State} {a0 : Array Value} (hw : Tb a0 Z) : (Jvm.Cond.methodLink "com/example/object_sieve/objectsieve/query/TextPosition" (1 : Nat) ({ cls := "java/lang/Record", name := "<init>", desc := "()V" } : Jvm.MethodName)).before a0 Z = true := hw _ (List.mem_of_getElem? (i := 11) rfl)
theorem w14 {Z : State} {a0 : Array Value} (hw : Tb a0 Z) : (Jvm.Cond.initialized "java/lang/Record").before a0 Z = true := hw _ (List.mem_of_getElem? (i := 14) rfl)
theorem w15 {Z : State} {a0 : Array Value} (hw : Tb a0 Z) : (Jvm.Cond.code ({ cls := "java/lang/Record", name := "<init>", desc := "()V" } : Jvm.MethodName) jdk_30_method_1_code (1 : Nat) (Option.none : Option Jvm.ClassFile.FieldType)).before a0 Z = true := hw _ (List.mem_of_getElem? (i := 15) rfl)
theorem w12 {Z : State} {a0 : Array Value} (hw : Tb a0 Z) : (Jvm.Cond.instanceMethod ({ cls := "java/lang/Record", name := "<init>", desc := "()V" } : Jvm.MethodName)).before a0 Z = true := hw _ (List.mem_of_getElem? (i := 12) rfl)
theorem pd___V_380 : parseMethodDescriptor "()V" = some ⟨[], none⟩ := by decide +kernel
theorem d_prog_8_method_1_code_4 : decode prog_8_method_1_code 4 = .ok (.iload_n 1, 1) := by decide +kernel
theorem d_prog_8_method_1_code_5 : decode prog_8_method_1_code 5 = .ok (.iconst 1, 1) := by decide +kernel
theorem d_prog_8_method_1_code_6 : decode prog_8_method_1_code 6 = .ok (.if_icmp .lt 8, 3) := by decide +kernel
theorem d_prog_8_method_1_code_9 : decode prog_8_method_1_code 9 = .ok (.iload_n 2, 1) := by decide +kernel
theorem d_prog_8_method_1_code_10 : decode prog_8_method_1_code 10 = .ok (.iconst 1, 1) := by decide +kernel
theorem d_prog_8_method_1_code_11 : decode prog_8_method_1_code 11 = .ok (.if_icmp .ge 39, 3) := by decide +kernel
theorem d_prog_8_method_1_code_50 : decode prog_8_method_1_code 50 = .ok (.aload_n 0, 1) := by decide +kernel
theorem d_prog_8_method_1_code_51 : decode prog_8_method_1_code 51 = .ok (.iload_n 1, 1) := by decide +kernel
theorem d_prog_8_method_1_code_52 : decode prog_8_method_1_code 52 = .ok (.putfield 30, 3) := by decide +kernel
theorem w19 {Z : State} {a0 : Array Value} (hw : Tb a0 Z) : (Jvm.Cond.fieldLink "com/example/object_sieve/objectsieve/query/TextPosition" (30 : Nat) "com/example/object_sieve/objectsieve/query/TextPosition" "line" "I").before a0 Z = true := hw _ (List.mem_of_getElem? (i := 19) rfl)
theorem w20 {Z : State} {a0 : Array Value} (hw : Tb a0 Z) : (Jvm.Cond.laysFinal "com/example/object_sieve/objectsieve/query/TextPosition" "com/example/object_sieve/objectsieve/query/TextPosition" "line" "I").before a0 Z = true := hw _ (List.mem_of_getElem? (i := 20) rfl)
theorem w6 {Z : State} {a0 : Array Value} (hw : Tb a0 Z) : (Jvm.Cond.instantiable "com/example/object_sieve/objectsieve/query/TextPosition" (2 : Nat)).before a0 Z = true := hw _ (List.mem_of_getElem? (i := 6) rfl)
theorem w22 {Z : State} {a0 : Array Value} (hw : Tb a0 Z) : (Jvm.Cond.laysFinal "com/example/object_sieve/objectsieve/query/TextPosition" "com/example/object_sieve/objectsieve/query/TextPosition" "column" "I").before a0 Z = true := hw _ (List.mem_of_getElem? (i := 22) rfl)
theorem d_prog_8_method_1_code_55 : decode prog_8_method_1_code 55 = .ok (.aload_n 0, 1) := by decide +kernel
theorem d_prog_8_method_1_code_56 : decode prog_8_method_1_code 56 = .ok (.iload_n 2, 1) := by decide +kernel
theorem d_prog_8_method_1_code_57 : decode prog_8_method_1_code 57 = .ok (.putfield 36, 3) := by decide +kernel
theorem w21 {Z : State} {a0 : Array Value} (hw : Tb a0 Z) : (Jvm.Cond.fieldLink "com/example/object_sieve/objectsieve/query/TextPosition" (36 : Nat) "com/example/object_sieve/objectsieve/query/TextPosition" "column" "I").before a0 Z = true := hw _ (List.mem_of_getElem? (i := 21) rfl)
theorem d_prog_8_method_1_code_60 : decode prog_8_method_1_code 60 = .ok (.return_, 1) := by decide +kernel
theorem pl_com_example_object_sieve_objectsieve_query_TextPosition : plainName "com/example/object_sieve/objectsieve/query/TextPosition" = true := by first | (simp [plainName, overriddenIn]; done) | decide +kernel
set_option maxRecDepth 65536 in
set_option maxHeartbeats 40000000 in
theorem c_tpinit (l : Launch) (Z : State) (a0 : Array Value) (hw : Tb a0 Z) (hEW : EW Z a0 EL0) (n0 : Nat) (p : Addr) (li ci : Int32) (u1 u2 : Value) (h0 : Heap) (O : Old Z n0 h0) (X_p : Exa Z h0 p "com/example/object_sieve/objectsieve/query/TextPosition") (F_p_line : Fld Z h0 p "com/example/object_sieve/objectsieve/query/TextPosition" "line" "I" u1) (F_p_column : Fld Z h0 p "com/example/object_sieve/objectsieve/query/TextPosition" "column" "I" u2) (ga_p : n0 ≤ p) (h1 : ¬ li < 1) (h2 : ¬ ci < 1) :
    Ct l Z EL0 n0 (⟨"com/example/object_sieve/objectsieve/query/TextPosition", "<init>", "(II)V"⟩ : MethodName) prog_8_method_1_code 3 none ({ frames := 2, cells := 0, slots := 0, locals := 24 } : Room) #[(.ref p), (.int li), (.int ci)] h0 [p] (fun v h sf => v = none ∧ Exa Z h p "com/example/object_sieve/objectsieve/query/TextPosition" ∧ Fld Z h p "com/example/object_sieve/objectsieve/query/TextPosition" "line" "I" (.int li) ∧ Fld Z h p "com/example/object_sieve/objectsieve/query/TextPosition" "column" "I" (.int ci)) := by
  refine Ct.of (a0 := a0) #[.val (.ref p), .val (.int li), .val (.int ci)] hEW O (plainFor_of_name pl_com_example_object_sieve_objectsieve_query_TextPosition) (fun m => by first | (simp [entryFrame, mkF, argsToLocals, Value.category]; done) | rfl) ?_
  intro p_ e_ s_ m_ below_ meth_ c_ b_ T_ K hSP
  have sf_p := hSP p (by simp)
  refine k_aloadN K d_prog_8_method_1_code_0 (pc' := 1) rfl rfl rfl ?_
  refine k_specialP K [] [] 0 (w11 hw) (w12 hw) (w14 hw) (w15 hw) rfl rfl (by decide) pd___V_380 (c_recordInit l Z a0 hw hEW n0 p h0 K.old ) d_prog_8_method_1_code_1 nofun (pc' := 4) rfl rfl rfl rfl (Nat.le_of_eq rfl) (by decide) (by decide) (by decide) (by decide) ?_
  intro b90 T90 L90 K90 tr90
  show Goes p_.tables e_ below_ _ (T90.setTop (mkF m_ 4 #[.val (.ref p), .val (.int li), .val (.int ci)] []))
  replace sf_p := tr90 p X_p.lt sf_p
  refine k_iloadN K90 d_prog_8_method_1_code_4 (pc' := 5) rfl rfl ?_
  refine k_iconst K90 (1 : Int32) d_prog_8_method_1_code_5 (pc' := 6) rfl rfl ?_
  refine k_icmp_lt K90 d_prog_8_method_1_code_6 (by decide) (pc' := 14) (pc2 := 9) (by decide) rfl (fun q => absurd q h1) (fun hc6 => ?_)
  refine k_iloadN K90 d_prog_8_method_1_code_9 (pc' := 10) rfl rfl ?_
  refine k_iconst K90 (1 : Int32) d_prog_8_method_1_code_10 (pc' := 11) rfl rfl ?_
  refine k_icmp_ge K90 d_prog_8_method_1_code_11 (by decide) (pc' := 50) (pc2 := 14) (by decide) rfl (fun hc11 => ?_) (fun q => absurd q h2)
  refine k_aloadN K90 d_prog_8_method_1_code_50 (pc' := 51) rfl rfl rfl ?_
  refine k_iloadN K90 d_prog_8_method_1_code_51 (pc' := 52) rfl rfl ?_
  refine k_putF K90 (w19 hw) Via.refl F_p_line X_p (Or.inr ⟨(w20 hw), rfl, rfl⟩) (w6 hw) (ty := .int) (by decide) rfl rfl ga_p sf_p d_prog_8_method_1_code_52 (pc' := 55) rfl ?_
  intro T91 h91 K91 W91 tr91
  have F91 := F_p_line.same W91
  replace sf_p := tr91 p X_p.lt sf_p
  replace X_p := X_p.wr W91
  replace F_p_column := F_p_column.other W91 (Or.inr (slot_ne (Or.inr (w22 hw)) (Or.inr (w20 hw)) (by decide) (t := .int) (t' := .int) (by decide) (by decide)))
  replace F_p_line := F91
  refine k_aloadN K91 d_prog_8_method_1_code_55 (pc' := 56) rfl rfl rfl ?_
  refine k_iloadN K91 d_prog_8_method_1_code_56 (pc' := 57) rfl rfl ?_
  refine k_putF K91 (w21 hw) Via.refl F_p_column X_p (Or.inr ⟨(w22 hw), rfl, rfl⟩) (w6 hw) (ty := .int) (by decide) rfl rfl ga_p sf_p d_prog_8_method_1_code_57 (pc' := 60) rfl ?_
  intro T92 h92 K92 W92 tr92
  have F92 := F_p_column.same W92
  replace sf_p := tr92 p X_p.lt sf_p
  replace X_p := X_p.wr W92
  replace F_p_line := F_p_line.other W92 (Or.inr (slot_ne (Or.inr (w20 hw)) (Or.inr (w22 hw)) (by decide) (t := .int) (t' := .int) (by decide) (by decide)))
  replace F_p_column := F92
  exact k_return K92 d_prog_8_method_1_code_60 rfl (fun sf ht => ⟨rfl, X_p, F_p_line, F_p_column⟩) (by decide) (by decide)
theorem d_prog_8_method_3_code_0 : decode prog_8_method_3_code 0 = .ok (.new 9, 3) := by decide +kernel
theorem w28 {Z : State} {a0 : Array Value} (hw : Tb a0 Z) : (Jvm.Cond.classLink "com/example/object_sieve/objectsieve/query/TextPosition" (9 : Nat) "java/lang/StringBuilder").before a0 Z = true := hw _ (List.mem_of_getElem? (i := 28) rfl)
theorem d_prog_8_method_3_code_3 : decode prog_8_method_3_code 3 = .ok (.dup, 1) := by decide +kernel
theorem d_prog_8_method_3_code_4 : decode prog_8_method_3_code 4 = .ok (.invokespecial 11, 3) := by decide +kernel
theorem w31 {Z : State} {a0 : Array Value} (hw : Tb a0 Z) : (Jvm.Cond.methodLink "com/example/object_sieve/objectsieve/query/TextPosition" (11 : Nat) ({ cls := "java/lang/StringBuilder", name := "<init>", desc := "()V" } : Jvm.MethodName)).before a0 Z = true := hw _ (List.mem_of_getElem? (i := 31) rfl)
theorem w33 {Z : State} {a0 : Array Value} (hw : Tb a0 Z) : (Jvm.Cond.code ({ cls := "java/lang/StringBuilder", name := "<init>", desc := "()V" } : Jvm.MethodName) jdk_67_method_1_code (1 : Nat) (Option.none : Option Jvm.ClassFile.FieldType)).before a0 Z = true := hw _ (List.mem_of_getElem? (i := 33) rfl)
theorem w32 {Z : State} {a0 : Array Value} (hw : Tb a0 Z) : (Jvm.Cond.instanceMethod ({ cls := "java/lang/StringBuilder", name := "<init>", desc := "()V" } : Jvm.MethodName)).before a0 Z = true := hw _ (List.mem_of_getElem? (i := 32) rfl)
theorem d_prog_8_method_3_code_7 : decode prog_8_method_3_code 7 = .ok (.ldc 68, 2) := by decide +kernel
theorem w52 {Z : State} {a0 : Array Value} (hw : Tb a0 Z) : (Jvm.Cond.soleField "java/lang/String" "value").before a0 Z = true := hw _ (List.mem_of_getElem? (i := 52) rfl)
theorem w53 {Z : State} {a0 : Array Value} (hw : Tb a0 Z) : (Jvm.Cond.soleField "java/lang/String" "coder").before a0 Z = true := hw _ (List.mem_of_getElem? (i := 53) rfl)
theorem own_wS {Z : State} {a0 : Array Value} (hw : Tb a0 Z) : ∀ a ∈ Bundle.stringAtoms, a.before a0 Z = true := fun d hd => by
  simp only [Bundle.stringAtoms, List.mem_cons, List.not_mem_nil, or_false] at hd
  rcases hd with rfl | rfl | rfl | rfl | rfl | rfl | rfl
  · exact (w42 hw)
  · exact (w49 hw)
  · exact (w43 hw)
  · exact (w50 hw)
  · exact (w51 hw)
  · exact (w52 hw)
  · exact (w53 hw)
theorem w48 {Z : State} {a0 : Array Value} (hw : Tb a0 Z) : (Jvm.Cond.stringLink "com/example/object_sieve/objectsieve/query/TextPosition" (68 : Nat) "line ").before a0 Z = true := hw _ (List.mem_of_getElem? (i := 48) rfl)
theorem d_prog_8_method_3_code_9 : decode prog_8_method_3_code 9 = .ok (.invokevirtual 14, 3) := by decide +kernel
theorem w54 {Z : State} {a0 : Array Value} (hw : Tb a0 Z) : (Jvm.Cond.methodLink "com/example/object_sieve/objectsieve/query/TextPosition" (14 : Nat) ({ cls := "java/lang/StringBuilder", name := "append", desc := "(Ljava/lang/String;)Ljava/lang/StringBuilder;" } : Jvm.MethodName)).before a0 Z = true := hw _ (List.mem_of_getElem? (i := 54) rfl)
theorem w58 {Z : State} {a0 : Array Value} (hw : Tb a0 Z) : (Jvm.Cond.code ({ cls := "java/lang/StringBuilder", name := "append", desc := "(Ljava/lang/String;)Ljava/lang/StringBuilder;" } : Jvm.MethodName) jdk_67_method_7_code (2 : Nat) (Option.some (Jvm.ClassFile.FieldType.object "java/lang/StringBuilder"))).before a0 Z = true := hw _ (List.mem_of_getElem? (i := 58) rfl)
theorem w57 {Z : State} {a0 : Array Value} (hw : Tb a0 Z) : (Jvm.Cond.selects "java/lang/StringBuilder" ({ cls := "java/lang/StringBuilder", name := "append", desc := "(Ljava/lang/String;)Ljava/lang/StringBuilder;" } : Jvm.MethodName) ({ cls := "java/lang/StringBuilder", name := "append", desc := "(Ljava/lang/String;)Ljava/lang/StringBuilder;" } : Jvm.MethodName)).before a0 Z = true := hw _ (List.mem_of_getElem? (i := 57) rfl)
theorem w55 {Z : State} {a0 : Array Value} (hw : Tb a0 Z) : (Jvm.Cond.declares ({ cls := "java/lang/StringBuilder", name := "append", desc := "(Ljava/lang/String;)Ljava/lang/StringBuilder;" } : Jvm.MethodName)).before a0 Z = true := hw _ (List.mem_of_getElem? (i := 55) rfl)
theorem w56 {Z : State} {a0 : Array Value} (hw : Tb a0 Z) : (Jvm.Cond.instanceMethod ({ cls := "java/lang/StringBuilder", name := "append", desc := "(Ljava/lang/String;)Ljava/lang/StringBuilder;" } : Jvm.MethodName)).before a0 Z = true := hw _ (List.mem_of_getElem? (i := 56) rfl)
theorem pd__Ljava_lang_String__Ljava_lang_StringBuilder__8660 : parseMethodDescriptor "(Ljava/lang/String;)Ljava/lang/StringBuilder;" = some ⟨[(.object "java/lang/String")], some (.object "java/lang/StringBuilder")⟩ := by decide +kernel
theorem d_prog_8_method_3_code_12 : decode prog_8_method_3_code 12 = .ok (.aload_n 0, 1) := by decide +kernel
theorem d_prog_8_method_3_code_13 : decode prog_8_method_3_code 13 = .ok (.getfield 30, 3) := by decide +kernel
theorem d_prog_8_method_3_code_16 : decode prog_8_method_3_code 16 = .ok (.invokevirtual 18, 3) := by decide +kernel
theorem w104 {Z : State} {a0 : Array Value} (hw : Tb a0 Z) : (Jvm.Cond.methodLink "com/example/object_sieve/objectsieve/query/TextPosition" (18 : Nat) ({ cls := "java/lang/StringBuilder", name := "append", desc := "(I)Ljava/lang/StringBuilder;" } : Jvm.MethodName)).before a0 Z = true := hw _ (List.mem_of_getElem? (i := 104) rfl)
theorem w108 {Z : State} {a0 : Array Value} (hw : Tb a0 Z) : (Jvm.Cond.code ({ cls := "java/lang/StringBuilder", name := "append", desc := "(I)Ljava/lang/StringBuilder;" } : Jvm.MethodName) jdk_67_method_15_code (2 : Nat) (Option.some (Jvm.ClassFile.FieldType.object "java/lang/StringBuilder"))).before a0 Z = true := hw _ (List.mem_of_getElem? (i := 108) rfl)
theorem w107 {Z : State} {a0 : Array Value} (hw : Tb a0 Z) : (Jvm.Cond.selects "java/lang/StringBuilder" ({ cls := "java/lang/StringBuilder", name := "append", desc := "(I)Ljava/lang/StringBuilder;" } : Jvm.MethodName) ({ cls := "java/lang/StringBuilder", name := "append", desc := "(I)Ljava/lang/StringBuilder;" } : Jvm.MethodName)).before a0 Z = true := hw _ (List.mem_of_getElem? (i := 107) rfl)
theorem w105 {Z : State} {a0 : Array Value} (hw : Tb a0 Z) : (Jvm.Cond.declares ({ cls := "java/lang/StringBuilder", name := "append", desc := "(I)Ljava/lang/StringBuilder;" } : Jvm.MethodName)).before a0 Z = true := hw _ (List.mem_of_getElem? (i := 105) rfl)
theorem w106 {Z : State} {a0 : Array Value} (hw : Tb a0 Z) : (Jvm.Cond.instanceMethod ({ cls := "java/lang/StringBuilder", name := "append", desc := "(I)Ljava/lang/StringBuilder;" } : Jvm.MethodName)).before a0 Z = true := hw _ (List.mem_of_getElem? (i := 106) rfl)
theorem pd__I_Ljava_lang_StringBuilder__9197 : parseMethodDescriptor "(I)Ljava/lang/StringBuilder;" = some ⟨[.int], some (.object "java/lang/StringBuilder")⟩ := by decide +kernel
theorem d_prog_8_method_3_code_19 : decode prog_8_method_3_code 19 = .ok (.ldc 21, 2) := by decide +kernel
theorem w126 {Z : State} {a0 : Array Value} (hw : Tb a0 Z) : (Jvm.Cond.stringLink "com/example/object_sieve/objectsieve/query/TextPosition" (21 : Nat) ", column ").before a0 Z = true := hw _ (List.mem_of_getElem? (i := 126) rfl)
theorem d_prog_8_method_3_code_21 : decode prog_8_method_3_code 21 = .ok (.invokevirtual 14, 3) := by decide +kernel
theorem d_prog_8_method_3_code_24 : decode prog_8_method_3_code 24 = .ok (.aload_n 0, 1) := by decide +kernel
theorem d_prog_8_method_3_code_25 : decode prog_8_method_3_code 25 = .ok (.getfield 36, 3) := by decide +kernel
theorem d_prog_8_method_3_code_28 : decode prog_8_method_3_code 28 = .ok (.invokevirtual 18, 3) := by decide +kernel
theorem d_prog_8_method_3_code_31 : decode prog_8_method_3_code 31 = .ok (.invokevirtual 23, 3) := by decide +kernel
theorem w127 {Z : State} {a0 : Array Value} (hw : Tb a0 Z) : (Jvm.Cond.methodLink "com/example/object_sieve/objectsieve/query/TextPosition" (23 : Nat) ({ cls := "java/lang/StringBuilder", name := "toString", desc := "()Ljava/lang/String;" } : Jvm.MethodName)).before a0 Z = true := hw _ (List.mem_of_getElem? (i := 127) rfl)
theorem w131 {Z : State} {a0 : Array Value} (hw : Tb a0 Z) : (Jvm.Cond.code ({ cls := "java/lang/StringBuilder", name := "toString", desc := "()Ljava/lang/String;" } : Jvm.MethodName) jdk_67_method_42_code (1 : Nat) (Option.some (Jvm.ClassFile.FieldType.object "java/lang/String"))).before a0 Z = true := hw _ (List.mem_of_getElem? (i := 131) rfl)
theorem w130 {Z : State} {a0 : Array Value} (hw : Tb a0 Z) : (Jvm.Cond.selects "java/lang/StringBuilder" ({ cls := "java/lang/StringBuilder", name := "toString", desc := "()Ljava/lang/String;" } : Jvm.MethodName) ({ cls := "java/lang/StringBuilder", name := "toString", desc := "()Ljava/lang/String;" } : Jvm.MethodName)).before a0 Z = true := hw _ (List.mem_of_getElem? (i := 130) rfl)
theorem w128 {Z : State} {a0 : Array Value} (hw : Tb a0 Z) : (Jvm.Cond.declares ({ cls := "java/lang/StringBuilder", name := "toString", desc := "()Ljava/lang/String;" } : Jvm.MethodName)).before a0 Z = true := hw _ (List.mem_of_getElem? (i := 128) rfl)
theorem w129 {Z : State} {a0 : Array Value} (hw : Tb a0 Z) : (Jvm.Cond.instanceMethod ({ cls := "java/lang/StringBuilder", name := "toString", desc := "()Ljava/lang/String;" } : Jvm.MethodName)).before a0 Z = true := hw _ (List.mem_of_getElem? (i := 129) rfl)
theorem pd___Ljava_lang_String__9676 : parseMethodDescriptor "()Ljava/lang/String;" = some ⟨[], some (.object "java/lang/String")⟩ := by decide +kernel
theorem d_prog_8_method_3_code_34 : decode prog_8_method_3_code 34 = .ok (.areturn, 1) := by decide +kernel
set_option maxRecDepth 65536 in
set_option maxHeartbeats 40000000 in
theorem c_tpstr (l : Launch) (Z : State) (a0 : Array Value) (hw : Tb a0 Z) (hEW : EW Z a0 EL0) (n0 : Nat) (p : Addr) (li ci : Int32) (n1 n2 : Nat) (od td : Addr) (ko kt_ : ClassId) (OL TL : List Value) (cs0 : Int32) (h0 : Heap) (O : Old Z n0 h0) (F_l : Fld Z h0 p "com/example/object_sieve/objectsieve/query/TextPosition" "line" "I" (.int li)) (F_c : Fld Z h0 p "com/example/object_sieve/objectsieve/query/TextPosition" "column" "I" (.int ci)) (hl_ : li.toInt = n1) (hc_ : ci.toInt = n2) (q1_ : 1 ≤ n1) (q2_ : 1 ≤ n2) (SO : Sta Z Z.heap "java/lang/Integer" "DigitOnes" "[B" (.ref od)) (VO : Arv Z Z.heap od ko .byte 100 OL (.int 0)) (hO : ∀ r, r < 100 → OL.getD r (.int 0) = .int (Int32.ofNat (48 + r % 10))) (ST_ : Sta Z Z.heap "java/lang/Integer" "DigitTens" "[B" (.ref td)) (VT_ : Arv Z Z.heap td kt_ .byte 100 TL (.int 0)) (hT : ∀ r, r < 100 → TL.getD r (.int 0) = .int (Int32.ofNat (48 + r / 10))) (SC : Sta Z Z.heap "java/lang/String" "COMPACT_STRINGS" "Z" (.int cs0)) (hcs : ¬ cs0 = 0) :
    Ct l Z EL0 n0 (⟨"com/example/object_sieve/objectsieve/query/TextPosition", "toString", "()Ljava/lang/String;"⟩ : MethodName) prog_8_method_3_code 1 (some (.object "java/lang/String")) ({ frames := 6, cells := 12, slots := 798, locals := 91 } : Room) #[(.ref p)] h0 [] (fun v h sf => ∃ a t kt, v = some (.ref a) ∧ Str Z h a t kt 0 (Int32.ofNat ((((([] : List Int32) ++ ([108, 105, 110, 101, 32] : List Int32)) ++ dgs n1) ++ ([44, 32, 99, 111, 108, 117, 109, 110, 32] : List Int32)) ++ dgs n2).length) (((((([] : List Int32) ++ ([108, 105, 110, 101, 32] : List Int32)) ++ dgs n1) ++ ([44, 32, 99, 111, 108, 117, 109, 110, 32] : List Int32)) ++ dgs n2).map Value.int)) := by
  refine Ct.of (a0 := a0) #[.val (.ref p)] hEW O (plainFor_of_name pl_com_example_object_sieve_objectsieve_query_TextPosition) (fun m => by first | (simp [entryFrame, mkF, argsToLocals, Value.category]; done) | rfl) ?_
  intro p_ e_ s_ m_ below_ meth_ c_ b_ T_ K hSP
  have z1 := szN_b n1
  have z2 := szN_b n2
  refine k_new K (w28 hw) (w29 hw) (w30 hw) d_prog_8_method_3_code_0 (pc' := 3) rfl (by decide) (by decide) ?_
  intro T93 h93 a93 g93 K93 E93 tr93 sf_a93 X_a93 D93 U93
  have ga_a93 : n0 ≤ a93 := own_old K.old g93
  have ne_p_a93 : p ≠ a93 := own_ne F_l.lt g93
  replace F_l := F_l.ext E93
  replace F_c := F_c.ext E93
  have F_a93_value : Fld Z h93 a93 "java/lang/AbstractStringBuilder" "value" "[B" .null := D93 (Or.inl (w45 hw)) (ty := (.array .byte)) (by decide)
  have F_a93_coder : Fld Z h93 a93 "java/lang/AbstractStringBuilder" "coder" "B" (.int (0 : Int32)) := D93 (Or.inl (w47 hw)) (ty := .byte) (by decide)
  have F_a93_count : Fld Z h93 a93 "java/lang/AbstractStringBuilder" "count" "I" (.int (0 : Int32)) := D93 (Or.inl (w78 hw)) (ty := .int) (by decide)
  refine k_dup K93 d_prog_8_method_3_code_3 (pc' := 4) rfl rfl ?_
  refine k_special K93 [] [(.ref a93)] 1 (w31 hw) (w32 hw) (w30 hw) (w33 hw) rfl rfl (by decide) pd___V_380 (c_sbinit l Z a0 hw hEW n0 a93 _ cs0 h93 K93.old X_a93 F_a93_value F_a93_coder F_a93_count ga_a93 SC hcs) d_prog_8_method_3_code_4 (fun x hx => by cases List.mem_singleton.mp hx; exact ⟨X_a93.lt, sf_a93⟩) (pc' := 7) rfl rfl rfl rfl (Nat.le_of_eq rfl) (by decide) (by decide) (by decide) (by decide) ?_
  intro b94 T94 h94 L94 v94 K94 tr94 q94
  obtain ⟨d0, kd0, rfl, hd, KQ, B0, sf_d0⟩ := q94
  have ga_d0 : n0 ≤ d0 := Nat.le_trans (own_n0 K93.old) hd
  have ne_p_d0 : p ≠ d0 := own_ne2 F_l.lt hd
  have ne_a93_d0 : a93 ≠ d0 := own_ne2 X_a93.lt hd
  replace sf_a93 := tr94 a93 X_a93.lt sf_a93
  replace F_l := F_l.keep KQ (ninS ne_p_a93 nin0)
  replace F_c := F_c.keep KQ (ninS ne_p_a93 nin0)
  show Goes p_.tables e_ below_ _ (T94.setTop (mkF m_ 7 #[.val (.ref p)] [(.ref a93)]))
  refine k_ldcS K94 (vs := ([108, 105, 110, 101, 32] : List Int32).map Value.int) (z := 5) (w48 hw) (own_wS hw) (by decide) ⟨by decide, by decide⟩ (by decide) (by decide) 20 (by decide) (by decide) d_prog_8_method_3_code_7 (pc' := 9) rfl (by decide) (by decide) ?_
  intro b95 T95 h95 s95 e95 ke95 K95 E95 tr95 X1 X2 X3 X4 nd95
  replace sf_a93 := tr95 a93 B0.1.lt sf_a93
  replace sf_d0 := tr95 d0 B0.2.2.2.2.1.lt sf_d0
  replace F_l := F_l.ext E95
  replace F_c := F_c.ext E95
  have S_s95 : Str Z h95 s95 e95 ke95 0 5 (([108, 105, 110, 101, 32] : List Int32).map Value.int) := ⟨X1, X2, X3, X4⟩
  have ne_a93_s95 : a93 ≠ s95 := (nd95 a93 sf_a93).1
  have ne_a93_e95 : a93 ≠ e95 := (nd95 a93 sf_a93).2
  have ne_d0_s95 : d0 ≠ s95 := (nd95 d0 sf_d0).1
  have ne_d0_e95 : d0 ≠ e95 := (nd95 d0 sf_d0).2
  show Goes p_.tables e_ below_ _ (T95.setTop (mkF m_ 9 #[.val (.ref p)] [(.ref s95), (.ref a93)]))
  replace B0 := (show Sbd Z h95 a93 d0 kd0 16 ([] : List Int32) (List.replicate 16 (.int 0)) from ⟨B0.1.ext E95, B0.2.1.ext E95, B0.2.2.1.ext E95, B0.2.2.2.1.ext E95, B0.2.2.2.2.1.ext E95, B0.2.2.2.2.2.1.ext E95, B0.2.2.2.2.2.2.1, B0.2.2.2.2.2.2.2⟩)
  refine k_virtual K95 [(.ref s95)] [] 0 (w54 hw) (w55 hw) (w56 hw) (w57 hw) (w30 hw) (w58 hw) (notFace_of_selects (args := #[]) (mvT K95.hZ (w57 hw))) rfl (by decide) B0.1 (by decide) pd__Ljava_lang_String__Ljava_lang_StringBuilder__8660 (c_sapp l Z a0 hw hEW n0 a93 d0 kd0 16 ([] : List Int32) (List.replicate 16 (.int 0)) s95 e95 ke95 5 ([108, 105, 110, 101, 32] : List Int32) cs0 h95 K95.old B0 ga_a93 ga_d0 ne_a93_d0 rfl S_s95 (by simp only [List.length_append, List.length_cons, List.length_nil, dgs_l]; omega) (Ne.symm ne_a93_s95) (Ne.symm ne_a93_e95) (Ne.symm ne_d0_e95) SC hcs) d_prog_8_method_3_code_9 (fun x hx => by
    simp only [List.mem_cons, List.not_mem_nil, or_false] at hx
    rcases hx with rfl | rfl
    · exact ⟨B0.1.lt, sf_a93⟩
    · exact ⟨B0.2.2.2.2.1.lt, sf_d0⟩) (pc' := 12) rfl rfl rfl rfl (Nat.le_of_eq rfl) (by decide) (by decide) (by decide) (by decide) ?_
  intro b96 T96 h96 L96 v96 K96 tr96 q96
  obtain ⟨d1, kd1, cp1, ys1, rfl, KQ1, B1, hd1, sf_d1⟩ := q96
  have ga_d1 : n0 ≤ d1 := hd1.elim (fun q => q ▸ ga_d0) fun q => Nat.le_trans (own_n0 K95.old) q
  have ne_a93_d1 : a93 ≠ d1 := hd1.elim (fun q => q ▸ ne_a93_d0) fun q => own_ne2 B0.1.lt q
  have ne_p_d1 : p ≠ d1 := hd1.elim (fun q => q ▸ ne_p_d0) fun q => own_ne2 F_l.lt q
  replace sf_a93 := tr96 a93 B0.1.lt sf_a93
  replace F_l := F_l.keep KQ1 (ninS ne_p_a93 (ninS ne_p_d0 nin0))
  replace F_c := F_c.keep KQ1 (ninS ne_p_a93 (ninS ne_p_d0 nin0))
  show Goes p_.tables e_ below_ _ (T96.setTop (mkF m_ 12 #[.val (.ref p)] [(.ref a93)]))
  refine k_aloadN K96 d_prog_8_method_3_code_12 (pc' := 13) rfl rfl rfl ?_
  refine k_getF K96 (w19 hw) Via.refl F_l d_prog_8_method_3_code_13 (pc' := 16) rfl ?_
  intro T97 K97
  refine k_virtual K97 [(.int li)] [] 0 (w104 hw) (w105 hw) (w106 hw) (w107 hw) (w30 hw) (w108 hw) (notFace_of_selects (args := #[]) (mvT K97.hZ (w107 hw))) rfl (by decide) B1.1 (by decide) pd__I_Ljava_lang_StringBuilder__9197 (c_sappI l Z a0 hw hEW n0 a93 d1 kd1 cp1 (([] : List Int32) ++ ([108, 105, 110, 101, 32] : List Int32)) ys1 li n1 od td ko kt_ OL TL cs0 h96 K97.old B1 ga_a93 ga_d1 ne_a93_d1 hl_ q1_ (by simp only [List.length_append, List.length_cons, List.length_nil, dgs_l]; omega) SO VO hO ST_ VT_ hT SC hcs) d_prog_8_method_3_code_16 (fun x hx => by
    simp only [List.mem_cons, List.not_mem_nil, or_false] at hx
    rcases hx with rfl | rfl
    · exact ⟨B1.1.lt, sf_a93⟩
    · exact ⟨B1.2.2.2.2.1.lt, sf_d1⟩) (pc' := 19) rfl rfl rfl rfl (Nat.le_of_eq rfl) (by decide) (by decide) (by decide) (by decide) ?_
  intro b98 T98 h98 L98 v98 K98 tr98 q98
  obtain ⟨d2, kd2, cp2, ys2, rfl, KQ2, B2, hd2, sf_d2⟩ := q98
  have ga_d2 : n0 ≤ d2 := hd2.elim (fun q => q ▸ ga_d1) fun q => Nat.le_trans (own_n0 K97.old) q
  have ne_a93_d2 : a93 ≠ d2 := hd2.elim (fun q => q ▸ ne_a93_d1) fun q => own_ne2 B1.1.lt q
  have ne_p_d2 : p ≠ d2 := hd2.elim (fun q => q ▸ ne_p_d1) fun q => own_ne2 F_l.lt q
  replace sf_a93 := tr98 a93 B1.1.lt sf_a93
  replace F_l := F_l.keep KQ2 (ninS ne_p_a93 (ninS ne_p_d1 nin0))
  replace F_c := F_c.keep KQ2 (ninS ne_p_a93 (ninS ne_p_d1 nin0))
  show Goes p_.tables e_ below_ _ (T98.setTop (mkF m_ 19 #[.val (.ref p)] [(.ref a93)]))
  refine k_ldcS K98 (vs := ([44, 32, 99, 111, 108, 117, 109, 110, 32] : List Int32).map Value.int) (z := 9) (w126 hw) (own_wS hw) (by decide) ⟨by decide, by decide⟩ (by decide) (by decide) 36 (by decide) (by decide) d_prog_8_method_3_code_19 (pc' := 21) rfl (by decide) (by decide) ?_
  intro b99 T99 h99 s99 e99 ke99 K99 E99 tr99 X1 X2 X3 X4 nd99
  replace sf_a93 := tr99 a93 B2.1.lt sf_a93
  replace sf_d2 := tr99 d2 B2.2.2.2.2.1.lt sf_d2
  replace F_l := F_l.ext E99
  replace F_c := F_c.ext E99
  have S_s99 : Str Z h99 s99 e99 ke99 0 9 (([44, 32, 99, 111, 108, 117, 109, 110, 32] : List Int32).map Value.int) := ⟨X1, X2, X3, X4⟩
  have ne_a93_s99 : a93 ≠ s99 := (nd99 a93 sf_a93).1
  have ne_a93_e99 : a93 ≠ e99 := (nd99 a93 sf_a93).2
  have ne_d2_s99 : d2 ≠ s99 := (nd99 d2 sf_d2).1
  have ne_d2_e99 : d2 ≠ e99 := (nd99 d2 sf_d2).2
  show Goes p_.tables e_ below_ _ (T99.setTop (mkF m_ 21 #[.val (.ref p)] [(.ref s99), (.ref a93)]))
  replace B2 := (show Sbd Z h99 a93 d2 kd2 cp2 ((([] : List Int32) ++ ([108, 105, 110, 101, 32] : List Int32)) ++ dgs n1) ys2 from ⟨B2.1.ext E99, B2.2.1.ext E99, B2.2.2.1.ext E99, B2.2.2.2.1.ext E99, B2.2.2.2.2.1.ext E99, B2.2.2.2.2.2.1.ext E99, B2.2.2.2.2.2.2.1, B2.2.2.2.2.2.2.2⟩)
  refine k_virtual K99 [(.ref s99)] [] 0 (w54 hw) (w55 hw) (w56 hw) (w57 hw) (w30 hw) (w58 hw) (notFace_of_selects (args := #[]) (mvT K99.hZ (w57 hw))) rfl (by decide) B2.1 (by decide) pd__Ljava_lang_String__Ljava_lang_StringBuilder__8660 (c_sapp l Z a0 hw hEW n0 a93 d2 kd2 cp2 ((([] : List Int32) ++ ([108, 105, 110, 101, 32] : List Int32)) ++ dgs n1) ys2 s99 e99 ke99 9 ([44, 32, 99, 111, 108, 117, 109, 110, 32] : List Int32) cs0 h99 K99.old B2 ga_a93 ga_d2 ne_a93_d2 rfl S_s99 (by simp only [List.length_append, List.length_cons, List.length_nil, dgs_l]; omega) (Ne.symm ne_a93_s99) (Ne.symm ne_a93_e99) (Ne.symm ne_d2_e99) SC hcs) d_prog_8_method_3_code_21 (fun x hx => by
    simp only [List.mem_cons, List.not_mem_nil, or_false] at hx
    rcases hx with rfl | rfl
    · exact ⟨B2.1.lt, sf_a93⟩
    · exact ⟨B2.2.2.2.2.1.lt, sf_d2⟩) (pc' := 24) rfl rfl rfl rfl (Nat.le_of_eq rfl) (by decide) (by decide) (by decide) (by decide) ?_
  intro b100 T100 h100 L100 v100 K100 tr100 q100
  obtain ⟨d3, kd3, cp3, ys3, rfl, KQ3, B3, hd3, sf_d3⟩ := q100
  have ga_d3 : n0 ≤ d3 := hd3.elim (fun q => q ▸ ga_d2) fun q => Nat.le_trans (own_n0 K99.old) q
  have ne_a93_d3 : a93 ≠ d3 := hd3.elim (fun q => q ▸ ne_a93_d2) fun q => own_ne2 B2.1.lt q
  have ne_p_d3 : p ≠ d3 := hd3.elim (fun q => q ▸ ne_p_d2) fun q => own_ne2 F_l.lt q
  replace sf_a93 := tr100 a93 B2.1.lt sf_a93
  replace F_l := F_l.keep KQ3 (ninS ne_p_a93 (ninS ne_p_d2 nin0))
  replace F_c := F_c.keep KQ3 (ninS ne_p_a93 (ninS ne_p_d2 nin0))
  show Goes p_.tables e_ below_ _ (T100.setTop (mkF m_ 24 #[.val (.ref p)] [(.ref a93)]))
  refine k_aloadN K100 d_prog_8_method_3_code_24 (pc' := 25) rfl rfl rfl ?_
  refine k_getF K100 (w21 hw) Via.refl F_c d_prog_8_method_3_code_25 (pc' := 28) rfl ?_
  intro T101 K101
  refine k_virtual K101 [(.int ci)] [] 0 (w104 hw) (w105 hw) (w106 hw) (w107 hw) (w30 hw) (w108 hw) (notFace_of_selects (args := #[]) (mvT K101.hZ (w107 hw))) rfl (by decide) B3.1 (by decide) pd__I_Ljava_lang_StringBuilder__9197 (c_sappI l Z a0 hw hEW n0 a93 d3 kd3 cp3 (((([] : List Int32) ++ ([108, 105, 110, 101, 32] : List Int32)) ++ dgs n1) ++ ([44, 32, 99, 111, 108, 117, 109, 110, 32] : List Int32)) ys3 ci n2 od td ko kt_ OL TL cs0 h100 K101.old B3 ga_a93 ga_d3 ne_a93_d3 hc_ q2_ (by simp only [List.length_append, List.length_cons, List.length_nil, dgs_l]; omega) SO VO hO ST_ VT_ hT SC hcs) d_prog_8_method_3_code_28 (fun x hx => by
    simp only [List.mem_cons, List.not_mem_nil, or_false] at hx
    rcases hx with rfl | rfl
    · exact ⟨B3.1.lt, sf_a93⟩
    · exact ⟨B3.2.2.2.2.1.lt, sf_d3⟩) (pc' := 31) rfl rfl rfl rfl (Nat.le_of_eq rfl) (by decide) (by decide) (by decide) (by decide) ?_
  intro b102 T102 h102 L102 v102 K102 tr102 q102
  obtain ⟨d4, kd4, cp4, ys4, rfl, KQ4, B4, hd4, sf_d4⟩ := q102
  have ga_d4 : n0 ≤ d4 := hd4.elim (fun q => q ▸ ga_d3) fun q => Nat.le_trans (own_n0 K101.old) q
  have ne_a93_d4 : a93 ≠ d4 := hd4.elim (fun q => q ▸ ne_a93_d3) fun q => own_ne2 B3.1.lt q
  have ne_p_d4 : p ≠ d4 := hd4.elim (fun q => q ▸ ne_p_d3) fun q => own_ne2 F_l.lt q
  replace sf_a93 := tr102 a93 B3.1.lt sf_a93
  replace F_l := F_l.keep KQ4 (ninS ne_p_a93 (ninS ne_p_d3 nin0))
  replace F_c := F_c.keep KQ4 (ninS ne_p_a93 (ninS ne_p_d3 nin0))
  show Goes p_.tables e_ below_ _ (T102.setTop (mkF m_ 31 #[.val (.ref p)] [(.ref a93)]))
  refine k_virtual K102 [] [] 0 (w127 hw) (w128 hw) (w129 hw) (w130 hw) (w30 hw) (w131 hw) (notFace_of_selects (args := #[]) (mvT K102.hZ (w130 hw))) rfl (by decide) B4.1 (by decide) pd___Ljava_lang_String__9676 (c_ts l Z a0 hw hEW n0 a93 d4 kd4 cp4 ((((([] : List Int32) ++ ([108, 105, 110, 101, 32] : List Int32)) ++ dgs n1) ++ ([44, 32, 99, 111, 108, 117, 109, 110, 32] : List Int32)) ++ dgs n2) ys4 cs0 h102 K102.old B4 (by simp only [List.length_append, List.length_cons, List.length_nil, dgs_l]; omega) SC hcs) d_prog_8_method_3_code_31 nofun (pc' := 34) rfl rfl rfl rfl (Nat.le_of_eq rfl) (by decide) (by decide) (by decide) (by decide) ?_
  intro b103 T103 h103 L103 v103 K103 tr103 q103
  obtain ⟨r, t, kt, rfl, -, S⟩ := q103
  show Goes p_.tables e_ below_ _ (T103.setTop (mkF m_ 34 #[.val (.ref p)] [(.ref r)]))
  exact k_aret K103 d_prog_8_method_3_code_34 rfl rfl rfl (fun sf ht => ⟨r, t, kt, rfl, S⟩) (by decide) (by decide)
theorem d_jdk_42_method_154_code_0 : decode jdk_42_method_154_code 0 = .ok (.getstatic 38, 3) := by decide +kernel
theorem d_jdk_42_method_154_code_3 : decode jdk_42_method_154_code 3 = .ok (.ifCond .eq 14, 3) := by decide +kernel
theorem d_jdk_42_method_154_code_6 : decode jdk_42_method_154_code 6 = .ok (.aload_n 0, 1) := by decide +kernel
theorem d_jdk_42_method_154_code_7 : decode jdk_42_method_154_code 7 = .ok (.getfield 15, 3) := by decide +kernel
theorem d_jdk_42_method_154_code_10 : decode jdk_42_method_154_code 10 = .ok (.ifCond .ne 7, 3) := by decide +kernel
theorem d_jdk_42_method_154_code_17 : decode jdk_42_method_154_code 17 = .ok (.iconst 0, 1) := by decide +kernel
theorem d_jdk_42_method_154_code_18 : decode jdk_42_method_154_code 18 = .ok (.ireturn, 1) := by decide +kernel
theorem d_jdk_42_method_154_code_13 : decode jdk_42_method_154_code 13 = .ok (.iconst 1, 1) := by decide +kernel
theorem d_jdk_42_method_154_code_14 : decode jdk_42_method_154_code 14 = .ok (.goto 4, 3) := by decide +kernel
set_option maxRecDepth 65536 in
set_option maxHeartbeats 40000000 in
theorem c_isLatin1 (l : Launch) (Z : State) (a0 : Array Value) (hw : Tb a0 Z) (hEW : EW Z a0 EL0) (n0 : Nat) (a b : Addr) (k : ClassId) (cd z : Int32) (vs : List Value) (cs0 : Int32) (h0 : Heap) (O : Old Z n0 h0) (S : Str Z h0 a b k cd z vs) (hcd : cd = 0 ∨ cd = 1) (SC : Sta Z Z.heap "java/lang/String" "COMPACT_STRINGS" "Z" (.int cs0)) (hcs : ¬ cs0 = 0) :
    Ct l Z EL0 n0 (⟨"java/lang/String", "isLatin1", "()Z"⟩ : MethodName) jdk_42_method_154_code 1 (some .boolean) ({ frames := 0, cells := 0, slots := 0, locals := 0 } : Room) #[(.ref a)] h0 [] (Pu (some (.int (if cd = 0 then 1 else 0))) h0) := by
  refine Ct.of (a0 := a0) #[.val (.ref a)] hEW O (plainFor_of_name pl_java_lang_String) (fun m => by first | (simp [entryFrame, mkF, argsToLocals, Value.category]; done) | rfl) ?_
  intro p_ e_ s_ m_ below_ meth_ c_ b_ T_ K hSP
  refine k_getS K (w75 hw) Via.refl SC d_jdk_42_method_154_code_0 (pc' := 3) rfl ?_
  intro T104 K104
  refine k_if_eq K104 d_jdk_42_method_154_code_3 (by decide) (pc' := 17) (pc2 := 6) (by decide) rfl (fun q => absurd q hcs) (fun hc3 => ?_)
  refine k_aloadN K104 d_jdk_42_method_154_code_6 (pc' := 7) rfl rfl rfl ?_
  refine k_getF K104 (w76 hw) Via.refl S.2.1 d_jdk_42_method_154_code_7 (pc' := 10) rfl ?_
  intro T105 K105
  refine k_if_ne K105 d_jdk_42_method_154_code_10 (by decide) (pc' := 17) (pc2 := 13) (by decide) rfl (fun hc10 => ?_) (fun hc10 => ?_)
  · refine k_iconst K105 (0 : Int32) d_jdk_42_method_154_code_17 (pc' := 18) rfl rfl ?_
    exact k_nret K105 d_jdk_42_method_154_code_18 rfl (by simp) rfl (fun sf ht => ⟨by rw [if_neg hc10], rfl⟩) (by decide) (by decide)
  · refine k_iconst K105 (1 : Int32) d_jdk_42_method_154_code_13 (pc' := 14) rfl rfl ?_
    refine k_goto K105 d_jdk_42_method_154_code_14 (by decide) (pc' := 18) (by decide) ?_
    exact k_nret K105 d_jdk_42_method_154_code_18 rfl (by simp) rfl (fun sf ht => ⟨by rw [if_pos hc10], rfl⟩) (by decide) (by decide)
theorem d_jdk_41_method_11_code_0 : decode jdk_41_method_11_code 0 = .ok (.iload_n 0, 1) := by decide +kernel
theorem d_jdk_41_method_11_code_1 : decode jdk_41_method_11_code 1 = .ok (.ifCond .lt 8, 3) := by decide +kernel
theorem d_jdk_41_method_11_code_4 : decode jdk_41_method_11_code 4 = .ok (.iload_n 0, 1) := by decide +kernel
theorem d_jdk_41_method_11_code_5 : decode jdk_41_method_11_code 5 = .ok (.iload_n 1, 1) := by decide +kernel
theorem d_jdk_41_method_11_code_6 : decode jdk_41_method_11_code 6 = .ok (.if_icmp .lt 10, 3) := by decide +kernel
theorem d_jdk_41_method_11_code_16 : decode jdk_41_method_11_code 16 = .ok (.iload_n 0, 1) := by decide +kernel
theorem d_jdk_41_method_11_code_17 : decode jdk_41_method_11_code 17 = .ok (.ireturn, 1) := by decide +kernel
theorem pl_jdk_internal_util_Preconditions : plainName "jdk/internal/util/Preconditions" = true := by first | (simp [plainName, overriddenIn]; done) | decide +kernel
set_option maxRecDepth 65536 in
set_option maxHeartbeats 40000000 in
theorem c_checkIndexP (l : Launch) (Z : State) (a0 : Array Value) (hw : Tb a0 Z) (hEW : EW Z a0 EL0) (n0 : Nat) (i n : Int32) (ff : Value) (h0 : Heap) (O : Old Z n0 h0) (hff : ff.isRef = true) (h1 : ¬ i < 0) (h2 : i < n) :
    Ct l Z EL0 n0 (⟨"jdk/internal/util/Preconditions", "checkIndex", "(IILjava/util/function/BiFunction;)I"⟩ : MethodName) jdk_41_method_11_code 3 (some .int) ({ frames := 0, cells := 0, slots := 0, locals := 0 } : Room) #[(.int i), (.int n), ff] h0 [] (Pu (some (.int i)) h0) := by
  refine Ct.of (a0 := a0) #[.val (.int i), .val (.int n), .val ff] hEW O (plainFor_of_name pl_jdk_internal_util_Preconditions) (fun m => by rcases own_refc hff with rfl | ⟨r, rfl⟩ <;> first | (simp [entryFrame, mkF, argsToLocals, Value.category]; done) | rfl) ?_
  intro p_ e_ s_ m_ below_ meth_ c_ b_ T_ K hSP
  refine k_iloadN K d_jdk_41_method_11_code_0 (pc' := 1) rfl rfl ?_
  refine k_if_lt K d_jdk_41_method_11_code_1 (by decide) (pc' := 9) (pc2 := 4) (by decide) rfl (fun q => absurd q h1) (fun hc1 => ?_)
  refine k_iloadN K d_jdk_41_method_11_code_4 (pc' := 5) rfl rfl ?_
  refine k_iloadN K d_jdk_41_method_11_code_5 (pc' := 6) rfl rfl ?_
  refine k_icmp_lt K d_jdk_41_method_11_code_6 (by decide) (pc' := 16) (pc2 := 9) (by decide) rfl (fun hc6 => ?_) (fun q => absurd h2 q)
  refine k_iloadN K d_jdk_41_method_11_code_16 (pc' := 17) rfl rfl ?_
  exact k_iret K d_jdk_41_method_11_code_17 rfl (fun sf ht => ⟨rfl, rfl⟩) (by decide) (by decide)
theorem d_jdk_42_method_155_code_0 : decode jdk_42_method_155_code 0 = .ok (.iload_n 0, 1) := by decide +kernel
theorem d_jdk_42_method_155_code_1 : decode jdk_42_method_155_code 1 = .ok (.iload_n 1, 1) := by decide +kernel
theorem d_jdk_42_method_155_code_2 : decode jdk_42_method_155_code 2 = .ok (.getstatic 1053, 3) := by decide +kernel
theorem w190 {Z : State} {a0 : Array Value} (hw : Tb a0 Z) : (Jvm.Cond.fieldLink "java/lang/String" (1053 : Nat) "jdk/internal/util/Preconditions" "SIOOBE_FORMATTER" "Ljava/util/function/BiFunction;").before a0 Z = true := hw _ (List.mem_of_getElem? (i := 190) rfl)
theorem d_jdk_42_method_155_code_5 : decode jdk_42_method_155_code 5 = .ok (.invokestatic 1059, 3) := by decide +kernel
theorem w192 {Z : State} {a0 : Array Value} (hw : Tb a0 Z) : (Jvm.Cond.methodLink "java/lang/String" (1059 : Nat) ({ cls := "jdk/internal/util/Preconditions", name := "checkIndex", desc := "(IILjava/util/function/BiFunction;)I" } : Jvm.MethodName)).before a0 Z = true := hw _ (List.mem_of_getElem? (i := 192) rfl)
theorem w191 {Z : State} {a0 : Array Value} (hw : Tb a0 Z) : (Jvm.Cond.initialized "jdk/internal/util/Preconditions").before a0 Z = true := hw _ (List.mem_of_getElem? (i := 191) rfl)
theorem w194 {Z : State} {a0 : Array Value} (hw : Tb a0 Z) : (Jvm.Cond.code ({ cls := "jdk/internal/util/Preconditions", name := "checkIndex", desc := "(IILjava/util/function/BiFunction;)I" } : Jvm.MethodName) jdk_41_method_11_code (3 : Nat) (Option.some Jvm.ClassFile.FieldType.int)).before a0 Z = true := hw _ (List.mem_of_getElem? (i := 194) rfl)
theorem w193 {Z : State} {a0 : Array Value} (hw : Tb a0 Z) : (Jvm.Cond.static ({ cls := "jdk/internal/util/Preconditions", name := "checkIndex", desc := "(IILjava/util/function/BiFunction;)I" } : Jvm.MethodName)).before a0 Z = true := hw _ (List.mem_of_getElem? (i := 193) rfl)
theorem pd__IILjava_util_function_BiFunction__I_2091 : parseMethodDescriptor "(IILjava/util/function/BiFunction;)I" = some ⟨[.int, .int, (.object "java/util/function/BiFunction")], some .int⟩ := by decide +kernel
theorem d_jdk_42_method_155_code_8 : decode jdk_42_method_155_code 8 = .ok (.pop, 1) := by decide +kernel
theorem d_jdk_42_method_155_code_9 : decode jdk_42_method_155_code 9 = .ok (.return_, 1) := by decide +kernel
set_option maxRecDepth 65536 in
set_option maxHeartbeats 40000000 in
theorem c_checkIndexS (l : Launch) (Z : State) (a0 : Array Value) (hw : Tb a0 Z) (hEW : EW Z a0 EL0) (n0 : Nat) (i n : Int32) (ff : Value) (h0 : Heap) (O : Old Z n0 h0) (SF : Sta Z Z.heap "jdk/internal/util/Preconditions" "SIOOBE_FORMATTER" "Ljava/util/function/BiFunction;" ff) (hff : ff.isRef = true) (h1 : ¬ i < 0) (h2 : i < n) :
    Ct l Z EL0 n0 (⟨"java/lang/String", "checkIndex", "(II)V"⟩ : MethodName) jdk_42_method_155_code 2 none ({ frames := 1, cells := 0, slots := 0, locals := 14 } : Room) #[(.int i), (.int n)] h0 [] (Pu none h0) := by
  refine Ct.of (a0 := a0) #[.val (.int i), .val (.int n)] hEW O (plainFor_of_name pl_java_lang_String) (fun m => by first | (simp [entryFrame, mkF, argsToLocals, Value.category]; done) | rfl) ?_
  intro p_ e_ s_ m_ below_ meth_ c_ b_ T_ K hSP
  refine k_iloadN K d_jdk_42_method_155_code_0 (pc' := 1) rfl rfl ?_
  refine k_iloadN K d_jdk_42_method_155_code_1 (pc' := 2) rfl rfl ?_
  refine k_getS K (w190 hw) Via.refl SF d_jdk_42_method_155_code_2 (pc' := 5) rfl ?_
  intro T106 K106
  refine k_staticP K106 [(.int i), (.int n), ff] [] 0 (w192 hw) (w193 hw) (w191 hw) (w194 hw) (by decide) pd__IILjava_util_function_BiFunction__I_2091 (c_checkIndexP l Z a0 hw hEW n0 i n ff h0 K106.old hff h1 h2) d_jdk_42_method_155_code_5 nofun (pc' := 8) rfl rfl rfl rfl (Nat.le_of_eq rfl) (by decide) (by decide) (by decide) (by decide) ?_
  intro b107 T107 L107 K107 tr107
  show Goes p_.tables e_ below_ _ (T107.setTop (mkF m_ 8 #[.val (.int i), .val (.int n)] [(.int i)]))
  refine k_pop K107 d_jdk_42_method_155_code_8 (pc' := 9) rfl rfl ?_
  exact k_return K107 d_jdk_42_method_155_code_9 rfl (fun sf ht => ⟨rfl, rfl⟩) (by decide) (by decide)
theorem d_jdk_43_method_2_code_0 : decode jdk_43_method_2_code 0 = .ok (.iload_n 1, 1) := by decide +kernel
theorem d_jdk_43_method_2_code_1 : decode jdk_43_method_2_code 1 = .ok (.aload_n 0, 1) := by decide +kernel
theorem d_jdk_43_method_2_code_2 : decode jdk_43_method_2_code 2 = .ok (.arraylength, 1) := by decide +kernel
theorem d_jdk_43_method_2_code_3 : decode jdk_43_method_2_code 3 = .ok (.invokestatic 9, 3) := by decide +kernel
theorem w187 {Z : State} {a0 : Array Value} (hw : Tb a0 Z) : (Jvm.Cond.methodLink "java/lang/StringLatin1" (9 : Nat) ({ cls := "java/lang/String", name := "checkIndex", desc := "(II)V" } : Jvm.MethodName)).before a0 Z = true := hw _ (List.mem_of_getElem? (i := 187) rfl)
theorem w189 {Z : State} {a0 : Array Value} (hw : Tb a0 Z) : (Jvm.Cond.code ({ cls := "java/lang/String", name := "checkIndex", desc := "(II)V" } : Jvm.MethodName) jdk_42_method_155_code (2 : Nat) (Option.none : Option Jvm.ClassFile.FieldType)).before a0 Z = true := hw _ (List.mem_of_getElem? (i := 189) rfl)
theorem w188 {Z : State} {a0 : Array Value} (hw : Tb a0 Z) : (Jvm.Cond.static ({ cls := "java/lang/String", name := "checkIndex", desc := "(II)V" } : Jvm.MethodName)).before a0 Z = true := hw _ (List.mem_of_getElem? (i := 188) rfl)
theorem d_jdk_43_method_2_code_6 : decode jdk_43_method_2_code 6 = .ok (.aload_n 0, 1) := by decide +kernel
theorem d_jdk_43_method_2_code_7 : decode jdk_43_method_2_code 7 = .ok (.iload_n 1, 1) := by decide +kernel
theorem d_jdk_43_method_2_code_8 : decode jdk_43_method_2_code 8 = .ok (.baload, 1) := by decide +kernel
theorem d_jdk_43_method_2_code_9 : decode jdk_43_method_2_code 9 = .ok (.sipush 255, 3) := by decide +kernel
theorem d_jdk_43_method_2_code_12 : decode jdk_43_method_2_code 12 = .ok (.iand, 1) := by decide +kernel
theorem d_jdk_43_method_2_code_13 : decode jdk_43_method_2_code 13 = .ok (.i2c, 1) := by decide +kernel
theorem d_jdk_43_method_2_code_14 : decode jdk_43_method_2_code 14 = .ok (.ireturn, 1) := by decide +kernel
theorem pl_java_lang_StringLatin1 : plainName "java/lang/StringLatin1" = true := by first | (simp [plainName, overriddenIn]; done) | decide +kernel
set_option maxRecDepth 65536 in
set_option maxHeartbeats 40000000 in
theorem c_l1charAt (l : Launch) (Z : State) (a0 : Array Value) (hw : Tb a0 Z) (hEW : EW Z a0 EL0) (n0 : Nat) (e : Addr) (ke : ClassId) (z i x : Int32) (vs : List Value) (ff : Value) (h0 : Heap) (O : Old Z n0 h0) (SF : Sta Z Z.heap "jdk/internal/util/Preconditions" "SIOOBE_FORMATTER" "Ljava/util/function/BiFunction;" ff) (hff : ff.isRef = true) (V_e : Arv Z h0 e ke .byte z vs (.int 0)) (h1 : ¬ i < 0) (h2 : i < z) (hv : vs.getD i.toNatClampNeg (.int 0) = .int x) :
    Ct l Z EL0 n0 (⟨"java/lang/StringLatin1", "charAt", "([BI)C"⟩ : MethodName) jdk_43_method_2_code 2 (some .char) ({ frames := 2, cells := 0, slots := 0, locals := 27 } : Room) #[(.ref e), (.int i)] h0 [] (Pu (some (.int (x &&& 255).toUInt32.toUInt16.toUInt32.toInt32)) h0) := by
  refine Ct.of (a0 := a0) #[.val (.ref e), .val (.int i)] hEW O (plainFor_of_name pl_java_lang_StringLatin1) (fun m => by first | (simp [entryFrame, mkF, argsToLocals, Value.category]; done) | rfl) ?_
  intro p_ e_ s_ m_ below_ meth_ c_ b_ T_ K hSP
  refine k_iloadN K d_jdk_43_method_2_code_0 (pc' := 1) rfl rfl ?_
  refine k_aloadN K d_jdk_43_method_2_code_1 (pc' := 2) rfl rfl rfl ?_
  refine k_len K V_e d_jdk_43_method_2_code_2 (pc' := 3) rfl ?_
  refine k_staticP K [(.int i), (.int z)] [] 0 (w187 hw) (w188 hw) (w42 hw) (w189 hw) (by decide) pd__II_V_999 (c_checkIndexS l Z a0 hw hEW n0 i z ff h0 K.old SF hff h1 h2) d_jdk_43_method_2_code_3 nofun (pc' := 6) rfl rfl rfl rfl (Nat.le_of_eq rfl) (by decide) (by decide) (by decide) (by decide) ?_
  intro b108 T108 L108 K108 tr108
  show Goes p_.tables e_ below_ _ (T108.setTop (mkF m_ 6 #[.val (.ref e), .val (.int i)] []))
  refine k_aloadN K108 d_jdk_43_method_2_code_6 (pc' := 7) rfl rfl rfl ?_
  refine k_iloadN K108 d_jdk_43_method_2_code_7 (pc' := 8) rfl rfl ?_
  refine k_baload K108 (j := i) V_e ⟨h1, h2⟩ hv d_jdk_43_method_2_code_8 (pc' := 9) rfl ?_
  have hr := own_i2c (x &&& 255)
  refine k_sipush K108 (255 : Int32) d_jdk_43_method_2_code_9 (pc' := 12) rfl rfl ?_
  refine k_iand K108 d_jdk_43_method_2_code_12 (pc' := 13) rfl ?_
  refine k_i2c K108 d_jdk_43_method_2_code_13 (pc' := 14) rfl ?_
  exact k_nret K108 d_jdk_43_method_2_code_14 rfl (by simp) (own_narrowc hr.1 hr.2) (fun sf ht => ⟨rfl, rfl⟩) (by decide) (by decide)
theorem own_and255 {c : Int32} (h : 0 ≤ c.toInt ∧ c.toInt < 128) : (c &&& 255).toUInt32.toUInt16.toUInt32.toInt32 = c := by
  obtain ⟨n, hn⟩ := Int.eq_ofNat_of_zero_le h.1
  have e := own_nat hn
  have e2 : (c &&& 255).toBitVec.toNat = n % 256 := by
    show (c.toBitVec &&& 255#32).toNat = _
    rw [BitVec.toNat_and, e]; exact Nat.and_two_pow_sub_one_eq_mod _ 8
  apply Int32.toBitVec_inj.mp
  apply BitVec.eq_of_toNat_eq
  rw [own_i2cN, e2, e]; omega
theorem dig_b (n k : Nat) : 0 ≤ (dig n k).toInt ∧ (dig n k).toInt < 128 := by
  unfold dig; rw [Int32.toInt_ofNat_of_lt (by omega)]; omega
theorem d_jdk_42_method_56_code_0 : decode jdk_42_method_56_code 0 = .ok (.aload_n 0, 1) := by decide +kernel
theorem d_jdk_42_method_56_code_1 : decode jdk_42_method_56_code 1 = .ok (.invokevirtual 492, 3) := by decide +kernel
theorem w178 {Z : State} {a0 : Array Value} (hw : Tb a0 Z) : (Jvm.Cond.methodLink "java/lang/String" (492 : Nat) ({ cls := "java/lang/String", name := "isLatin1", desc := "()Z" } : Jvm.MethodName)).before a0 Z = true := hw _ (List.mem_of_getElem? (i := 178) rfl)
theorem w182 {Z : State} {a0 : Array Value} (hw : Tb a0 Z) : (Jvm.Cond.code ({ cls := "java/lang/String", name := "isLatin1", desc := "()Z" } : Jvm.MethodName) jdk_42_method_154_code (1 : Nat) (Option.some Jvm.ClassFile.FieldType.boolean)).before a0 Z = true := hw _ (List.mem_of_getElem? (i := 182) rfl)
theorem w181 {Z : State} {a0 : Array Value} (hw : Tb a0 Z) : (Jvm.Cond.selects "java/lang/String" ({ cls := "java/lang/String", name := "isLatin1", desc := "()Z" } : Jvm.MethodName) ({ cls := "java/lang/String", name := "isLatin1", desc := "()Z" } : Jvm.MethodName)).before a0 Z = true := hw _ (List.mem_of_getElem? (i := 181) rfl)
theorem w179 {Z : State} {a0 : Array Value} (hw : Tb a0 Z) : (Jvm.Cond.declares ({ cls := "java/lang/String", name := "isLatin1", desc := "()Z" } : Jvm.MethodName)).before a0 Z = true := hw _ (List.mem_of_getElem? (i := 179) rfl)
theorem w180 {Z : State} {a0 : Array Value} (hw : Tb a0 Z) : (Jvm.Cond.instanceMethod ({ cls := "java/lang/String", name := "isLatin1", desc := "()Z" } : Jvm.MethodName)).before a0 Z = true := hw _ (List.mem_of_getElem? (i := 180) rfl)
theorem d_jdk_42_method_56_code_4 : decode jdk_42_method_56_code 4 = .ok (.ifCond .eq 12, 3) := by decide +kernel
theorem d_jdk_42_method_56_code_7 : decode jdk_42_method_56_code 7 = .ok (.aload_n 0, 1) := by decide +kernel
theorem d_jdk_42_method_56_code_8 : decode jdk_42_method_56_code 8 = .ok (.getfield 9, 3) := by decide +kernel
theorem d_jdk_42_method_56_code_11 : decode jdk_42_method_56_code 11 = .ok (.iload_n 1, 1) := by decide +kernel
theorem d_jdk_42_method_56_code_12 : decode jdk_42_method_56_code 12 = .ok (.invokestatic 495, 3) := by decide +kernel
theorem w183 {Z : State} {a0 : Array Value} (hw : Tb a0 Z) : (Jvm.Cond.methodLink "java/lang/String" (495 : Nat) ({ cls := "java/lang/StringLatin1", name := "charAt", desc := "([BI)C" } : Jvm.MethodName)).before a0 Z = true := hw _ (List.mem_of_getElem? (i := 183) rfl)
theorem w185 {Z : State} {a0 : Array Value} (hw : Tb a0 Z) : (Jvm.Cond.initialized "java/lang/StringLatin1").before a0 Z = true := hw _ (List.mem_of_getElem? (i := 185) rfl)
theorem w186 {Z : State} {a0 : Array Value} (hw : Tb a0 Z) : (Jvm.Cond.code ({ cls := "java/lang/StringLatin1", name := "charAt", desc := "([BI)C" } : Jvm.MethodName) jdk_43_method_2_code (2 : Nat) (Option.some Jvm.ClassFile.FieldType.char)).before a0 Z = true := hw _ (List.mem_of_getElem? (i := 186) rfl)
theorem w184 {Z : State} {a0 : Array Value} (hw : Tb a0 Z) : (Jvm.Cond.static ({ cls := "java/lang/StringLatin1", name := "charAt", desc := "([BI)C" } : Jvm.MethodName)).before a0 Z = true := hw _ (List.mem_of_getElem? (i := 184) rfl)
theorem pd___BI_C_1319 : parseMethodDescriptor "([BI)C" = some ⟨[(.array .byte), .int], some .char⟩ := by decide +kernel
theorem d_jdk_42_method_56_code_15 : decode jdk_42_method_56_code 15 = .ok (.ireturn, 1) := by decide +kernel
set_option maxRecDepth 65536 in
set_option maxHeartbeats 40000000 in
theorem c_charAtB (l : Launch) (Z : State) (a0 : Array Value) (hw : Tb a0 Z) (hEW : EW Z a0 EL0) (n0 : Nat) (a t : Addr) (kt : ClassId) (xs : List Int32) (ff : Value) (cs0 : Int32) (i : Int32) (j : Nat) (h0 : Heap) (O : Old Z n0 h0) (SF : Sta Z Z.heap "jdk/internal/util/Preconditions" "SIOOBE_FORMATTER" "Ljava/util/function/BiFunction;" ff) (hff : ff.isRef = true) (S : Str Z h0 a t kt 0 (Int32.ofNat xs.length) (xs.map Value.int)) (hl7 : xs.length ≤ 70) (hax : ∀ x ∈ xs, 0 ≤ x.toInt ∧ x.toInt < 128) (hj : i.toInt = j) (hjl : j < xs.length) (SC : Sta Z Z.heap "java/lang/String" "COMPACT_STRINGS" "Z" (.int cs0)) (hcs : ¬ cs0 = 0) :
    Ct l Z EL0 n0 (⟨"java/lang/String", "charAt", "(I)C"⟩ : MethodName) jdk_42_method_56_code 2 (some .char) ({ frames := 3, cells := 0, slots := 0, locals := 40 } : Room) #[(.ref a), (.int i)] h0 [] (Pu (some (.int xs[j])) h0) := by
  refine Ct.of (a0 := a0) #[.val (.ref a), .val (.int i)] hEW O (plainFor_of_name pl_java_lang_String) (fun m => by first | (simp [entryFrame, mkF, argsToLocals, Value.category]; done) | rfl) ?_
  intro p_ e_ s_ m_ below_ meth_ c_ b_ T_ K hSP
  have hcj := hax xs[j] (List.getElem_mem hjl)
  have hin := own_in hj (own_of (n := xs.length) (by omega)) hjl
  have ech := own_and255 hcj
  refine k_aloadN K d_jdk_42_method_56_code_0 (pc' := 1) rfl rfl rfl ?_
  refine k_virtualP K [] [] 0 (w178 hw) (w179 hw) (w180 hw) (w181 hw) (w42 hw) (w182 hw) (notFace_of_selects (args := #[]) (mvT K.hZ (w181 hw))) rfl (by decide) S.1 (by decide) pd___Z_392 (c_isLatin1 l Z a0 hw hEW n0 a t kt 0 _ _ cs0 h0 K.old S (Or.inl rfl) SC hcs) d_jdk_42_method_56_code_1 nofun (pc' := 4) rfl rfl rfl rfl (Nat.le_of_eq rfl) (by decide) (by decide) (by decide) (by decide) ?_
  intro b109 T109 L109 K109 tr109
  show Goes p_.tables e_ below_ _ (T109.setTop (mkF m_ 4 #[.val (.ref a), .val (.int i)] [(.int (if (0 : Int32) = 0 then 1 else 0))]))
  rw [if_pos rfl]
  refine k_if_eq K109 d_jdk_42_method_56_code_4 (by decide) (pc' := 16) (pc2 := 7) (by decide) rfl (fun q => absurd q (by decide)) (fun hc4 => ?_)
  refine k_aloadN K109 d_jdk_42_method_56_code_7 (pc' := 8) rfl rfl rfl ?_
  refine k_getF K109 (w69 hw) Via.refl S.2.2.1 d_jdk_42_method_56_code_8 (pc' := 11) rfl ?_
  intro T110 K110
  refine k_iloadN K110 d_jdk_42_method_56_code_11 (pc' := 12) rfl rfl ?_
  refine k_staticP K110 [(.ref t), (.int i)] [] 0 (w183 hw) (w184 hw) (w185 hw) (w186 hw) (by decide) pd___BI_C_1319 (c_l1charAt l Z a0 hw hEW n0 t kt _ i xs[j] _ ff h0 K110.old SF hff S.2.2.2 hin.1 hin.2 (by rw [own_clamp hj]; simp [List.getD_eq_getElem?_getD, hjl])) d_jdk_42_method_56_code_12 nofun (pc' := 15) rfl rfl rfl rfl (Nat.le_of_eq rfl) (by decide) (by decide) (by decide) (by decide) ?_
  intro b111 T111 L111 K111 tr111
  show Goes p_.tables e_ below_ _ (T111.setTop (mkF m_ 15 #[.val (.ref a), .val (.int i)] [(.int (xs[j] &&& 255).toUInt32.toUInt16.toUInt32.toInt32)]))
  rw [ech]
  exact k_nret K111 d_jdk_42_method_56_code_15 rfl (by simp) (own_narrowc hcj.1 (by omega)) (fun sf ht => ⟨rfl, rfl⟩) (by decide) (by decide)
theorem own_digit {x y : Int32} {n k : Nat} (hx : x.toInt = n) (hk : k < 10) (hy : y = Int32.ofNat (10 ^ k)) : ((48 : Int32) + (x / y % 10)).toUInt32.toUInt16.toUInt32.toInt32 = dig n k := by
  subst hy
  have hp : 10 ^ k ≤ 10 ^ 9 := Nat.pow_le_pow_right (by decide) (by omega)
  have hp1 : 0 < 10 ^ k := Nat.pow_pos (by decide)
  have hl : x.toInt < 2 ^ 31 := Int32.toInt_lt x
  rw [hx] at hl
  have e1 : (Int32.ofNat (10 ^ k)).toInt = (10 ^ k : Nat) := Int32.toInt_ofNat_of_lt (by omega)
  have hq : n / 10 ^ k ≤ n := Nat.div_le_self _ _
  have e2 : (x / Int32.ofNat (10 ^ k)).toInt = (n / 10 ^ k : Nat) := by
    rw [Int32.toInt_div, hx, e1, ← Int.ofNat_tdiv]
    generalize n / 10 ^ k = u at hq ⊢
    exact Int.bmod_eq_of_le (by omega) (by omega)
  have e3 : (x / Int32.ofNat (10 ^ k) % 10).toInt = (n / 10 ^ k % 10 : Nat) := by
    rw [Int32.toInt_mod, e2, show (10 : Int32).toInt = ((10 : Nat) : Int) by decide, ← Int.ofNat_tmod]
  have e4 : ((48 : Int32) + (x / Int32.ofNat (10 ^ k) % 10)) = dig n k := own_i32e (by
    rw [XT.add32 (by rw [e3, show (48 : Int32).toInt = 48 by decide]; constructor <;> omega), e3, show (48 : Int32).toInt = 48 by decide, dig, Int32.toInt_ofNat_of_lt (by omega)]; omega)
  have hb := dig_b n k
  rw [e4, own_i2cI hb.1 (by omega)]
theorem d_method_5_code_0 : decode method_5_code 0 = .ok (.iload 4, 2) := by decide +kernel
theorem d_method_5_code_2 : decode method_5_code 2 = .ok (.iload_n 3, 1) := by decide +kernel
theorem d_method_5_code_3 : decode method_5_code 3 = .ok (.if_icmp .lt 5, 3) := by decide +kernel
theorem d_method_5_code_8 : decode method_5_code 8 = .ok (.iload_n 2, 1) := by decide +kernel
theorem d_method_5_code_9 : decode method_5_code 9 = .ok (.iload 4, 2) := by decide +kernel
theorem d_method_5_code_11 : decode method_5_code 11 = .ok (.invokestatic 48, 3) := by decide +kernel
theorem w201 {Z : State} {a0 : Array Value} (hw : Tb a0 Z) : (Jvm.Cond.methodLink "com/example/object_sieve/objectsieve/query/TextPositionToStringPinLaw" (48 : Nat) ({ cls := "com/example/object_sieve/objectsieve/query/TextPositionToStringPinLaw", name := "pow10", desc := "(I)I" } : Jvm.MethodName)).before a0 Z = true := hw _ (List.mem_of_getElem? (i := 201) rfl)
theorem w170 {Z : State} {a0 : Array Value} (hw : Tb a0 Z) : (Jvm.Cond.initialized "com/example/object_sieve/objectsieve/query/TextPositionToStringPinLaw").before a0 Z = true := hw _ (List.mem_of_getElem? (i := 170) rfl)
theorem w203 {Z : State} {a0 : Array Value} (hw : Tb a0 Z) : (Jvm.Cond.code ({ cls := "com/example/object_sieve/objectsieve/query/TextPositionToStringPinLaw", name := "pow10", desc := "(I)I" } : Jvm.MethodName) method_4_code (1 : Nat) (Option.some Jvm.ClassFile.FieldType.int)).before a0 Z = true := hw _ (List.mem_of_getElem? (i := 203) rfl)
theorem w202 {Z : State} {a0 : Array Value} (hw : Tb a0 Z) : (Jvm.Cond.static ({ cls := "com/example/object_sieve/objectsieve/query/TextPositionToStringPinLaw", name := "pow10", desc := "(I)I" } : Jvm.MethodName)).before a0 Z = true := hw _ (List.mem_of_getElem? (i := 202) rfl)
theorem d_method_5_code_14 : decode method_5_code 14 = .ok (.idiv, 1) := by decide +kernel
theorem d_method_5_code_15 : decode method_5_code 15 = .ok (.bipush 10, 2) := by decide +kernel
theorem d_method_5_code_17 : decode method_5_code 17 = .ok (.irem, 1) := by decide +kernel
theorem d_method_5_code_18 : decode method_5_code 18 = .ok (.istore 5, 2) := by decide +kernel
theorem d_method_5_code_20 : decode method_5_code 20 = .ok (.aload_n 0, 1) := by decide +kernel
theorem d_method_5_code_21 : decode method_5_code 21 = .ok (.iload_n 1, 1) := by decide +kernel
theorem d_method_5_code_22 : decode method_5_code 22 = .ok (.iload_n 3, 1) := by decide +kernel
theorem d_method_5_code_23 : decode method_5_code 23 = .ok (.iadd, 1) := by decide +kernel
theorem d_method_5_code_24 : decode method_5_code 24 = .ok (.iconst 1, 1) := by decide +kernel
theorem d_method_5_code_25 : decode method_5_code 25 = .ok (.isub, 1) := by decide +kernel
theorem d_method_5_code_26 : decode method_5_code 26 = .ok (.iload 4, 2) := by decide +kernel
theorem d_method_5_code_28 : decode method_5_code 28 = .ok (.isub, 1) := by decide +kernel
theorem d_method_5_code_29 : decode method_5_code 29 = .ok (.invokevirtual 35, 3) := by decide +kernel
theorem w173 {Z : State} {a0 : Array Value} (hw : Tb a0 Z) : (Jvm.Cond.methodLink "com/example/object_sieve/objectsieve/query/TextPositionToStringPinLaw" (35 : Nat) ({ cls := "java/lang/String", name := "charAt", desc := "(I)C" } : Jvm.MethodName)).before a0 Z = true := hw _ (List.mem_of_getElem? (i := 173) rfl)
theorem w177 {Z : State} {a0 : Array Value} (hw : Tb a0 Z) : (Jvm.Cond.code ({ cls := "java/lang/String", name := "charAt", desc := "(I)C" } : Jvm.MethodName) jdk_42_method_56_code (2 : Nat) (Option.some Jvm.ClassFile.FieldType.char)).before a0 Z = true := hw _ (List.mem_of_getElem? (i := 177) rfl)
theorem w176 {Z : State} {a0 : Array Value} (hw : Tb a0 Z) : (Jvm.Cond.selects "java/lang/String" ({ cls := "java/lang/String", name := "charAt", desc := "(I)C" } : Jvm.MethodName) ({ cls := "java/lang/String", name := "charAt", desc := "(I)C" } : Jvm.MethodName)).before a0 Z = true := hw _ (List.mem_of_getElem? (i := 176) rfl)
theorem w174 {Z : State} {a0 : Array Value} (hw : Tb a0 Z) : (Jvm.Cond.declares ({ cls := "java/lang/String", name := "charAt", desc := "(I)C" } : Jvm.MethodName)).before a0 Z = true := hw _ (List.mem_of_getElem? (i := 174) rfl)
theorem w175 {Z : State} {a0 : Array Value} (hw : Tb a0 Z) : (Jvm.Cond.instanceMethod ({ cls := "java/lang/String", name := "charAt", desc := "(I)C" } : Jvm.MethodName)).before a0 Z = true := hw _ (List.mem_of_getElem? (i := 175) rfl)
theorem pd__I_C_577 : parseMethodDescriptor "(I)C" = some ⟨[.int], some .char⟩ := by decide +kernel
theorem d_method_5_code_32 : decode method_5_code 32 = .ok (.bipush 48, 2) := by decide +kernel
theorem d_method_5_code_34 : decode method_5_code 34 = .ok (.iload 5, 2) := by decide +kernel
theorem d_method_5_code_36 : decode method_5_code 36 = .ok (.iadd, 1) := by decide +kernel
theorem d_method_5_code_37 : decode method_5_code 37 = .ok (.i2c, 1) := by decide +kernel
theorem d_method_5_code_38 : decode method_5_code 38 = .ok (.if_icmp .ne 7, 3) := by decide +kernel
theorem d_method_5_code_41 : decode method_5_code 41 = .ok (.iconst 1, 1) := by decide +kernel
theorem d_method_5_code_42 : decode method_5_code 42 = .ok (.goto 4, 3) := by decide +kernel
theorem d_method_5_code_46 : decode method_5_code 46 = .ok (.ireturn, 1) := by decide +kernel
theorem d_method_5_code_6 : decode method_5_code 6 = .ok (.iconst 1, 1) := by decide +kernel
theorem d_method_5_code_7 : decode method_5_code 7 = .ok (.ireturn, 1) := by decide +kernel
set_option maxRecDepth 65536 in
set_option maxHeartbeats 40000000 in
theorem c_digitOk (l : Launch) (Z : State) (a0 : Array Value) (hw : Tb a0 Z) (hEW : EW Z a0 EL0) (n0 : Nat) (a t : Addr) (kt : ClassId) (xs : List Int32) (ff : Value) (cs0 : Int32) (st x : Int32) (sn n : Nat) (kI : Int32) (kk : Nat) (h0 : Heap) (O : Old Z n0 h0) (SF : Sta Z Z.heap "jdk/internal/util/Preconditions" "SIOOBE_FORMATTER" "Ljava/util/function/BiFunction;" ff) (hff : ff.isRef = true) (S : Str Z h0 a t kt 0 (Int32.ofNat xs.length) (xs.map Value.int)) (hl7 : xs.length ≤ 70) (hax : ∀ x ∈ xs, 0 ≤ x.toInt ∧ x.toInt < 128) (hst : st.toInt = sn) (hx : x.toInt = n) (hfit : sn + szN n ≤ xs.length) (hdg : ∀ k, k < szN n → xs.getD (sn + szN n - 1 - k) 0 = dig n k) (hk : kI.toInt = kk) (hk10 : kk < 10) (SC : Sta Z Z.heap "java/lang/String" "COMPACT_STRINGS" "Z" (.int cs0)) (hcs : ¬ cs0 = 0) :
    Ct l Z EL0 n0 (⟨"com/example/object_sieve/objectsieve/query/TextPositionToStringPinLaw", "digitOk", "(Ljava/lang/String;IIII)Z"⟩ : MethodName) method_5_code 6 (some .boolean) ({ frames := 4, cells := 0, slots := 0, locals := 53 } : Room) #[(.ref a), (.int st), (.int x), (.int (Int32.ofNat (szN n))), (.int kI)] h0 [] (Pu (some (.int 1)) h0) := by
  refine Ct.of (a0 := a0) #[.val (.ref a), .val (.int st), .val (.int x), .val (.int (Int32.ofNat (szN n))), .val (.int kI), .unset] hEW O (plainFor_of_name pl_com_example_object_sieve_objectsieve_query_TextPositionToStringPinLaw) (fun m => by first | (simp [entryFrame, mkF, argsToLocals, Value.category]; done) | rfl) ?_
  intro p_ e_ s_ m_ below_ meth_ c_ b_ T_ K hSP
  have hsz := szN_b n
  have hso := own_of (n := szN n) (by omega)
  refine k_iload K d_method_5_code_0 (pc' := 2) rfl rfl ?_
  refine k_iloadN K d_method_5_code_2 (pc' := 3) rfl rfl ?_
  refine k_icmp_lt K d_method_5_code_3 (by decide) (pc' := 8) (pc2 := 6) (by decide) rfl (fun hc3 => ?_) (fun hc3 => ?_)
  · have hlt : kk < szN n := by rw [own_i32, hk, hso] at hc3; omega
    refine k_iloadN K d_method_5_code_8 (pc' := 9) rfl rfl ?_
    refine k_iload K d_method_5_code_9 (pc' := 11) rfl rfl ?_
    refine k_staticP K [(.int kI)] [(.int x)] 1 (w201 hw) (w202 hw) (w170 hw) (w203 hw) (by decide) pd__I_I_601 (c_pow10 l Z a0 hw hEW n0 kI kk h0 K.old hk hk10) d_method_5_code_11 nofun (pc' := 14) rfl rfl rfl rfl (Nat.le_of_eq rfl) (by decide) (by decide) (by decide) (by decide) ?_
    intro b112 T112 L112 K112 tr112
    show Goes p_.tables e_ below_ _ (T112.setTop (mkF m_ 14 #[.val (.ref a), .val (.int st), .val (.int x), .val (.int (Int32.ofNat (szN n))), .val (.int kI), .unset] [(.int (Int32.ofNat (10 ^ kk))), (.int x)]))
    refine k_idiv K112 d_method_5_code_14 (pc' := 15) rfl (fun q => by have e := congrArg Int32.toInt q; rw [Int32.toInt_ofNat_of_lt (Nat.lt_of_le_of_lt (Nat.pow_le_pow_right (by decide) (show kk ≤ 9 by omega)) (by decide)), own_0] at e; have := Nat.pow_pos (n := kk) (show 0 < 10 by decide); omega) ?_
    refine k_bipush K112 (10 : Int32) d_method_5_code_15 (pc' := 17) rfl rfl ?_
    refine k_irem K112 d_method_5_code_17 (pc' := 18) rfl (by decide) ?_
    refine k_istore K112 d_method_5_code_18 (pc' := 20) (L' := #[.val (.ref a), .val (.int st), .val (.int x), .val (.int (Int32.ofNat (szN n))), .val (.int kI), .val (.int ((x / (Int32.ofNat (10 ^ kk))) % (10 : Int32)))]) rfl rfl ?_
    refine k_aloadN K112 d_method_5_code_20 (pc' := 21) rfl rfl rfl ?_
    refine k_iloadN K112 d_method_5_code_21 (pc' := 22) rfl rfl ?_
    refine k_iloadN K112 d_method_5_code_22 (pc' := 23) rfl rfl ?_
    refine k_iadd K112 d_method_5_code_23 (pc' := 24) rfl ?_
    refine k_iconst K112 (1 : Int32) d_method_5_code_24 (pc' := 25) rfl rfl ?_
    refine k_isub K112 d_method_5_code_25 (pc' := 26) rfl ?_
    refine k_iload K112 d_method_5_code_26 (pc' := 28) rfl rfl ?_
    refine k_isub K112 d_method_5_code_28 (pc' := 29) rfl ?_
    have hix : ((((st + (Int32.ofNat (szN n))) - (1 : Int32)) - kI)).toInt = (sn + szN n - 1 - kk : Nat) := by
      have a1 := own_sum2 hst hso (by omega)
      have a2 := own_sub a1 (show (1 : Int32).toInt = (1 : Nat) by decide) (by omega) (by omega)
      exact own_sub a2 hk (by omega) (by omega)
    have hjl : sn + szN n - 1 - kk < xs.length := by omega
    refine k_virtualP K112 [(.int (((st + (Int32.ofNat (szN n))) - (1 : Int32)) - kI))] [] 0 (w173 hw) (w174 hw) (w175 hw) (w176 hw) (w42 hw) (w177 hw) (notFace_of_selects (args := #[]) (mvT K112.hZ (w176 hw))) rfl (by decide) S.1 (by decide) pd__I_C_577 (c_charAtB l Z a0 hw hEW n0 a t kt xs ff cs0 (((st + (Int32.ofNat (szN n))) - (1 : Int32)) - kI) (sn + szN n - 1 - kk) h0 K112.old SF hff S hl7 hax hix hjl SC hcs) d_method_5_code_29 nofun (pc' := 32) rfl rfl rfl rfl (Nat.le_of_eq rfl) (by decide) (by decide) (by decide) (by decide) ?_
    intro b113 T113 L113 K113 tr113
    show Goes p_.tables e_ below_ _ (T113.setTop (mkF m_ 32 #[.val (.ref a), .val (.int st), .val (.int x), .val (.int (Int32.ofNat (szN n))), .val (.int kI), .val (.int ((x / (Int32.ofNat (10 ^ kk))) % (10 : Int32)))] [(.int xs[sn + szN n - 1 - kk])]))
    refine k_bipush K113 (48 : Int32) d_method_5_code_32 (pc' := 34) rfl rfl ?_
    refine k_iload K113 d_method_5_code_34 (pc' := 36) rfl rfl ?_
    refine k_iadd K113 d_method_5_code_36 (pc' := 37) rfl ?_
    refine k_i2c K113 d_method_5_code_37 (pc' := 38) rfl ?_
    refine k_icmp_ne K113 d_method_5_code_38 (by decide) (pc' := 45) (pc2 := 41) (by decide) rfl (fun q => absurd (by rw [own_digit hx hk10 rfl, ← hdg kk hlt]; simp [List.getD_eq_getElem?_getD, hjl]) q) (fun hc38 => ?_)
    refine k_iconst K113 (1 : Int32) d_method_5_code_41 (pc' := 42) rfl rfl ?_
    refine k_goto K113 d_method_5_code_42 (by decide) (pc' := 46) (by decide) ?_
    exact k_nret K113 d_method_5_code_46 rfl (by simp) rfl (fun sf ht => ⟨rfl, rfl⟩) (by decide) (by decide)
  · refine k_iconst K (1 : Int32) d_method_5_code_6 (pc' := 7) rfl rfl ?_
    exact k_nret K d_method_5_code_7 rfl (by simp) rfl (fun sf ht => ⟨rfl, rfl⟩) (by decide) (by decide)
theorem d_method_6_code_0 : decode method_6_code 0 = .ok (.aload_n 0, 1) := by decide +kernel
theorem d_method_6_code_1 : decode method_6_code 1 = .ok (.iload_n 1, 1) := by decide +kernel
theorem d_method_6_code_2 : decode method_6_code 2 = .ok (.iload_n 2, 1) := by decide +kernel
theorem d_method_6_code_3 : decode method_6_code 3 = .ok (.iload_n 3, 1) := by decide +kernel
theorem d_method_6_code_4 : decode method_6_code 4 = .ok (.iconst 0, 1) := by decide +kernel
theorem d_method_6_code_5 : decode method_6_code 5 = .ok (.invokestatic 51, 3) := by decide +kernel
theorem w198 {Z : State} {a0 : Array Value} (hw : Tb a0 Z) : (Jvm.Cond.methodLink "com/example/object_sieve/objectsieve/query/TextPositionToStringPinLaw" (51 : Nat) ({ cls := "com/example/object_sieve/objectsieve/query/TextPositionToStringPinLaw", name := "digitOk", desc := "(Ljava/lang/String;IIII)Z" } : Jvm.MethodName)).before a0 Z = true := hw _ (List.mem_of_getElem? (i := 198) rfl)
theorem w200 {Z : State} {a0 : Array Value} (hw : Tb a0 Z) : (Jvm.Cond.code ({ cls := "com/example/object_sieve/objectsieve/query/TextPositionToStringPinLaw", name := "digitOk", desc := "(Ljava/lang/String;IIII)Z" } : Jvm.MethodName) method_5_code (6 : Nat) (Option.some Jvm.ClassFile.FieldType.boolean)).before a0 Z = true := hw _ (List.mem_of_getElem? (i := 200) rfl)
theorem w199 {Z : State} {a0 : Array Value} (hw : Tb a0 Z) : (Jvm.Cond.static ({ cls := "com/example/object_sieve/objectsieve/query/TextPositionToStringPinLaw", name := "digitOk", desc := "(Ljava/lang/String;IIII)Z" } : Jvm.MethodName)).before a0 Z = true := hw _ (List.mem_of_getElem? (i := 199) rfl)
theorem pd__Ljava_lang_String_IIII_Z_7437 : parseMethodDescriptor "(Ljava/lang/String;IIII)Z" = some ⟨[(.object "java/lang/String"), .int, .int, .int, .int], some .boolean⟩ := by decide +kernel
theorem d_method_6_code_8 : decode method_6_code 8 = .ok (.ifCond .eq 110, 3) := by decide +kernel
theorem d_method_6_code_11 : decode method_6_code 11 = .ok (.aload_n 0, 1) := by decide +kernel
theorem d_method_6_code_12 : decode method_6_code 12 = .ok (.iload_n 1, 1) := by decide +kernel
theorem d_method_6_code_13 : decode method_6_code 13 = .ok (.iload_n 2, 1) := by decide +kernel
theorem d_method_6_code_14 : decode method_6_code 14 = .ok (.iload_n 3, 1) := by decide +kernel
theorem d_method_6_code_15 : decode method_6_code 15 = .ok (.iconst 1, 1) := by decide +kernel
theorem d_method_6_code_16 : decode method_6_code 16 = .ok (.invokestatic 51, 3) := by decide +kernel
theorem d_method_6_code_19 : decode method_6_code 19 = .ok (.ifCond .eq 99, 3) := by decide +kernel
theorem d_method_6_code_22 : decode method_6_code 22 = .ok (.aload_n 0, 1) := by decide +kernel
theorem d_method_6_code_23 : decode method_6_code 23 = .ok (.iload_n 1, 1) := by decide +kernel
theorem d_method_6_code_24 : decode method_6_code 24 = .ok (.iload_n 2, 1) := by decide +kernel
theorem d_method_6_code_25 : decode method_6_code 25 = .ok (.iload_n 3, 1) := by decide +kernel
theorem d_method_6_code_26 : decode method_6_code 26 = .ok (.iconst 2, 1) := by decide +kernel
theorem d_method_6_code_27 : decode method_6_code 27 = .ok (.invokestatic 51, 3) := by decide +kernel
theorem d_method_6_code_30 : decode method_6_code 30 = .ok (.ifCond .eq 88, 3) := by decide +kernel
theorem d_method_6_code_33 : decode method_6_code 33 = .ok (.aload_n 0, 1) := by decide +kernel
theorem d_method_6_code_34 : decode method_6_code 34 = .ok (.iload_n 1, 1) := by decide +kernel
theorem d_method_6_code_35 : decode method_6_code 35 = .ok (.iload_n 2, 1) := by decide +kernel
theorem d_method_6_code_36 : decode method_6_code 36 = .ok (.iload_n 3, 1) := by decide +kernel
theorem d_method_6_code_37 : decode method_6_code 37 = .ok (.iconst 3, 1) := by decide +kernel
theorem d_method_6_code_38 : decode method_6_code 38 = .ok (.invokestatic 51, 3) := by decide +kernel
theorem d_method_6_code_41 : decode method_6_code 41 = .ok (.ifCond .eq 77, 3) := by decide +kernel
theorem d_method_6_code_44 : decode method_6_code 44 = .ok (.aload_n 0, 1) := by decide +kernel
theorem d_method_6_code_45 : decode method_6_code 45 = .ok (.iload_n 1, 1) := by decide +kernel
theorem d_method_6_code_46 : decode method_6_code 46 = .ok (.iload_n 2, 1) := by decide +kernel
theorem d_method_6_code_47 : decode method_6_code 47 = .ok (.iload_n 3, 1) := by decide +kernel
theorem d_method_6_code_48 : decode method_6_code 48 = .ok (.iconst 4, 1) := by decide +kernel
theorem d_method_6_code_49 : decode method_6_code 49 = .ok (.invokestatic 51, 3) := by decide +kernel
theorem d_method_6_code_52 : decode method_6_code 52 = .ok (.ifCond .eq 66, 3) := by decide +kernel
theorem d_method_6_code_55 : decode method_6_code 55 = .ok (.aload_n 0, 1) := by decide +kernel
theorem d_method_6_code_56 : decode method_6_code 56 = .ok (.iload_n 1, 1) := by decide +kernel
theorem d_method_6_code_57 : decode method_6_code 57 = .ok (.iload_n 2, 1) := by decide +kernel
theorem d_method_6_code_58 : decode method_6_code 58 = .ok (.iload_n 3, 1) := by decide +kernel
theorem d_method_6_code_59 : decode method_6_code 59 = .ok (.iconst 5, 1) := by decide +kernel
theorem d_method_6_code_60 : decode method_6_code 60 = .ok (.invokestatic 51, 3) := by decide +kernel
theorem d_method_6_code_63 : decode method_6_code 63 = .ok (.ifCond .eq 55, 3) := by decide +kernel
theorem d_method_6_code_66 : decode method_6_code 66 = .ok (.aload_n 0, 1) := by decide +kernel
theorem d_method_6_code_67 : decode method_6_code 67 = .ok (.iload_n 1, 1) := by decide +kernel
theorem d_method_6_code_68 : decode method_6_code 68 = .ok (.iload_n 2, 1) := by decide +kernel
theorem d_method_6_code_69 : decode method_6_code 69 = .ok (.iload_n 3, 1) := by decide +kernel
theorem d_method_6_code_70 : decode method_6_code 70 = .ok (.bipush 6, 2) := by decide +kernel
theorem d_method_6_code_72 : decode method_6_code 72 = .ok (.invokestatic 51, 3) := by decide +kernel
theorem d_method_6_code_75 : decode method_6_code 75 = .ok (.ifCond .eq 43, 3) := by decide +kernel
theorem d_method_6_code_78 : decode method_6_code 78 = .ok (.aload_n 0, 1) := by decide +kernel
theorem d_method_6_code_79 : decode method_6_code 79 = .ok (.iload_n 1, 1) := by decide +kernel
theorem d_method_6_code_80 : decode method_6_code 80 = .ok (.iload_n 2, 1) := by decide +kernel
theorem d_method_6_code_81 : decode method_6_code 81 = .ok (.iload_n 3, 1) := by decide +kernel
theorem d_method_6_code_82 : decode method_6_code 82 = .ok (.bipush 7, 2) := by decide +kernel
theorem d_method_6_code_84 : decode method_6_code 84 = .ok (.invokestatic 51, 3) := by decide +kernel
theorem d_method_6_code_87 : decode method_6_code 87 = .ok (.ifCond .eq 31, 3) := by decide +kernel
theorem d_method_6_code_90 : decode method_6_code 90 = .ok (.aload_n 0, 1) := by decide +kernel
theorem d_method_6_code_91 : decode method_6_code 91 = .ok (.iload_n 1, 1) := by decide +kernel
theorem d_method_6_code_92 : decode method_6_code 92 = .ok (.iload_n 2, 1) := by decide +kernel
theorem d_method_6_code_93 : decode method_6_code 93 = .ok (.iload_n 3, 1) := by decide +kernel
theorem d_method_6_code_94 : decode method_6_code 94 = .ok (.bipush 8, 2) := by decide +kernel
theorem d_method_6_code_96 : decode method_6_code 96 = .ok (.invokestatic 51, 3) := by decide +kernel
theorem d_method_6_code_99 : decode method_6_code 99 = .ok (.ifCond .eq 19, 3) := by decide +kernel
theorem d_method_6_code_102 : decode method_6_code 102 = .ok (.aload_n 0, 1) := by decide +kernel
theorem d_method_6_code_103 : decode method_6_code 103 = .ok (.iload_n 1, 1) := by decide +kernel
theorem d_method_6_code_104 : decode method_6_code 104 = .ok (.iload_n 2, 1) := by decide +kernel
theorem d_method_6_code_105 : decode method_6_code 105 = .ok (.iload_n 3, 1) := by decide +kernel
theorem d_method_6_code_106 : decode method_6_code 106 = .ok (.bipush 9, 2) := by decide +kernel
theorem d_method_6_code_108 : decode method_6_code 108 = .ok (.invokestatic 51, 3) := by decide +kernel
theorem d_method_6_code_111 : decode method_6_code 111 = .ok (.ifCond .eq 7, 3) := by decide +kernel
theorem d_method_6_code_114 : decode method_6_code 114 = .ok (.iconst 1, 1) := by decide +kernel
theorem d_method_6_code_115 : decode method_6_code 115 = .ok (.goto 4, 3) := by decide +kernel
theorem d_method_6_code_119 : decode method_6_code 119 = .ok (.ireturn, 1) := by decide +kernel
set_option maxRecDepth 65536 in
set_option maxHeartbeats 40000000 in
theorem c_digitsOk (l : Launch) (Z : State) (a0 : Array Value) (hw : Tb a0 Z) (hEW : EW Z a0 EL0) (n0 : Nat) (a t : Addr) (kt : ClassId) (xs : List Int32) (ff : Value) (cs0 : Int32) (st x : Int32) (sn n : Nat) (h0 : Heap) (O : Old Z n0 h0) (SF : Sta Z Z.heap "jdk/internal/util/Preconditions" "SIOOBE_FORMATTER" "Ljava/util/function/BiFunction;" ff) (hff : ff.isRef = true) (S : Str Z h0 a t kt 0 (Int32.ofNat xs.length) (xs.map Value.int)) (hl7 : xs.length ≤ 70) (hax : ∀ x ∈ xs, 0 ≤ x.toInt ∧ x.toInt < 128) (hst : st.toInt = sn) (hx : x.toInt = n) (hfit : sn + szN n ≤ xs.length) (hdg : ∀ k, k < szN n → xs.getD (sn + szN n - 1 - k) 0 = dig n k) (SC : Sta Z Z.heap "java/lang/String" "COMPACT_STRINGS" "Z" (.int cs0)) (hcs : ¬ cs0 = 0) :
    Ct l Z EL0 n0 (⟨"com/example/object_sieve/objectsieve/query/TextPositionToStringPinLaw", "digitsOk", "(Ljava/lang/String;III)Z"⟩ : MethodName) method_6_code 4 (some .boolean) ({ frames := 5, cells := 0, slots := 0, locals := 70 } : Room) #[(.ref a), (.int st), (.int x), (.int (Int32.ofNat (szN n)))] h0 [] (Pu (some (.int 1)) h0) := by
  refine Ct.of (a0 := a0) #[.val (.ref a), .val (.int st), .val (.int x), .val (.int (Int32.ofNat (szN n)))] hEW O (plainFor_of_name pl_com_example_object_sieve_objectsieve_query_TextPositionToStringPinLaw) (fun m => by first | (simp [entryFrame, mkF, argsToLocals, Value.category]; done) | rfl) ?_
  intro p_ e_ s_ m_ below_ meth_ c_ b_ T_ K hSP
  refine k_aloadN K d_method_6_code_0 (pc' := 1) rfl rfl rfl ?_
  refine k_iloadN K d_method_6_code_1 (pc' := 2) rfl rfl ?_
  refine k_iloadN K d_method_6_code_2 (pc' := 3) rfl rfl ?_
  refine k_iloadN K d_method_6_code_3 (pc' := 4) rfl rfl ?_
  refine k_iconst K (0 : Int32) d_method_6_code_4 (pc' := 5) rfl rfl ?_
  refine k_staticP K [(.ref a), (.int st), (.int x), (.int (Int32.ofNat (szN n))), (.int (0 : Int32))] [] 0 (w198 hw) (w199 hw) (w170 hw) (w200 hw) (by decide) pd__Ljava_lang_String_IIII_Z_7437 (c_digitOk l Z a0 hw hEW n0 a t kt xs ff cs0 st x sn n 0 0 h0 K.old SF hff S hl7 hax hst hx hfit hdg rfl (by decide) SC hcs) d_method_6_code_5 nofun (pc' := 8) rfl rfl rfl rfl (Nat.le_of_eq rfl) (by decide) (by decide) (by decide) (by decide) ?_
  intro b114 T114 L114 K114 tr114
  show Goes p_.tables e_ below_ _ (T114.setTop (mkF m_ 8 #[.val (.ref a), .val (.int st), .val (.int x), .val (.int (Int32.ofNat (szN n)))] [(.int (1 : Int32))]))
  refine k_if_eq K114 d_method_6_code_8 (by decide) (pc' := 118) (pc2 := 11) (by decide) rfl (fun q => absurd q (by decide)) (fun hc8 => ?_)
  refine k_aloadN K114 d_method_6_code_11 (pc' := 12) rfl rfl rfl ?_
  refine k_iloadN K114 d_method_6_code_12 (pc' := 13) rfl rfl ?_
  refine k_iloadN K114 d_method_6_code_13 (pc' := 14) rfl rfl ?_
  refine k_iloadN K114 d_method_6_code_14 (pc' := 15) rfl rfl ?_
  refine k_iconst K114 (1 : Int32) d_method_6_code_15 (pc' := 16) rfl rfl ?_
  refine k_staticP K114 [(.ref a), (.int st), (.int x), (.int (Int32.ofNat (szN n))), (.int (1 : Int32))] [] 0 (w198 hw) (w199 hw) (w170 hw) (w200 hw) (by decide) pd__Ljava_lang_String_IIII_Z_7437 (c_digitOk l Z a0 hw hEW n0 a t kt xs ff cs0 st x sn n 1 1 h0 K114.old SF hff S hl7 hax hst hx hfit hdg rfl (by decide) SC hcs) d_method_6_code_16 nofun (pc' := 19) rfl rfl rfl rfl (Nat.le_of_eq rfl) (by decide) (by decide) (by decide) (by decide) ?_
  intro b115 T115 L115 K115 tr115
  show Goes p_.tables e_ below_ _ (T115.setTop (mkF m_ 19 #[.val (.ref a), .val (.int st), .val (.int x), .val (.int (Int32.ofNat (szN n)))] [(.int (1 : Int32))]))
  refine k_if_eq K115 d_method_6_code_19 (by decide) (pc' := 118) (pc2 := 22) (by decide) rfl (fun q => absurd q (by decide)) (fun hc19 => ?_)
  refine k_aloadN K115 d_method_6_code_22 (pc' := 23) rfl rfl rfl ?_
  refine k_iloadN K115 d_method_6_code_23 (pc' := 24) rfl rfl ?_
  refine k_iloadN K115 d_method_6_code_24 (pc' := 25) rfl rfl ?_
  refine k_iloadN K115 d_method_6_code_25 (pc' := 26) rfl rfl ?_
  refine k_iconst K115 (2 : Int32) d_method_6_code_26 (pc' := 27) rfl rfl ?_
  refine k_staticP K115 [(.ref a), (.int st), (.int x), (.int (Int32.ofNat (szN n))), (.int (2 : Int32))] [] 0 (w198 hw) (w199 hw) (w170 hw) (w200 hw) (by decide) pd__Ljava_lang_String_IIII_Z_7437 (c_digitOk l Z a0 hw hEW n0 a t kt xs ff cs0 st x sn n 2 2 h0 K115.old SF hff S hl7 hax hst hx hfit hdg rfl (by decide) SC hcs) d_method_6_code_27 nofun (pc' := 30) rfl rfl rfl rfl (Nat.le_of_eq rfl) (by decide) (by decide) (by decide) (by decide) ?_
  intro b116 T116 L116 K116 tr116
  show Goes p_.tables e_ below_ _ (T116.setTop (mkF m_ 30 #[.val (.ref a), .val (.int st), .val (.int x), .val (.int (Int32.ofNat (szN n)))] [(.int (1 : Int32))]))
  refine k_if_eq K116 d_method_6_code_30 (by decide) (pc' := 118) (pc2 := 33) (by decide) rfl (fun q => absurd q (by decide)) (fun hc30 => ?_)
  refine k_aloadN K116 d_method_6_code_33 (pc' := 34) rfl rfl rfl ?_
  refine k_iloadN K116 d_method_6_code_34 (pc' := 35) rfl rfl ?_
  refine k_iloadN K116 d_method_6_code_35 (pc' := 36) rfl rfl ?_
  refine k_iloadN K116 d_method_6_code_36 (pc' := 37) rfl rfl ?_
  refine k_iconst K116 (3 : Int32) d_method_6_code_37 (pc' := 38) rfl rfl ?_
  refine k_staticP K116 [(.ref a), (.int st), (.int x), (.int (Int32.ofNat (szN n))), (.int (3 : Int32))] [] 0 (w198 hw) (w199 hw) (w170 hw) (w200 hw) (by decide) pd__Ljava_lang_String_IIII_Z_7437 (c_digitOk l Z a0 hw hEW n0 a t kt xs ff cs0 st x sn n 3 3 h0 K116.old SF hff S hl7 hax hst hx hfit hdg rfl (by decide) SC hcs) d_method_6_code_38 nofun (pc' := 41) rfl rfl rfl rfl (Nat.le_of_eq rfl) (by decide) (by decide) (by decide) (by decide) ?_
  intro b117 T117 L117 K117 tr117
  show Goes p_.tables e_ below_ _ (T117.setTop (mkF m_ 41 #[.val (.ref a), .val (.int st), .val (.int x), .val (.int (Int32.ofNat (szN n)))] [(.int (1 : Int32))]))
  refine k_if_eq K117 d_method_6_code_41 (by decide) (pc' := 118) (pc2 := 44) (by decide) rfl (fun q => absurd q (by decide)) (fun hc41 => ?_)
  refine k_aloadN K117 d_method_6_code_44 (pc' := 45) rfl rfl rfl ?_
  refine k_iloadN K117 d_method_6_code_45 (pc' := 46) rfl rfl ?_
  refine k_iloadN K117 d_method_6_code_46 (pc' := 47) rfl rfl ?_
  refine k_iloadN K117 d_method_6_code_47 (pc' := 48) rfl rfl ?_
  refine k_iconst K117 (4 : Int32) d_method_6_code_48 (pc' := 49) rfl rfl ?_
  refine k_staticP K117 [(.ref a), (.int st), (.int x), (.int (Int32.ofNat (szN n))), (.int (4 : Int32))] [] 0 (w198 hw) (w199 hw) (w170 hw) (w200 hw) (by decide) pd__Ljava_lang_String_IIII_Z_7437 (c_digitOk l Z a0 hw hEW n0 a t kt xs ff cs0 st x sn n 4 4 h0 K117.old SF hff S hl7 hax hst hx hfit hdg rfl (by decide) SC hcs) d_method_6_code_49 nofun (pc' := 52) rfl rfl rfl rfl (Nat.le_of_eq rfl) (by decide) (by decide) (by decide) (by decide) ?_
  intro b118 T118 L118 K118 tr118
  show Goes p_.tables e_ below_ _ (T118.setTop (mkF m_ 52 #[.val (.ref a), .val (.int st), .val (.int x), .val (.int (Int32.ofNat (szN n)))] [(.int (1 : Int32))]))
  refine k_if_eq K118 d_method_6_code_52 (by decide) (pc' := 118) (pc2 := 55) (by decide) rfl (fun q => absurd q (by decide)) (fun hc52 => ?_)
  refine k_aloadN K118 d_method_6_code_55 (pc' := 56) rfl rfl rfl ?_
  refine k_iloadN K118 d_method_6_code_56 (pc' := 57) rfl rfl ?_
  refine k_iloadN K118 d_method_6_code_57 (pc' := 58) rfl rfl ?_
  refine k_iloadN K118 d_method_6_code_58 (pc' := 59) rfl rfl ?_
  refine k_iconst K118 (5 : Int32) d_method_6_code_59 (pc' := 60) rfl rfl ?_
  refine k_staticP K118 [(.ref a), (.int st), (.int x), (.int (Int32.ofNat (szN n))), (.int (5 : Int32))] [] 0 (w198 hw) (w199 hw) (w170 hw) (w200 hw) (by decide) pd__Ljava_lang_String_IIII_Z_7437 (c_digitOk l Z a0 hw hEW n0 a t kt xs ff cs0 st x sn n 5 5 h0 K118.old SF hff S hl7 hax hst hx hfit hdg rfl (by decide) SC hcs) d_method_6_code_60 nofun (pc' := 63) rfl rfl rfl rfl (Nat.le_of_eq rfl) (by decide) (by decide) (by decide) (by decide) ?_
  intro b119 T119 L119 K119 tr119
  show Goes p_.tables e_ below_ _ (T119.setTop (mkF m_ 63 #[.val (.ref a), .val (.int st), .val (.int x), .val (.int (Int32.ofNat (szN n)))] [(.int (1 : Int32))]))
  refine k_if_eq K119 d_method_6_code_63 (by decide) (pc' := 118) (pc2 := 66) (by decide) rfl (fun q => absurd q (by decide)) (fun hc63 => ?_)
  refine k_aloadN K119 d_method_6_code_66 (pc' := 67) rfl rfl rfl ?_
  refine k_iloadN K119 d_method_6_code_67 (pc' := 68) rfl rfl ?_
  refine k_iloadN K119 d_method_6_code_68 (pc' := 69) rfl rfl ?_
  refine k_iloadN K119 d_method_6_code_69 (pc' := 70) rfl rfl ?_
  refine k_bipush K119 (6 : Int32) d_method_6_code_70 (pc' := 72) rfl rfl ?_
  refine k_staticP K119 [(.ref a), (.int st), (.int x), (.int (Int32.ofNat (szN n))), (.int (6 : Int32))] [] 0 (w198 hw) (w199 hw) (w170 hw) (w200 hw) (by decide) pd__Ljava_lang_String_IIII_Z_7437 (c_digitOk l Z a0 hw hEW n0 a t kt xs ff cs0 st x sn n 6 6 h0 K119.old SF hff S hl7 hax hst hx hfit hdg rfl (by decide) SC hcs) d_method_6_code_72 nofun (pc' := 75) rfl rfl rfl rfl (Nat.le_of_eq rfl) (by decide) (by decide) (by decide) (by decide) ?_
  intro b120 T120 L120 K120 tr120
  show Goes p_.tables e_ below_ _ (T120.setTop (mkF m_ 75 #[.val (.ref a), .val (.int st), .val (.int x), .val (.int (Int32.ofNat (szN n)))] [(.int (1 : Int32))]))
  refine k_if_eq K120 d_method_6_code_75 (by decide) (pc' := 118) (pc2 := 78) (by decide) rfl (fun q => absurd q (by decide)) (fun hc75 => ?_)
  refine k_aloadN K120 d_method_6_code_78 (pc' := 79) rfl rfl rfl ?_
  refine k_iloadN K120 d_method_6_code_79 (pc' := 80) rfl rfl ?_
  refine k_iloadN K120 d_method_6_code_80 (pc' := 81) rfl rfl ?_
  refine k_iloadN K120 d_method_6_code_81 (pc' := 82) rfl rfl ?_
  refine k_bipush K120 (7 : Int32) d_method_6_code_82 (pc' := 84) rfl rfl ?_
  refine k_staticP K120 [(.ref a), (.int st), (.int x), (.int (Int32.ofNat (szN n))), (.int (7 : Int32))] [] 0 (w198 hw) (w199 hw) (w170 hw) (w200 hw) (by decide) pd__Ljava_lang_String_IIII_Z_7437 (c_digitOk l Z a0 hw hEW n0 a t kt xs ff cs0 st x sn n 7 7 h0 K120.old SF hff S hl7 hax hst hx hfit hdg rfl (by decide) SC hcs) d_method_6_code_84 nofun (pc' := 87) rfl rfl rfl rfl (Nat.le_of_eq rfl) (by decide) (by decide) (by decide) (by decide) ?_
  intro b121 T121 L121 K121 tr121
  show Goes p_.tables e_ below_ _ (T121.setTop (mkF m_ 87 #[.val (.ref a), .val (.int st), .val (.int x), .val (.int (Int32.ofNat (szN n)))] [(.int (1 : Int32))]))
  refine k_if_eq K121 d_method_6_code_87 (by decide) (pc' := 118) (pc2 := 90) (by decide) rfl (fun q => absurd q (by decide)) (fun hc87 => ?_)
  refine k_aloadN K121 d_method_6_code_90 (pc' := 91) rfl rfl rfl ?_
  refine k_iloadN K121 d_method_6_code_91 (pc' := 92) rfl rfl ?_
  refine k_iloadN K121 d_method_6_code_92 (pc' := 93) rfl rfl ?_
  refine k_iloadN K121 d_method_6_code_93 (pc' := 94) rfl rfl ?_
  refine k_bipush K121 (8 : Int32) d_method_6_code_94 (pc' := 96) rfl rfl ?_
  refine k_staticP K121 [(.ref a), (.int st), (.int x), (.int (Int32.ofNat (szN n))), (.int (8 : Int32))] [] 0 (w198 hw) (w199 hw) (w170 hw) (w200 hw) (by decide) pd__Ljava_lang_String_IIII_Z_7437 (c_digitOk l Z a0 hw hEW n0 a t kt xs ff cs0 st x sn n 8 8 h0 K121.old SF hff S hl7 hax hst hx hfit hdg rfl (by decide) SC hcs) d_method_6_code_96 nofun (pc' := 99) rfl rfl rfl rfl (Nat.le_of_eq rfl) (by decide) (by decide) (by decide) (by decide) ?_
  intro b122 T122 L122 K122 tr122
  show Goes p_.tables e_ below_ _ (T122.setTop (mkF m_ 99 #[.val (.ref a), .val (.int st), .val (.int x), .val (.int (Int32.ofNat (szN n)))] [(.int (1 : Int32))]))
  refine k_if_eq K122 d_method_6_code_99 (by decide) (pc' := 118) (pc2 := 102) (by decide) rfl (fun q => absurd q (by decide)) (fun hc99 => ?_)
  refine k_aloadN K122 d_method_6_code_102 (pc' := 103) rfl rfl rfl ?_
  refine k_iloadN K122 d_method_6_code_103 (pc' := 104) rfl rfl ?_
  refine k_iloadN K122 d_method_6_code_104 (pc' := 105) rfl rfl ?_
  refine k_iloadN K122 d_method_6_code_105 (pc' := 106) rfl rfl ?_
  refine k_bipush K122 (9 : Int32) d_method_6_code_106 (pc' := 108) rfl rfl ?_
  refine k_staticP K122 [(.ref a), (.int st), (.int x), (.int (Int32.ofNat (szN n))), (.int (9 : Int32))] [] 0 (w198 hw) (w199 hw) (w170 hw) (w200 hw) (by decide) pd__Ljava_lang_String_IIII_Z_7437 (c_digitOk l Z a0 hw hEW n0 a t kt xs ff cs0 st x sn n 9 9 h0 K122.old SF hff S hl7 hax hst hx hfit hdg rfl (by decide) SC hcs) d_method_6_code_108 nofun (pc' := 111) rfl rfl rfl rfl (Nat.le_of_eq rfl) (by decide) (by decide) (by decide) (by decide) ?_
  intro b123 T123 L123 K123 tr123
  show Goes p_.tables e_ below_ _ (T123.setTop (mkF m_ 111 #[.val (.ref a), .val (.int st), .val (.int x), .val (.int (Int32.ofNat (szN n)))] [(.int (1 : Int32))]))
  refine k_if_eq K123 d_method_6_code_111 (by decide) (pc' := 118) (pc2 := 114) (by decide) rfl (fun q => absurd q (by decide)) (fun hc111 => ?_)
  refine k_iconst K123 (1 : Int32) d_method_6_code_114 (pc' := 115) rfl rfl ?_
  refine k_goto K123 d_method_6_code_115 (by decide) (pc' := 119) (by decide) ?_
  exact k_nret K123 d_method_6_code_119 rfl (by simp) rfl (fun sf ht => ⟨rfl, rfl⟩) (by decide) (by decide)
def txt (n1 n2 : Nat) : List Int32 := ((([108, 105, 110, 101, 32] : List Int32) ++ dgs n1) ++ ([44, 32, 99, 111, 108, 117, 109, 110, 32] : List Int32)) ++ dgs n2
theorem own_gl {xs ys : List Int32} {j : Nat} (h : j < xs.length) : (xs ++ ys).getD j 0 = xs.getD j 0 := by simp [List.getD_eq_getElem?_getD, List.getElem?_append_left h]
theorem own_gr {xs ys : List Int32} {i j : Nat} (h : i = xs.length + j) : (xs ++ ys).getD i 0 = ys.getD j 0 := by subst h; rw [List.getD_eq_getElem?_getD, List.getD_eq_getElem?_getD, List.getElem?_append_right (Nat.le_add_right _ _), Nat.add_sub_cancel_left]
theorem own_get {xs : List Int32} {j : Nat} {v : Int32} (h : j < xs.length) (e : xs.getD j 0 = v) : xs[j] = v := by rw [← e]; simp [List.getD_eq_getElem?_getD, h]
theorem dgs_at {n j : Nat} (h : j < szN n) : (dgs n).getD j 0 = dig n (szN n - 1 - j) := by simp [dgs, List.getD_eq_getElem?_getD, h]
theorem txt_l (n1 n2 : Nat) : (txt n1 n2).length = 14 + szN n1 + szN n2 := by simp only [txt, List.length_append, dgs_l, List.length_cons, List.length_nil]; omega
theorem txt_a (n1 n2 : Nat) : ∀ x ∈ txt n1 n2, 0 ≤ x.toInt ∧ x.toInt < 128 := by
  intro x hx
  have hd : ∀ n, x ∈ dgs n → 0 ≤ x.toInt ∧ x.toInt < 128 := fun n h => by
    obtain ⟨i, -, rfl⟩ := List.mem_map.mp h
    exact dig_b _ _
  unfold txt at hx
  rcases List.mem_append.mp hx with hx | hx
  · rcases List.mem_append.mp hx with hx | hx
    · rcases List.mem_append.mp hx with hx | hx
      · exact (by decide : ∀ x ∈ ([108, 105, 110, 101, 32] : List Int32), 0 ≤ x.toInt ∧ x.toInt < 128) x hx
      · exact hd _ hx
    · exact (by decide : ∀ x ∈ ([44, 32, 99, 111, 108, 117, 109, 110, 32] : List Int32), 0 ≤ x.toInt ∧ x.toInt < 128) x hx
  · exact hd _ hx
theorem txt_p (n1 n2 : Nat) (j : Nat) (h : j < 5) : (txt n1 n2).getD j 0 = ([108, 105, 110, 101, 32] : List Int32).getD j 0 := by
  unfold txt
  rw [own_gl (by simp only [List.length_append, dgs_l, List.length_cons, List.length_nil]; omega), own_gl (by simp only [List.length_append, dgs_l, List.length_cons, List.length_nil]; omega), own_gl (by simp only [List.length_cons, List.length_nil]; omega)]
theorem txt_1 (n1 n2 : Nat) (k : Nat) (h : k < szN n1) : (txt n1 n2).getD (5 + szN n1 - 1 - k) 0 = dig n1 k := by
  unfold txt
  rw [own_gl (by simp only [List.length_append, dgs_l, List.length_cons, List.length_nil]; omega), own_gl (by simp only [List.length_append, dgs_l, List.length_cons, List.length_nil]; omega), own_gr (j := szN n1 - 1 - k) (by simp only [List.length_cons, List.length_nil]; omega), dgs_at (by omega)]
  congr 1; omega
theorem txt_m (n1 n2 : Nat) (j : Nat) (h : j < 9) : (txt n1 n2).getD (5 + szN n1 + j) 0 = ([44, 32, 99, 111, 108, 117, 109, 110, 32] : List Int32).getD j 0 := by
  unfold txt
  rw [own_gl (by simp only [List.length_append, dgs_l, List.length_cons, List.length_nil]; omega), own_gr (j := j) (by simp only [List.length_append, dgs_l, List.length_cons, List.length_nil])]
theorem txt_2 (n1 n2 : Nat) (k : Nat) (h : k < szN n2) : (txt n1 n2).getD (14 + szN n1 + szN n2 - 1 - k) 0 = dig n2 k := by
  unfold txt
  rw [own_gr (j := szN n2 - 1 - k) (by simp only [List.length_append, dgs_l, List.length_cons, List.length_nil]; omega), dgs_at (by omega)]
  congr 1; omega
theorem own_max1 (x : Int32) : ∃ n : Nat, (if (1 : Int32) < (x &&& (2147483647 : Int32)) then (x &&& (2147483647 : Int32)) else (1 : Int32)).toInt = n ∧ 1 ≤ n := by
  by_cases q : (1 : Int32) < (x &&& (2147483647 : Int32))
  · rw [if_pos q]; rw [own_i32, own_1] at q; exact ⟨(x &&& 2147483647).toInt.toNat, by omega, by omega⟩
  · rw [if_neg q]; exact ⟨1, by decide, by decide⟩
theorem w0 {Z : State} {a0 : Array Value} (hw : Tb a0 Z) : (Jvm.Cond.constant "com/example/object_sieve/objectsieve/query/TextPositionToStringPinLaw" (7 : Nat) (2147483647 : Int32)).before a0 Z = true := hw _ (List.mem_of_getElem? (i := 0) rfl)
theorem w1 {Z : State} {a0 : Array Value} (hw : Tb a0 Z) : (Jvm.Cond.methodLink "com/example/object_sieve/objectsieve/query/TextPositionToStringPinLaw" (8 : Nat) ({ cls := "java/lang/Math", name := "max", desc := "(II)I" } : Jvm.MethodName)).before a0 Z = true := hw _ (List.mem_of_getElem? (i := 1) rfl)
theorem w5 {Z : State} {a0 : Array Value} (hw : Tb a0 Z) : (Jvm.Cond.classLink "com/example/object_sieve/objectsieve/query/TextPositionToStringPinLaw" (14 : Nat) "com/example/object_sieve/objectsieve/query/TextPosition").before a0 Z = true := hw _ (List.mem_of_getElem? (i := 5) rfl)
theorem w7 {Z : State} {a0 : Array Value} (hw : Tb a0 Z) : (Jvm.Cond.initialized "com/example/object_sieve/objectsieve/query/TextPosition").before a0 Z = true := hw _ (List.mem_of_getElem? (i := 7) rfl)
theorem w8 {Z : State} {a0 : Array Value} (hw : Tb a0 Z) : (Jvm.Cond.methodLink "com/example/object_sieve/objectsieve/query/TextPositionToStringPinLaw" (16 : Nat) ({ cls := "com/example/object_sieve/objectsieve/query/TextPosition", name := "<init>", desc := "(II)V" } : Jvm.MethodName)).before a0 Z = true := hw _ (List.mem_of_getElem? (i := 8) rfl)
theorem w10 {Z : State} {a0 : Array Value} (hw : Tb a0 Z) : (Jvm.Cond.code ({ cls := "com/example/object_sieve/objectsieve/query/TextPosition", name := "<init>", desc := "(II)V" } : Jvm.MethodName) prog_8_method_1_code (3 : Nat) (Option.none : Option Jvm.ClassFile.FieldType)).before a0 Z = true := hw _ (List.mem_of_getElem? (i := 10) rfl)
theorem w9 {Z : State} {a0 : Array Value} (hw : Tb a0 Z) : (Jvm.Cond.instanceMethod ({ cls := "com/example/object_sieve/objectsieve/query/TextPosition", name := "<init>", desc := "(II)V" } : Jvm.MethodName)).before a0 Z = true := hw _ (List.mem_of_getElem? (i := 9) rfl)
theorem w23 {Z : State} {a0 : Array Value} (hw : Tb a0 Z) : (Jvm.Cond.methodLink "com/example/object_sieve/objectsieve/query/TextPositionToStringPinLaw" (19 : Nat) ({ cls := "com/example/object_sieve/objectsieve/query/TextPosition", name := "toString", desc := "()Ljava/lang/String;" } : Jvm.MethodName)).before a0 Z = true := hw _ (List.mem_of_getElem? (i := 23) rfl)
theorem w27 {Z : State} {a0 : Array Value} (hw : Tb a0 Z) : (Jvm.Cond.code ({ cls := "com/example/object_sieve/objectsieve/query/TextPosition", name := "toString", desc := "()Ljava/lang/String;" } : Jvm.MethodName) prog_8_method_3_code (1 : Nat) (Option.some (Jvm.ClassFile.FieldType.object "java/lang/String"))).before a0 Z = true := hw _ (List.mem_of_getElem? (i := 27) rfl)
theorem w26 {Z : State} {a0 : Array Value} (hw : Tb a0 Z) : (Jvm.Cond.selects "com/example/object_sieve/objectsieve/query/TextPosition" ({ cls := "com/example/object_sieve/objectsieve/query/TextPosition", name := "toString", desc := "()Ljava/lang/String;" } : Jvm.MethodName) ({ cls := "com/example/object_sieve/objectsieve/query/TextPosition", name := "toString", desc := "()Ljava/lang/String;" } : Jvm.MethodName)).before a0 Z = true := hw _ (List.mem_of_getElem? (i := 26) rfl)
theorem w24 {Z : State} {a0 : Array Value} (hw : Tb a0 Z) : (Jvm.Cond.declares ({ cls := "com/example/object_sieve/objectsieve/query/TextPosition", name := "toString", desc := "()Ljava/lang/String;" } : Jvm.MethodName)).before a0 Z = true := hw _ (List.mem_of_getElem? (i := 24) rfl)
theorem w25 {Z : State} {a0 : Array Value} (hw : Tb a0 Z) : (Jvm.Cond.instanceMethod ({ cls := "com/example/object_sieve/objectsieve/query/TextPosition", name := "toString", desc := "()Ljava/lang/String;" } : Jvm.MethodName)).before a0 Z = true := hw _ (List.mem_of_getElem? (i := 25) rfl)
theorem w168 {Z : State} {a0 : Array Value} (hw : Tb a0 Z) : (Jvm.Cond.methodLink "com/example/object_sieve/objectsieve/query/TextPositionToStringPinLaw" (23 : Nat) ({ cls := "com/example/object_sieve/objectsieve/query/TextPositionToStringPinLaw", name := "numDigits", desc := "(I)I" } : Jvm.MethodName)).before a0 Z = true := hw _ (List.mem_of_getElem? (i := 168) rfl)
theorem w171 {Z : State} {a0 : Array Value} (hw : Tb a0 Z) : (Jvm.Cond.code ({ cls := "com/example/object_sieve/objectsieve/query/TextPositionToStringPinLaw", name := "numDigits", desc := "(I)I" } : Jvm.MethodName) method_3_code (1 : Nat) (Option.some Jvm.ClassFile.FieldType.int)).before a0 Z = true := hw _ (List.mem_of_getElem? (i := 171) rfl)
theorem w169 {Z : State} {a0 : Array Value} (hw : Tb a0 Z) : (Jvm.Cond.static ({ cls := "com/example/object_sieve/objectsieve/query/TextPositionToStringPinLaw", name := "numDigits", desc := "(I)I" } : Jvm.MethodName)).before a0 Z = true := hw _ (List.mem_of_getElem? (i := 169) rfl)
theorem w172 {Z : State} {a0 : Array Value} (hw : Tb a0 Z) : (Jvm.Cond.methodLink "com/example/object_sieve/objectsieve/query/TextPositionToStringPinLaw" (29 : Nat) ({ cls := "java/lang/String", name := "length", desc := "()I" } : Jvm.MethodName)).before a0 Z = true := hw _ (List.mem_of_getElem? (i := 172) rfl)
theorem w195 {Z : State} {a0 : Array Value} (hw : Tb a0 Z) : (Jvm.Cond.methodLink "com/example/object_sieve/objectsieve/query/TextPositionToStringPinLaw" (39 : Nat) ({ cls := "com/example/object_sieve/objectsieve/query/TextPositionToStringPinLaw", name := "digitsOk", desc := "(Ljava/lang/String;III)Z" } : Jvm.MethodName)).before a0 Z = true := hw _ (List.mem_of_getElem? (i := 195) rfl)
theorem w197 {Z : State} {a0 : Array Value} (hw : Tb a0 Z) : (Jvm.Cond.code ({ cls := "com/example/object_sieve/objectsieve/query/TextPositionToStringPinLaw", name := "digitsOk", desc := "(Ljava/lang/String;III)Z" } : Jvm.MethodName) method_6_code (4 : Nat) (Option.some Jvm.ClassFile.FieldType.boolean)).before a0 Z = true := hw _ (List.mem_of_getElem? (i := 197) rfl)
theorem w196 {Z : State} {a0 : Array Value} (hw : Tb a0 Z) : (Jvm.Cond.static ({ cls := "com/example/object_sieve/objectsieve/query/TextPositionToStringPinLaw", name := "digitsOk", desc := "(Ljava/lang/String;III)Z" } : Jvm.MethodName)).before a0 Z = true := hw _ (List.mem_of_getElem? (i := 196) rfl)
theorem pd__Ljava_lang_String_III_Z_5627 : parseMethodDescriptor "(Ljava/lang/String;III)Z" = some ⟨[(.object "java/lang/String"), .int, .int, .int], some .boolean⟩ := by decide +kernel
set_option maxRecDepth 65536 in
set_option maxHeartbeats 40000000 in
theorem c_law (l : Launch) (Z : State) (a0 : Array Value) (hw : Tb a0 Z) (hEW : EW Z a0 EL0) (n0 : Nat) (xa xb : Int32) (ff : Value) (od td : Addr) (ko kt_ : ClassId) (OL TL : List Value) (cs0 : Int32) (h0 : Heap) (O : Old Z n0 h0) (SF : Sta Z Z.heap "jdk/internal/util/Preconditions" "SIOOBE_FORMATTER" "Ljava/util/function/BiFunction;" ff) (hff : ff.isRef = true) (SO : Sta Z Z.heap "java/lang/Integer" "DigitOnes" "[B" (.ref od)) (VO : Arv Z Z.heap od ko .byte 100 OL (.int 0)) (hO : ∀ r, r < 100 → OL.getD r (.int 0) = .int (Int32.ofNat (48 + r % 10))) (ST_ : Sta Z Z.heap "java/lang/Integer" "DigitTens" "[B" (.ref td)) (VT_ : Arv Z Z.heap td kt_ .byte 100 TL (.int 0)) (hT : ∀ r, r < 100 → TL.getD r (.int 0) = .int (Int32.ofNat (48 + r / 10))) (SC : Sta Z Z.heap "java/lang/String" "COMPACT_STRINGS" "Z" (.int cs0)) (hcs : ¬ cs0 = 0) :
    Ct l Z EL0 n0 x code maxLocals ret room_1 #[(.int xa), (.int xb)] h0 [] (fun v _ _ => v = some (.int 1) ∧ True) := by
  refine Ct.of (a0 := a0) #[.val (.int xa), .val (.int xb), .unset, .unset, .unset, .unset, .unset, .unset, .unset, .unset] hEW O (plainFor_of_name pl_com_example_object_sieve_objectsieve_query_TextPositionToStringPinLaw) (fun m => by first | (simp [entryFrame, mkF, argsToLocals, Value.category, maxLocals]; done) | rfl) ?_
  intro p_ e_ s_ m_ below_ meth_ c_ b_ T_ K hSP
  refine k_iconst K (1 : Int32) at_0 (pc' := 1) rfl rfl ?_
  refine k_iloadN K at_1 (pc' := 2) rfl rfl ?_
  refine k_ldcI K (w0 hw) at_2 (pc' := 4) rfl ?_
  refine k_iand K at_4 (pc' := 5) rfl ?_
  refine k_staticP K [(.int (1 : Int32)), (.int (xa &&& (2147483647 : Int32)))] [] 0 (w1 hw) (w2 hw) (w3 hw) (w4 hw) (by decide) pd__II_I_934 (c_max l Z a0 hw hEW n0 1 (xa &&& (2147483647 : Int32)) h0 K.old ) at_5 nofun (pc' := 8) rfl rfl rfl rfl (Nat.le_of_eq rfl) (by decide) (by decide) (by decide) (by decide) ?_
  intro b124 T124 L124 K124 tr124
  show Goes p_.tables e_ below_ _ (T124.setTop (mkF m_ 8 #[.val (.int xa), .val (.int xb), .unset, .unset, .unset, .unset, .unset, .unset, .unset, .unset] [(.int (if (1 : Int32) < (xa &&& (2147483647 : Int32)) then (xa &&& (2147483647 : Int32)) else (1 : Int32)))]))
  obtain ⟨n1, e1, g1⟩ := own_max1 xa
  generalize (if (1 : Int32) < (xa &&& (2147483647 : Int32)) then (xa &&& (2147483647 : Int32)) else (1 : Int32)) = li at e1 ⊢
  refine k_istoreN K124 at_8 (pc' := 9) (L' := #[.val (.int xa), .val (.int xb), .val (.int li), .unset, .unset, .unset, .unset, .unset, .unset, .unset]) rfl rfl ?_
  refine k_iconst K124 (1 : Int32) at_9 (pc' := 10) rfl rfl ?_
  refine k_iloadN K124 at_10 (pc' := 11) rfl rfl ?_
  refine k_ldcI K124 (w0 hw) at_11 (pc' := 13) rfl ?_
  refine k_iand K124 at_13 (pc' := 14) rfl ?_
  refine k_staticP K124 [(.int (1 : Int32)), (.int (xb &&& (2147483647 : Int32)))] [] 0 (w1 hw) (w2 hw) (w3 hw) (w4 hw) (by decide) pd__II_I_934 (c_max l Z a0 hw hEW n0 1 (xb &&& (2147483647 : Int32)) h0 K124.old ) at_14 nofun (pc' := 17) rfl rfl rfl rfl (Nat.le_of_eq rfl) (by decide) (by decide) (by decide) (by decide) ?_
  intro b125 T125 L125 K125 tr125
  show Goes p_.tables e_ below_ _ (T125.setTop (mkF m_ 17 #[.val (.int xa), .val (.int xb), .val (.int li), .unset, .unset, .unset, .unset, .unset, .unset, .unset] [(.int (if (1 : Int32) < (xb &&& (2147483647 : Int32)) then (xb &&& (2147483647 : Int32)) else (1 : Int32)))]))
  obtain ⟨n2, e2, g2⟩ := own_max1 xb
  generalize (if (1 : Int32) < (xb &&& (2147483647 : Int32)) then (xb &&& (2147483647 : Int32)) else (1 : Int32)) = ci at e2 ⊢
  have z1 := szN_b n1
  have z2 := szN_b n2
  have o1 := own_of (n := szN n1) (by omega)
  have o2 := own_of (n := szN n2) (by omega)
  refine k_istoreN K125 at_17 (pc' := 18) (L' := #[.val (.int xa), .val (.int xb), .val (.int li), .val (.int ci), .unset, .unset, .unset, .unset, .unset, .unset]) rfl rfl ?_
  refine k_new K125 (w5 hw) (w6 hw) (w7 hw) at_18 (pc' := 21) rfl (by decide) (by decide) ?_
  intro T126 h126 a126 g126 K126 E126 tr126 sf_a126 X_a126 D126 U126
  have ga_a126 : n0 ≤ a126 := own_old K125.old g126
  have F_a126_line : Fld Z h126 a126 "com/example/object_sieve/objectsieve/query/TextPosition" "line" "I" (.int (0 : Int32)) := D126 (Or.inr (w20 hw)) (ty := .int) (by decide)
  have F_a126_column : Fld Z h126 a126 "com/example/object_sieve/objectsieve/query/TextPosition" "column" "I" (.int (0 : Int32)) := D126 (Or.inr (w22 hw)) (ty := .int) (by decide)
  refine k_dup K126 at_21 (pc' := 22) rfl rfl ?_
  refine k_iloadN K126 at_22 (pc' := 23) rfl rfl ?_
  refine k_iloadN K126 at_23 (pc' := 24) rfl rfl ?_
  refine k_special K126 [(.int li), (.int ci)] [(.ref a126)] 1 (w8 hw) (w9 hw) (w7 hw) (w10 hw) rfl rfl (by decide) pd__II_V_999 (c_tpinit l Z a0 hw hEW n0 a126 li ci _ _ h126 K126.old X_a126 F_a126_line F_a126_column ga_a126 (by rw [own_i32, e1, own_1]; omega) (by rw [own_i32, e2, own_1]; omega)) at_24 (fun x hx => by cases List.mem_singleton.mp hx; exact ⟨X_a126.lt, sf_a126⟩) (pc' := 27) rfl rfl rfl rfl (Nat.le_of_eq rfl) (by decide) (by decide) (by decide) (by decide) ?_
  intro b127 T127 h127 L127 v127 K127 tr127 q127
  obtain ⟨rfl, X_q, F_l, F_c⟩ := q127
  show Goes p_.tables e_ below_ _ (T127.setTop (mkF m_ 27 #[.val (.int xa), .val (.int xb), .val (.int li), .val (.int ci), .unset, .unset, .unset, .unset, .unset, .unset] [(.ref a126)]))
  refine k_virtual K127 [] [] 0 (w23 hw) (w24 hw) (w25 hw) (w26 hw) (w7 hw) (w27 hw) (notFace_of_selects (args := #[]) (mvT K127.hZ (w26 hw))) rfl (by decide) X_q (by decide) pd___Ljava_lang_String__9676 (c_tpstr l Z a0 hw hEW n0 a126 li ci n1 n2 od td ko kt_ OL TL cs0 h127 K127.old F_l F_c e1 e2 g1 g2 SO VO hO ST_ VT_ hT SC hcs) at_27 nofun (pc' := 30) rfl rfl rfl rfl (Nat.le_of_eq rfl) (by decide) (by decide) (by decide) (by decide) ?_
  intro b128 T128 h128 L128 v128 K128 tr128 q128
  obtain ⟨sa, ta, kt, rfl, S⟩ := q128
  replace S : Str Z h128 sa ta kt 0 (Int32.ofNat (txt n1 n2).length) ((txt n1 n2).map Value.int) := S
  have hl7 : (txt n1 n2).length ≤ 70 := by rw [txt_l]; omega
  have hax := txt_a n1 n2
  show Goes p_.tables e_ below_ _ (T128.setTop (mkF m_ 30 #[.val (.int xa), .val (.int xb), .val (.int li), .val (.int ci), .unset, .unset, .unset, .unset, .unset, .unset] [(.ref sa)]))
  refine k_astore K128 at_30 (pc' := 32) (L' := #[.val (.int xa), .val (.int xb), .val (.int li), .val (.int ci), .val (.ref sa), .unset, .unset, .unset, .unset, .unset]) rfl rfl rfl ?_
  refine k_iloadN K128 at_32 (pc' := 33) rfl rfl ?_
  refine k_staticP K128 [(.int li)] [] 0 (w168 hw) (w169 hw) (w170 hw) (w171 hw) (by decide) pd__I_I_601 (c_numDigits l Z a0 hw hEW n0 li n1 h128 K128.old e1) at_33 nofun (pc' := 36) rfl rfl rfl rfl (Nat.le_of_eq rfl) (by decide) (by decide) (by decide) (by decide) ?_
  intro b129 T129 L129 K129 tr129
  show Goes p_.tables e_ below_ _ (T129.setTop (mkF m_ 36 #[.val (.int xa), .val (.int xb), .val (.int li), .val (.int ci), .val (.ref sa), .unset, .unset, .unset, .unset, .unset] [(.int (Int32.ofNat (szN n1)))]))
  refine k_istore K129 at_36 (pc' := 38) (L' := #[.val (.int xa), .val (.int xb), .val (.int li), .val (.int ci), .val (.ref sa), .val (.int (Int32.ofNat (szN n1))), .unset, .unset, .unset, .unset]) rfl rfl ?_
  refine k_iloadN K129 at_38 (pc' := 39) rfl rfl ?_
  refine k_staticP K129 [(.int ci)] [] 0 (w168 hw) (w169 hw) (w170 hw) (w171 hw) (by decide) pd__I_I_601 (c_numDigits l Z a0 hw hEW n0 ci n2 h128 K129.old e2) at_39 nofun (pc' := 42) rfl rfl rfl rfl (Nat.le_of_eq rfl) (by decide) (by decide) (by decide) (by decide) ?_
  intro b130 T130 L130 K130 tr130
  show Goes p_.tables e_ below_ _ (T130.setTop (mkF m_ 42 #[.val (.int xa), .val (.int xb), .val (.int li), .val (.int ci), .val (.ref sa), .val (.int (Int32.ofNat (szN n1))), .unset, .unset, .unset, .unset] [(.int (Int32.ofNat (szN n2)))]))
  refine k_istore K130 at_42 (pc' := 44) (L' := #[.val (.int xa), .val (.int xb), .val (.int li), .val (.int ci), .val (.ref sa), .val (.int (Int32.ofNat (szN n1))), .val (.int (Int32.ofNat (szN n2))), .unset, .unset, .unset]) rfl rfl ?_
  refine k_aload K130 at_44 (pc' := 46) rfl rfl rfl ?_
  refine k_virtualP K130 [] [] 0 (w172 hw) (w65 hw) (w66 hw) (w67 hw) (w42 hw) (w68 hw) (notFace_of_selects (args := #[]) (mvT K130.hZ (w67 hw))) rfl (by decide) S.1 (by decide) pd___I_341 (c_length l Z a0 hw hEW n0 sa ta kt 0 _ _ cs0 h128 K130.old S (Or.inl rfl) SC hcs) at_46 nofun (pc' := 49) rfl rfl rfl rfl (Nat.le_of_eq rfl) (by decide) (by decide) (by decide) (by decide) ?_
  intro b131 T131 L131 K131 tr131
  show Goes p_.tables e_ below_ _ (T131.setTop (mkF m_ 49 #[.val (.int xa), .val (.int xb), .val (.int li), .val (.int ci), .val (.ref sa), .val (.int (Int32.ofNat (szN n1))), .val (.int (Int32.ofNat (szN n2))), .unset, .unset, .unset] [(.int ((Int32.ofNat (txt n1 n2).length) >>> ((0 : Int32) &&& 31)))]))
  refine k_bipush K131 (14 : Int32) at_49 (pc' := 51) rfl rfl ?_
  refine k_iload K131 at_51 (pc' := 53) rfl rfl ?_
  refine k_iadd K131 at_53 (pc' := 54) rfl ?_
  refine k_iload K131 at_54 (pc' := 56) rfl rfl ?_
  refine k_iadd K131 at_56 (pc' := 57) rfl ?_
  refine k_icmp_eq K131 at_57 (by decide) (pc' := 62) (pc2 := 60) (by decide) rfl (fun hc57 => ?_) (fun q => absurd (by rw [own_shr0, txt_l]; exact own_i32e ((own_of (by omega)).trans (own_sum2 (own_sum2 (show (14 : Int32).toInt = (14 : Nat) by decide) o1 (by omega)) o2 (by omega)).symm)) q)
  refine k_aload K131 at_62 (pc' := 64) rfl rfl rfl ?_
  refine k_iconst K131 (0 : Int32) at_64 (pc' := 65) rfl rfl ?_
  have hj0 : 0 < (txt n1 n2).length := by rw [txt_l]; omega
  have hi0 : ((0 : Int32)).toInt = (0 : Nat) := (by decide)
  refine k_virtualP K131 [(.int (0 : Int32))] [] 0 (w173 hw) (w174 hw) (w175 hw) (w176 hw) (w42 hw) (w177 hw) (notFace_of_selects (args := #[]) (mvT K131.hZ (w176 hw))) rfl (by decide) S.1 (by decide) pd__I_C_577 (c_charAtB l Z a0 hw hEW n0 sa ta kt (txt n1 n2) ff cs0 (0 : Int32) (0) h128 K131.old SF hff S hl7 hax hi0 hj0 SC hcs) at_65 nofun (pc' := 68) rfl rfl rfl rfl (Nat.le_of_eq rfl) (by decide) (by decide) (by decide) (by decide) ?_
  intro b132 T132 L132 K132 tr132
  show Goes p_.tables e_ below_ _ (T132.setTop (mkF m_ 68 #[.val (.int xa), .val (.int xb), .val (.int li), .val (.int ci), .val (.ref sa), .val (.int (Int32.ofNat (szN n1))), .val (.int (Int32.ofNat (szN n2))), .unset, .unset, .unset] [(.int ((txt n1 n2)[0]'hj0))]))
  rw [own_get hj0 (show (txt n1 n2).getD (0) 0 = (108 : Int32) from txt_p n1 n2 0 (by decide))]
  refine k_bipush K132 (108 : Int32) at_68 (pc' := 70) rfl rfl ?_
  refine k_icmp_ne K132 at_70 (by decide) (pc' := 121) (pc2 := 73) (by decide) rfl (fun q => absurd (by decide) q) (fun hc70 => ?_)
  refine k_aload K132 at_73 (pc' := 75) rfl rfl rfl ?_
  refine k_iconst K132 (1 : Int32) at_75 (pc' := 76) rfl rfl ?_
  have hj1 : 1 < (txt n1 n2).length := by rw [txt_l]; omega
  have hi1 : ((1 : Int32)).toInt = (1 : Nat) := (by decide)
  refine k_virtualP K132 [(.int (1 : Int32))] [] 0 (w173 hw) (w174 hw) (w175 hw) (w176 hw) (w42 hw) (w177 hw) (notFace_of_selects (args := #[]) (mvT K132.hZ (w176 hw))) rfl (by decide) S.1 (by decide) pd__I_C_577 (c_charAtB l Z a0 hw hEW n0 sa ta kt (txt n1 n2) ff cs0 (1 : Int32) (1) h128 K132.old SF hff S hl7 hax hi1 hj1 SC hcs) at_76 nofun (pc' := 79) rfl rfl rfl rfl (Nat.le_of_eq rfl) (by decide) (by decide) (by decide) (by decide) ?_
  intro b133 T133 L133 K133 tr133
  show Goes p_.tables e_ below_ _ (T133.setTop (mkF m_ 79 #[.val (.int xa), .val (.int xb), .val (.int li), .val (.int ci), .val (.ref sa), .val (.int (Int32.ofNat (szN n1))), .val (.int (Int32.ofNat (szN n2))), .unset, .unset, .unset] [(.int ((txt n1 n2)[1]'hj1))]))
  rw [own_get hj1 (show (txt n1 n2).getD (1) 0 = (105 : Int32) from txt_p n1 n2 1 (by decide))]
  refine k_bipush K133 (105 : Int32) at_79 (pc' := 81) rfl rfl ?_
  refine k_icmp_ne K133 at_81 (by decide) (pc' := 121) (pc2 := 84) (by decide) rfl (fun q => absurd (by decide) q) (fun hc81 => ?_)
  refine k_aload K133 at_84 (pc' := 86) rfl rfl rfl ?_
  refine k_iconst K133 (2 : Int32) at_86 (pc' := 87) rfl rfl ?_
  have hj2 : 2 < (txt n1 n2).length := by rw [txt_l]; omega
  have hi2 : ((2 : Int32)).toInt = (2 : Nat) := (by decide)
  refine k_virtualP K133 [(.int (2 : Int32))] [] 0 (w173 hw) (w174 hw) (w175 hw) (w176 hw) (w42 hw) (w177 hw) (notFace_of_selects (args := #[]) (mvT K133.hZ (w176 hw))) rfl (by decide) S.1 (by decide) pd__I_C_577 (c_charAtB l Z a0 hw hEW n0 sa ta kt (txt n1 n2) ff cs0 (2 : Int32) (2) h128 K133.old SF hff S hl7 hax hi2 hj2 SC hcs) at_87 nofun (pc' := 90) rfl rfl rfl rfl (Nat.le_of_eq rfl) (by decide) (by decide) (by decide) (by decide) ?_
  intro b134 T134 L134 K134 tr134
  show Goes p_.tables e_ below_ _ (T134.setTop (mkF m_ 90 #[.val (.int xa), .val (.int xb), .val (.int li), .val (.int ci), .val (.ref sa), .val (.int (Int32.ofNat (szN n1))), .val (.int (Int32.ofNat (szN n2))), .unset, .unset, .unset] [(.int ((txt n1 n2)[2]'hj2))]))
  rw [own_get hj2 (show (txt n1 n2).getD (2) 0 = (110 : Int32) from txt_p n1 n2 2 (by decide))]
  refine k_bipush K134 (110 : Int32) at_90 (pc' := 92) rfl rfl ?_
  refine k_icmp_ne K134 at_92 (by decide) (pc' := 121) (pc2 := 95) (by decide) rfl (fun q => absurd (by decide) q) (fun hc92 => ?_)
  refine k_aload K134 at_95 (pc' := 97) rfl rfl rfl ?_
  refine k_iconst K134 (3 : Int32) at_97 (pc' := 98) rfl rfl ?_
  have hj3 : 3 < (txt n1 n2).length := by rw [txt_l]; omega
  have hi3 : ((3 : Int32)).toInt = (3 : Nat) := (by decide)
  refine k_virtualP K134 [(.int (3 : Int32))] [] 0 (w173 hw) (w174 hw) (w175 hw) (w176 hw) (w42 hw) (w177 hw) (notFace_of_selects (args := #[]) (mvT K134.hZ (w176 hw))) rfl (by decide) S.1 (by decide) pd__I_C_577 (c_charAtB l Z a0 hw hEW n0 sa ta kt (txt n1 n2) ff cs0 (3 : Int32) (3) h128 K134.old SF hff S hl7 hax hi3 hj3 SC hcs) at_98 nofun (pc' := 101) rfl rfl rfl rfl (Nat.le_of_eq rfl) (by decide) (by decide) (by decide) (by decide) ?_
  intro b135 T135 L135 K135 tr135
  show Goes p_.tables e_ below_ _ (T135.setTop (mkF m_ 101 #[.val (.int xa), .val (.int xb), .val (.int li), .val (.int ci), .val (.ref sa), .val (.int (Int32.ofNat (szN n1))), .val (.int (Int32.ofNat (szN n2))), .unset, .unset, .unset] [(.int ((txt n1 n2)[3]'hj3))]))
  rw [own_get hj3 (show (txt n1 n2).getD (3) 0 = (101 : Int32) from txt_p n1 n2 3 (by decide))]
  refine k_bipush K135 (101 : Int32) at_101 (pc' := 103) rfl rfl ?_
  refine k_icmp_ne K135 at_103 (by decide) (pc' := 121) (pc2 := 106) (by decide) rfl (fun q => absurd (by decide) q) (fun hc103 => ?_)
  refine k_aload K135 at_106 (pc' := 108) rfl rfl rfl ?_
  refine k_iconst K135 (4 : Int32) at_108 (pc' := 109) rfl rfl ?_
  have hj4 : 4 < (txt n1 n2).length := by rw [txt_l]; omega
  have hi4 : ((4 : Int32)).toInt = (4 : Nat) := (by decide)
  refine k_virtualP K135 [(.int (4 : Int32))] [] 0 (w173 hw) (w174 hw) (w175 hw) (w176 hw) (w42 hw) (w177 hw) (notFace_of_selects (args := #[]) (mvT K135.hZ (w176 hw))) rfl (by decide) S.1 (by decide) pd__I_C_577 (c_charAtB l Z a0 hw hEW n0 sa ta kt (txt n1 n2) ff cs0 (4 : Int32) (4) h128 K135.old SF hff S hl7 hax hi4 hj4 SC hcs) at_109 nofun (pc' := 112) rfl rfl rfl rfl (Nat.le_of_eq rfl) (by decide) (by decide) (by decide) (by decide) ?_
  intro b136 T136 L136 K136 tr136
  show Goes p_.tables e_ below_ _ (T136.setTop (mkF m_ 112 #[.val (.int xa), .val (.int xb), .val (.int li), .val (.int ci), .val (.ref sa), .val (.int (Int32.ofNat (szN n1))), .val (.int (Int32.ofNat (szN n2))), .unset, .unset, .unset] [(.int ((txt n1 n2)[4]'hj4))]))
  rw [own_get hj4 (show (txt n1 n2).getD (4) 0 = (32 : Int32) from txt_p n1 n2 4 (by decide))]
  refine k_bipush K136 (32 : Int32) at_112 (pc' := 114) rfl rfl ?_
  refine k_icmp_ne K136 at_114 (by decide) (pc' := 121) (pc2 := 117) (by decide) rfl (fun q => absurd (by decide) q) (fun hc114 => ?_)
  refine k_iconst K136 (1 : Int32) at_117 (pc' := 118) rfl rfl ?_
  refine k_goto K136 at_118 (by decide) (pc' := 122) (by decide) ?_
  refine k_istore K136 at_122 (pc' := 124) (L' := #[.val (.int xa), .val (.int xb), .val (.int li), .val (.int ci), .val (.ref sa), .val (.int (Int32.ofNat (szN n1))), .val (.int (Int32.ofNat (szN n2))), .val (.int (1 : Int32)), .unset, .unset]) rfl rfl ?_
  refine k_iconst K136 (5 : Int32) at_124 (pc' := 125) rfl rfl ?_
  refine k_iload K136 at_125 (pc' := 127) rfl rfl ?_
  refine k_iadd K136 at_127 (pc' := 128) rfl ?_
  refine k_istore K136 at_128 (pc' := 130) (L' := #[.val (.int xa), .val (.int xb), .val (.int li), .val (.int ci), .val (.ref sa), .val (.int (Int32.ofNat (szN n1))), .val (.int (Int32.ofNat (szN n2))), .val (.int (1 : Int32)), .val (.int ((5 : Int32) + (Int32.ofNat (szN n1)))), .unset]) rfl rfl ?_
  have hm := own_sum2 (show (5 : Int32).toInt = (5 : Nat) by decide) o1 (by omega)
  refine k_aload K136 at_130 (pc' := 132) rfl rfl rfl ?_
  refine k_iload K136 at_132 (pc' := 134) rfl rfl ?_
  have hj10 : 5 + szN n1 < (txt n1 n2).length := by rw [txt_l]; omega
  have hi10 : (((5 : Int32) + (Int32.ofNat (szN n1)))).toInt = (5 + szN n1 : Nat) := hm
  refine k_virtualP K136 [(.int ((5 : Int32) + (Int32.ofNat (szN n1))))] [] 0 (w173 hw) (w174 hw) (w175 hw) (w176 hw) (w42 hw) (w177 hw) (notFace_of_selects (args := #[]) (mvT K136.hZ (w176 hw))) rfl (by decide) S.1 (by decide) pd__I_C_577 (c_charAtB l Z a0 hw hEW n0 sa ta kt (txt n1 n2) ff cs0 ((5 : Int32) + (Int32.ofNat (szN n1))) (5 + szN n1) h128 K136.old SF hff S hl7 hax hi10 hj10 SC hcs) at_134 nofun (pc' := 137) rfl rfl rfl rfl (Nat.le_of_eq rfl) (by decide) (by decide) (by decide) (by decide) ?_
  intro b137 T137 L137 K137 tr137
  show Goes p_.tables e_ below_ _ (T137.setTop (mkF m_ 137 #[.val (.int xa), .val (.int xb), .val (.int li), .val (.int ci), .val (.ref sa), .val (.int (Int32.ofNat (szN n1))), .val (.int (Int32.ofNat (szN n2))), .val (.int (1 : Int32)), .val (.int ((5 : Int32) + (Int32.ofNat (szN n1)))), .unset] [(.int ((txt n1 n2)[5 + szN n1]'hj10))]))
  rw [own_get hj10 (show (txt n1 n2).getD (5 + szN n1) 0 = (44 : Int32) from txt_m n1 n2 0 (by decide))]
  refine k_bipush K137 (44 : Int32) at_137 (pc' := 139) rfl rfl ?_
  refine k_icmp_ne K137 at_139 (by decide) (pc' := 261) (pc2 := 142) (by decide) rfl (fun q => absurd (by decide) q) (fun hc139 => ?_)
  refine k_aload K137 at_142 (pc' := 144) rfl rfl rfl ?_
  refine k_iload K137 at_144 (pc' := 146) rfl rfl ?_
  refine k_iconst K137 (1 : Int32) at_146 (pc' := 147) rfl rfl ?_
  refine k_iadd K137 at_147 (pc' := 148) rfl ?_
  have hj11 : 5 + szN n1 + 1 < (txt n1 n2).length := by rw [txt_l]; omega
  have hi11 : ((((5 : Int32) + (Int32.ofNat (szN n1))) + (1 : Int32))).toInt = (5 + szN n1 + 1 : Nat) := own_sum2 hm (show (1 : Int32).toInt = (1 : Nat) by decide) (by omega)
  refine k_virtualP K137 [(.int (((5 : Int32) + (Int32.ofNat (szN n1))) + (1 : Int32)))] [] 0 (w173 hw) (w174 hw) (w175 hw) (w176 hw) (w42 hw) (w177 hw) (notFace_of_selects (args := #[]) (mvT K137.hZ (w176 hw))) rfl (by decide) S.1 (by decide) pd__I_C_577 (c_charAtB l Z a0 hw hEW n0 sa ta kt (txt n1 n2) ff cs0 (((5 : Int32) + (Int32.ofNat (szN n1))) + (1 : Int32)) (5 + szN n1 + 1) h128 K137.old SF hff S hl7 hax hi11 hj11 SC hcs) at_148 nofun (pc' := 151) rfl rfl rfl rfl (Nat.le_of_eq rfl) (by decide) (by decide) (by decide) (by decide) ?_
  intro b138 T138 L138 K138 tr138
  show Goes p_.tables e_ below_ _ (T138.setTop (mkF m_ 151 #[.val (.int xa), .val (.int xb), .val (.int li), .val (.int ci), .val (.ref sa), .val (.int (Int32.ofNat (szN n1))), .val (.int (Int32.ofNat (szN n2))), .val (.int (1 : Int32)), .val (.int ((5 : Int32) + (Int32.ofNat (szN n1)))), .unset] [(.int ((txt n1 n2)[5 + szN n1 + 1]'hj11))]))
  rw [own_get hj11 (show (txt n1 n2).getD (5 + szN n1 + 1) 0 = (32 : Int32) from txt_m n1 n2 1 (by decide))]
  refine k_bipush K138 (32 : Int32) at_151 (pc' := 153) rfl rfl ?_
  refine k_icmp_ne K138 at_153 (by decide) (pc' := 261) (pc2 := 156) (by decide) rfl (fun q => absurd (by decide) q) (fun hc153 => ?_)
  refine k_aload K138 at_156 (pc' := 158) rfl rfl rfl ?_
  refine k_iload K138 at_158 (pc' := 160) rfl rfl ?_
  refine k_iconst K138 (2 : Int32) at_160 (pc' := 161) rfl rfl ?_
  refine k_iadd K138 at_161 (pc' := 162) rfl ?_
  have hj12 : 5 + szN n1 + 2 < (txt n1 n2).length := by rw [txt_l]; omega
  have hi12 : ((((5 : Int32) + (Int32.ofNat (szN n1))) + (2 : Int32))).toInt = (5 + szN n1 + 2 : Nat) := own_sum2 hm (show (2 : Int32).toInt = (2 : Nat) by decide) (by omega)
  refine k_virtualP K138 [(.int (((5 : Int32) + (Int32.ofNat (szN n1))) + (2 : Int32)))] [] 0 (w173 hw) (w174 hw) (w175 hw) (w176 hw) (w42 hw) (w177 hw) (notFace_of_selects (args := #[]) (mvT K138.hZ (w176 hw))) rfl (by decide) S.1 (by decide) pd__I_C_577 (c_charAtB l Z a0 hw hEW n0 sa ta kt (txt n1 n2) ff cs0 (((5 : Int32) + (Int32.ofNat (szN n1))) + (2 : Int32)) (5 + szN n1 + 2) h128 K138.old SF hff S hl7 hax hi12 hj12 SC hcs) at_162 nofun (pc' := 165) rfl rfl rfl rfl (Nat.le_of_eq rfl) (by decide) (by decide) (by decide) (by decide) ?_
  intro b139 T139 L139 K139 tr139
  show Goes p_.tables e_ below_ _ (T139.setTop (mkF m_ 165 #[.val (.int xa), .val (.int xb), .val (.int li), .val (.int ci), .val (.ref sa), .val (.int (Int32.ofNat (szN n1))), .val (.int (Int32.ofNat (szN n2))), .val (.int (1 : Int32)), .val (.int ((5 : Int32) + (Int32.ofNat (szN n1)))), .unset] [(.int ((txt n1 n2)[5 + szN n1 + 2]'hj12))]))
  rw [own_get hj12 (show (txt n1 n2).getD (5 + szN n1 + 2) 0 = (99 : Int32) from txt_m n1 n2 2 (by decide))]
  refine k_bipush K139 (99 : Int32) at_165 (pc' := 167) rfl rfl ?_
  refine k_icmp_ne K139 at_167 (by decide) (pc' := 261) (pc2 := 170) (by decide) rfl (fun q => absurd (by decide) q) (fun hc167 => ?_)
  refine k_aload K139 at_170 (pc' := 172) rfl rfl rfl ?_
  refine k_iload K139 at_172 (pc' := 174) rfl rfl ?_
  refine k_iconst K139 (3 : Int32) at_174 (pc' := 175) rfl rfl ?_
  refine k_iadd K139 at_175 (pc' := 176) rfl ?_
  have hj13 : 5 + szN n1 + 3 < (txt n1 n2).length := by rw [txt_l]; omega
  have hi13 : ((((5 : Int32) + (Int32.ofNat (szN n1))) + (3 : Int32))).toInt = (5 + szN n1 + 3 : Nat) := own_sum2 hm (show (3 : Int32).toInt = (3 : Nat) by decide) (by omega)
  refine k_virtualP K139 [(.int (((5 : Int32) + (Int32.ofNat (szN n1))) + (3 : Int32)))] [] 0 (w173 hw) (w174 hw) (w175 hw) (w176 hw) (w42 hw) (w177 hw) (notFace_of_selects (args := #[]) (mvT K139.hZ (w176 hw))) rfl (by decide) S.1 (by decide) pd__I_C_577 (c_charAtB l Z a0 hw hEW n0 sa ta kt (txt n1 n2) ff cs0 (((5 : Int32) + (Int32.ofNat (szN n1))) + (3 : Int32)) (5 + szN n1 + 3) h128 K139.old SF hff S hl7 hax hi13 hj13 SC hcs) at_176 nofun (pc' := 179) rfl rfl rfl rfl (Nat.le_of_eq rfl) (by decide) (by decide) (by decide) (by decide) ?_
  intro b140 T140 L140 K140 tr140
  show Goes p_.tables e_ below_ _ (T140.setTop (mkF m_ 179 #[.val (.int xa), .val (.int xb), .val (.int li), .val (.int ci), .val (.ref sa), .val (.int (Int32.ofNat (szN n1))), .val (.int (Int32.ofNat (szN n2))), .val (.int (1 : Int32)), .val (.int ((5 : Int32) + (Int32.ofNat (szN n1)))), .unset] [(.int ((txt n1 n2)[5 + szN n1 + 3]'hj13))]))
  rw [own_get hj13 (show (txt n1 n2).getD (5 + szN n1 + 3) 0 = (111 : Int32) from txt_m n1 n2 3 (by decide))]
  refine k_bipush K140 (111 : Int32) at_179 (pc' := 181) rfl rfl ?_
  refine k_icmp_ne K140 at_181 (by decide) (pc' := 261) (pc2 := 184) (by decide) rfl (fun q => absurd (by decide) q) (fun hc181 => ?_)
  refine k_aload K140 at_184 (pc' := 186) rfl rfl rfl ?_
  refine k_iload K140 at_186 (pc' := 188) rfl rfl ?_
  refine k_iconst K140 (4 : Int32) at_188 (pc' := 189) rfl rfl ?_
  refine k_iadd K140 at_189 (pc' := 190) rfl ?_
  have hj14 : 5 + szN n1 + 4 < (txt n1 n2).length := by rw [txt_l]; omega
  have hi14 : ((((5 : Int32) + (Int32.ofNat (szN n1))) + (4 : Int32))).toInt = (5 + szN n1 + 4 : Nat) := own_sum2 hm (show (4 : Int32).toInt = (4 : Nat) by decide) (by omega)
  refine k_virtualP K140 [(.int (((5 : Int32) + (Int32.ofNat (szN n1))) + (4 : Int32)))] [] 0 (w173 hw) (w174 hw) (w175 hw) (w176 hw) (w42 hw) (w177 hw) (notFace_of_selects (args := #[]) (mvT K140.hZ (w176 hw))) rfl (by decide) S.1 (by decide) pd__I_C_577 (c_charAtB l Z a0 hw hEW n0 sa ta kt (txt n1 n2) ff cs0 (((5 : Int32) + (Int32.ofNat (szN n1))) + (4 : Int32)) (5 + szN n1 + 4) h128 K140.old SF hff S hl7 hax hi14 hj14 SC hcs) at_190 nofun (pc' := 193) rfl rfl rfl rfl (Nat.le_of_eq rfl) (by decide) (by decide) (by decide) (by decide) ?_
  intro b141 T141 L141 K141 tr141
  show Goes p_.tables e_ below_ _ (T141.setTop (mkF m_ 193 #[.val (.int xa), .val (.int xb), .val (.int li), .val (.int ci), .val (.ref sa), .val (.int (Int32.ofNat (szN n1))), .val (.int (Int32.ofNat (szN n2))), .val (.int (1 : Int32)), .val (.int ((5 : Int32) + (Int32.ofNat (szN n1)))), .unset] [(.int ((txt n1 n2)[5 + szN n1 + 4]'hj14))]))
  rw [own_get hj14 (show (txt n1 n2).getD (5 + szN n1 + 4) 0 = (108 : Int32) from txt_m n1 n2 4 (by decide))]
  refine k_bipush K141 (108 : Int32) at_193 (pc' := 195) rfl rfl ?_
  refine k_icmp_ne K141 at_195 (by decide) (pc' := 261) (pc2 := 198) (by decide) rfl (fun q => absurd (by decide) q) (fun hc195 => ?_)
  refine k_aload K141 at_198 (pc' := 200) rfl rfl rfl ?_
  refine k_iload K141 at_200 (pc' := 202) rfl rfl ?_
  refine k_iconst K141 (5 : Int32) at_202 (pc' := 203) rfl rfl ?_
  refine k_iadd K141 at_203 (pc' := 204) rfl ?_
  have hj15 : 5 + szN n1 + 5 < (txt n1 n2).length := by rw [txt_l]; omega
  have hi15 : ((((5 : Int32) + (Int32.ofNat (szN n1))) + (5 : Int32))).toInt = (5 + szN n1 + 5 : Nat) := own_sum2 hm (show (5 : Int32).toInt = (5 : Nat) by decide) (by omega)
  refine k_virtualP K141 [(.int (((5 : Int32) + (Int32.ofNat (szN n1))) + (5 : Int32)))] [] 0 (w173 hw) (w174 hw) (w175 hw) (w176 hw) (w42 hw) (w177 hw) (notFace_of_selects (args := #[]) (mvT K141.hZ (w176 hw))) rfl (by decide) S.1 (by decide) pd__I_C_577 (c_charAtB l Z a0 hw hEW n0 sa ta kt (txt n1 n2) ff cs0 (((5 : Int32) + (Int32.ofNat (szN n1))) + (5 : Int32)) (5 + szN n1 + 5) h128 K141.old SF hff S hl7 hax hi15 hj15 SC hcs) at_204 nofun (pc' := 207) rfl rfl rfl rfl (Nat.le_of_eq rfl) (by decide) (by decide) (by decide) (by decide) ?_
  intro b142 T142 L142 K142 tr142
  show Goes p_.tables e_ below_ _ (T142.setTop (mkF m_ 207 #[.val (.int xa), .val (.int xb), .val (.int li), .val (.int ci), .val (.ref sa), .val (.int (Int32.ofNat (szN n1))), .val (.int (Int32.ofNat (szN n2))), .val (.int (1 : Int32)), .val (.int ((5 : Int32) + (Int32.ofNat (szN n1)))), .unset] [(.int ((txt n1 n2)[5 + szN n1 + 5]'hj15))]))
  rw [own_get hj15 (show (txt n1 n2).getD (5 + szN n1 + 5) 0 = (117 : Int32) from txt_m n1 n2 5 (by decide))]
  refine k_bipush K142 (117 : Int32) at_207 (pc' := 209) rfl rfl ?_
  refine k_icmp_ne K142 at_209 (by decide) (pc' := 261) (pc2 := 212) (by decide) rfl (fun q => absurd (by decide) q) (fun hc209 => ?_)
  refine k_aload K142 at_212 (pc' := 214) rfl rfl rfl ?_
  refine k_iload K142 at_214 (pc' := 216) rfl rfl ?_
  refine k_bipush K142 (6 : Int32) at_216 (pc' := 218) rfl rfl ?_
  refine k_iadd K142 at_218 (pc' := 219) rfl ?_
  have hj16 : 5 + szN n1 + 6 < (txt n1 n2).length := by rw [txt_l]; omega
  have hi16 : ((((5 : Int32) + (Int32.ofNat (szN n1))) + (6 : Int32))).toInt = (5 + szN n1 + 6 : Nat) := own_sum2 hm (show (6 : Int32).toInt = (6 : Nat) by decide) (by omega)
  refine k_virtualP K142 [(.int (((5 : Int32) + (Int32.ofNat (szN n1))) + (6 : Int32)))] [] 0 (w173 hw) (w174 hw) (w175 hw) (w176 hw) (w42 hw) (w177 hw) (notFace_of_selects (args := #[]) (mvT K142.hZ (w176 hw))) rfl (by decide) S.1 (by decide) pd__I_C_577 (c_charAtB l Z a0 hw hEW n0 sa ta kt (txt n1 n2) ff cs0 (((5 : Int32) + (Int32.ofNat (szN n1))) + (6 : Int32)) (5 + szN n1 + 6) h128 K142.old SF hff S hl7 hax hi16 hj16 SC hcs) at_219 nofun (pc' := 222) rfl rfl rfl rfl (Nat.le_of_eq rfl) (by decide) (by decide) (by decide) (by decide) ?_
  intro b143 T143 L143 K143 tr143
  show Goes p_.tables e_ below_ _ (T143.setTop (mkF m_ 222 #[.val (.int xa), .val (.int xb), .val (.int li), .val (.int ci), .val (.ref sa), .val (.int (Int32.ofNat (szN n1))), .val (.int (Int32.ofNat (szN n2))), .val (.int (1 : Int32)), .val (.int ((5 : Int32) + (Int32.ofNat (szN n1)))), .unset] [(.int ((txt n1 n2)[5 + szN n1 + 6]'hj16))]))
  rw [own_get hj16 (show (txt n1 n2).getD (5 + szN n1 + 6) 0 = (109 : Int32) from txt_m n1 n2 6 (by decide))]
  refine k_bipush K143 (109 : Int32) at_222 (pc' := 224) rfl rfl ?_
  refine k_icmp_ne K143 at_224 (by decide) (pc' := 261) (pc2 := 227) (by decide) rfl (fun q => absurd (by decide) q) (fun hc224 => ?_)
  refine k_aload K143 at_227 (pc' := 229) rfl rfl rfl ?_
  refine k_iload K143 at_229 (pc' := 231) rfl rfl ?_
  refine k_bipush K143 (7 : Int32) at_231 (pc' := 233) rfl rfl ?_
  refine k_iadd K143 at_233 (pc' := 234) rfl ?_
  have hj17 : 5 + szN n1 + 7 < (txt n1 n2).length := by rw [txt_l]; omega
  have hi17 : ((((5 : Int32) + (Int32.ofNat (szN n1))) + (7 : Int32))).toInt = (5 + szN n1 + 7 : Nat) := own_sum2 hm (show (7 : Int32).toInt = (7 : Nat) by decide) (by omega)
  refine k_virtualP K143 [(.int (((5 : Int32) + (Int32.ofNat (szN n1))) + (7 : Int32)))] [] 0 (w173 hw) (w174 hw) (w175 hw) (w176 hw) (w42 hw) (w177 hw) (notFace_of_selects (args := #[]) (mvT K143.hZ (w176 hw))) rfl (by decide) S.1 (by decide) pd__I_C_577 (c_charAtB l Z a0 hw hEW n0 sa ta kt (txt n1 n2) ff cs0 (((5 : Int32) + (Int32.ofNat (szN n1))) + (7 : Int32)) (5 + szN n1 + 7) h128 K143.old SF hff S hl7 hax hi17 hj17 SC hcs) at_234 nofun (pc' := 237) rfl rfl rfl rfl (Nat.le_of_eq rfl) (by decide) (by decide) (by decide) (by decide) ?_
  intro b144 T144 L144 K144 tr144
  show Goes p_.tables e_ below_ _ (T144.setTop (mkF m_ 237 #[.val (.int xa), .val (.int xb), .val (.int li), .val (.int ci), .val (.ref sa), .val (.int (Int32.ofNat (szN n1))), .val (.int (Int32.ofNat (szN n2))), .val (.int (1 : Int32)), .val (.int ((5 : Int32) + (Int32.ofNat (szN n1)))), .unset] [(.int ((txt n1 n2)[5 + szN n1 + 7]'hj17))]))
  rw [own_get hj17 (show (txt n1 n2).getD (5 + szN n1 + 7) 0 = (110 : Int32) from txt_m n1 n2 7 (by decide))]
  refine k_bipush K144 (110 : Int32) at_237 (pc' := 239) rfl rfl ?_
  refine k_icmp_ne K144 at_239 (by decide) (pc' := 261) (pc2 := 242) (by decide) rfl (fun q => absurd (by decide) q) (fun hc239 => ?_)
  refine k_aload K144 at_242 (pc' := 244) rfl rfl rfl ?_
  refine k_iload K144 at_244 (pc' := 246) rfl rfl ?_
  refine k_bipush K144 (8 : Int32) at_246 (pc' := 248) rfl rfl ?_
  refine k_iadd K144 at_248 (pc' := 249) rfl ?_
  have hj18 : 5 + szN n1 + 8 < (txt n1 n2).length := by rw [txt_l]; omega
  have hi18 : ((((5 : Int32) + (Int32.ofNat (szN n1))) + (8 : Int32))).toInt = (5 + szN n1 + 8 : Nat) := own_sum2 hm (show (8 : Int32).toInt = (8 : Nat) by decide) (by omega)
  refine k_virtualP K144 [(.int (((5 : Int32) + (Int32.ofNat (szN n1))) + (8 : Int32)))] [] 0 (w173 hw) (w174 hw) (w175 hw) (w176 hw) (w42 hw) (w177 hw) (notFace_of_selects (args := #[]) (mvT K144.hZ (w176 hw))) rfl (by decide) S.1 (by decide) pd__I_C_577 (c_charAtB l Z a0 hw hEW n0 sa ta kt (txt n1 n2) ff cs0 (((5 : Int32) + (Int32.ofNat (szN n1))) + (8 : Int32)) (5 + szN n1 + 8) h128 K144.old SF hff S hl7 hax hi18 hj18 SC hcs) at_249 nofun (pc' := 252) rfl rfl rfl rfl (Nat.le_of_eq rfl) (by decide) (by decide) (by decide) (by decide) ?_
  intro b145 T145 L145 K145 tr145
  show Goes p_.tables e_ below_ _ (T145.setTop (mkF m_ 252 #[.val (.int xa), .val (.int xb), .val (.int li), .val (.int ci), .val (.ref sa), .val (.int (Int32.ofNat (szN n1))), .val (.int (Int32.ofNat (szN n2))), .val (.int (1 : Int32)), .val (.int ((5 : Int32) + (Int32.ofNat (szN n1)))), .unset] [(.int ((txt n1 n2)[5 + szN n1 + 8]'hj18))]))
  rw [own_get hj18 (show (txt n1 n2).getD (5 + szN n1 + 8) 0 = (32 : Int32) from txt_m n1 n2 8 (by decide))]
  refine k_bipush K145 (32 : Int32) at_252 (pc' := 254) rfl rfl ?_
  refine k_icmp_ne K145 at_254 (by decide) (pc' := 261) (pc2 := 257) (by decide) rfl (fun q => absurd (by decide) q) (fun hc254 => ?_)
  refine k_iconst K145 (1 : Int32) at_257 (pc' := 258) rfl rfl ?_
  refine k_goto K145 at_258 (by decide) (pc' := 262) (by decide) ?_
  refine k_istore K145 at_262 (pc' := 264) (L' := #[.val (.int xa), .val (.int xb), .val (.int li), .val (.int ci), .val (.ref sa), .val (.int (Int32.ofNat (szN n1))), .val (.int (Int32.ofNat (szN n2))), .val (.int (1 : Int32)), .val (.int ((5 : Int32) + (Int32.ofNat (szN n1)))), .val (.int (1 : Int32))]) rfl rfl ?_
  refine k_iload K145 at_264 (pc' := 266) rfl rfl ?_
  refine k_if_eq K145 at_266 (by decide) (pc' := 306) (pc2 := 269) (by decide) rfl (fun q => absurd q (by decide)) (fun hc266 => ?_)
  refine k_iload K145 at_269 (pc' := 271) rfl rfl ?_
  refine k_if_eq K145 at_271 (by decide) (pc' := 306) (pc2 := 274) (by decide) rfl (fun q => absurd q (by decide)) (fun hc271 => ?_)
  refine k_aload K145 at_274 (pc' := 276) rfl rfl rfl ?_
  refine k_iconst K145 (5 : Int32) at_276 (pc' := 277) rfl rfl ?_
  refine k_iloadN K145 at_277 (pc' := 278) rfl rfl ?_
  refine k_iload K145 at_278 (pc' := 280) rfl rfl ?_
  refine k_staticP K145 [(.ref sa), (.int (5 : Int32)), (.int li), (.int (Int32.ofNat (szN n1)))] [] 0 (w195 hw) (w196 hw) (w170 hw) (w197 hw) (by decide) pd__Ljava_lang_String_III_Z_5627 (c_digitsOk l Z a0 hw hEW n0 sa ta kt (txt n1 n2) ff cs0 5 li 5 n1 h128 K145.old SF hff S hl7 hax (by decide) e1 (by rw [txt_l]; omega) (txt_1 n1 n2) SC hcs) at_280 nofun (pc' := 283) rfl rfl rfl rfl (Nat.le_of_eq rfl) (by decide) (by decide) (by decide) (by decide) ?_
  intro b146 T146 L146 K146 tr146
  show Goes p_.tables e_ below_ _ (T146.setTop (mkF m_ 283 #[.val (.int xa), .val (.int xb), .val (.int li), .val (.int ci), .val (.ref sa), .val (.int (Int32.ofNat (szN n1))), .val (.int (Int32.ofNat (szN n2))), .val (.int (1 : Int32)), .val (.int ((5 : Int32) + (Int32.ofNat (szN n1)))), .val (.int (1 : Int32))] [(.int (1 : Int32))]))
  refine k_if_eq K146 at_283 (by decide) (pc' := 306) (pc2 := 286) (by decide) rfl (fun q => absurd q (by decide)) (fun hc283 => ?_)
  refine k_aload K146 at_286 (pc' := 288) rfl rfl rfl ?_
  refine k_bipush K146 (14 : Int32) at_288 (pc' := 290) rfl rfl ?_
  refine k_iload K146 at_290 (pc' := 292) rfl rfl ?_
  refine k_iadd K146 at_292 (pc' := 293) rfl ?_
  refine k_iloadN K146 at_293 (pc' := 294) rfl rfl ?_
  refine k_iload K146 at_294 (pc' := 296) rfl rfl ?_
  refine k_staticP K146 [(.ref sa), (.int ((14 : Int32) + (Int32.ofNat (szN n1)))), (.int ci), (.int (Int32.ofNat (szN n2)))] [] 0 (w195 hw) (w196 hw) (w170 hw) (w197 hw) (by decide) pd__Ljava_lang_String_III_Z_5627 (c_digitsOk l Z a0 hw hEW n0 sa ta kt (txt n1 n2) ff cs0 ((14 : Int32) + (Int32.ofNat (szN n1))) ci (14 + szN n1) n2 h128 K146.old SF hff S hl7 hax (own_sum2 (show (14 : Int32).toInt = (14 : Nat) by decide) o1 (by omega)) e2 (by rw [txt_l]; omega) (txt_2 n1 n2) SC hcs) at_296 nofun (pc' := 299) rfl rfl rfl rfl (Nat.le_of_eq rfl) (by decide) (by decide) (by decide) (by decide) ?_
  intro b147 T147 L147 K147 tr147
  show Goes p_.tables e_ below_ _ (T147.setTop (mkF m_ 299 #[.val (.int xa), .val (.int xb), .val (.int li), .val (.int ci), .val (.ref sa), .val (.int (Int32.ofNat (szN n1))), .val (.int (Int32.ofNat (szN n2))), .val (.int (1 : Int32)), .val (.int ((5 : Int32) + (Int32.ofNat (szN n1)))), .val (.int (1 : Int32))] [(.int (1 : Int32))]))
  refine k_if_eq K147 at_299 (by decide) (pc' := 306) (pc2 := 302) (by decide) rfl (fun q => absurd q (by decide)) (fun hc299 => ?_)
  refine k_iconst K147 (1 : Int32) at_302 (pc' := 303) rfl rfl ?_
  refine k_goto K147 at_303 (by decide) (pc' := 307) (by decide) ?_
  exact k_nret K147 at_307 rfl (by simp) rfl (fun sf ht => ⟨rfl, trivial⟩) (by decide) (by decide)
theorem own_eqI {args : Array Value} {s : State} {t : Term} {k : Int32} (h : (Cond.eq t (.int k)).value args s none s [] = some true) : t.eval args s none [] s = some (.int k) := by
  obtain ⟨x, y, e1, e2, -, k2⟩ := cmp_v (Or.inl h)
  have e3 : y = .int k := (Option.some.inj e2).symm
  subst e3
  obtain ⟨z, rfl⟩ := k2
  have q : z = k := by simpa [Cond.value, Term.eval, e1] using h
  rw [e1, q]
theorem own_fld {args : Array Value} {s : State} {t : Term} {a : Addr} {C n d : String} {v : Value} (ht : t.eval args s none [] s = some (.ref a)) (h : (Term.field t C n d).eval args s none [] s = some v) : Fld s s.heap a C n d v := Fld.start (by rw [← fld_at ht]; exact h)
theorem own_arv {args : Array Value} {s : State} (hf : Fit s) {t : Term} {b : Addr} {ty : FieldType} {z : Int32} {vs : List Value} {dv : Value} (ev : t.eval args s none [] s = some (.ref b)) (hA : (Cond.arrayOf t ty).value args s none s [] = some true) (hL : (Cond.eq (.length t) (.int z)).value args s none s [] = some true) (hz : ¬ z < 0) (hl : z.toNatClampNeg = vs.length) (H : ∀ cl : Cell, s.heap[b]? = some cl → HasL cl 0 vs) : ∃ k, Arv s s.heap b k ty z vs dv := by
  obtain ⟨cl, A⟩ := Arr.start ev hA
  have e := own_eqI hL
  have q : s.arrayAt? b = some cl := A.fin (Vm.Alike.refl _)
  simp only [Term.eval, ev, q, Option.bind_eq_bind, Option.bind_some] at e
  split at e
  · rename_i hs
    exact ⟨cl.cls, Arv.start hf A hs (Value.int.inj (Option.some.inj e)) hz hl (H cl A.1)⟩
  · cases e
theorem own_el {args : Array Value} {s : State} {t : Term} {b : Addr} {j v : Int32} {cl : Cell} (ev : t.eval args s none [] s = some (.ref b)) (h : (Cond.eq (.elem t (.int j)) (.int v)).value args s none s [] = some true) (hc : s.heap[b]? = some cl) : cl.slots[j.toNatClampNeg]? = some (.int v) := (elem_in (own_eqI h) ev rfl hc).2
theorem own_eqR {args : Array Value} {s : State} {t u : Term} {x : Addr} (hu : u.eval args s none [] s = some (.ref x)) (h : (Cond.eq t u).value args s none s [] = some true) : t.eval args s none [] s = some (.ref x) := by
  obtain ⟨v, y, e1, e2, k1, k2⟩ := cmp_v (Or.inl h)
  have e3 : y = .ref x := Option.some.inj (e2.symm.trans hu)
  subst e3
  have hv : v.isRef = true := k2.2
  have q := gotT (eq_R e1 e2 hv rfl) h
  rw [e1, q]
theorem own_elR {args : Array Value} {s : State} {t u : Term} {b x : Addr} {j : Int32} {cl : Cell} (ev : t.eval args s none [] s = some (.ref b)) (hu : u.eval args s none [] s = some (.ref x)) (h : (Cond.eq (.elem t (.int j)) u).value args s none s [] = some true) (hc : s.heap[b]? = some cl) : cl.slots[j.toNatClampNeg]? = some (.ref x) := (elem_in (own_eqR hu h) ev rfl hc).2
theorem own_hasL {c : Cell} : ∀ (l : List Value) (i : Nat), (∀ j, j < l.length → c.slots[i + j]? = l[j]?) → HasL c i l
  | [], _, _ => trivial
  | v :: r, i, h => ⟨by simpa using h 0 (by simp), own_hasL r (i + 1) fun j hj => by
      have q := h (j + 1) (by simpa using hj)
      rw [show i + 1 + j = i + (j + 1) by omega, q]; simp⟩
theorem own_tbl {args : Array Value} {s : State} (hf : Fit s) {C n : String} {z : Int32} {F : Term} {val : Nat → Int32} (hi : (Cond.initializedFor C n "[B").before args s = true) (hx : (Cond.exactly (.static C n "[B") "[B").before args s = true) (hA : (Cond.arrayClass .byte).before args s = true)
    (hL : (Cond.eq (.length (.static C n "[B")) (.int z)).before args s = true) (hz : ¬ z < 0) (hall : (Cond.all (.static C n "[B") (.eq (.elem (.static C n "[B") (.index 0)) F)).before args s = true) (hF : ∀ r, r < z.toNatClampNeg → F.eval args s none [r] s = some (.int (val r))) :
    ∃ (a : Addr) (k : ClassId) (vs : List Value), Sta s s.heap C n "[B" (.ref a) ∧ Arv s s.heap a k .byte z vs (.int 0) ∧ ∀ r, r < z.toNatClampNeg → vs.getD r (.int 0) = .int (val r) := by
  obtain ⟨a, cB, cell, kB, hev, hfc, hcell, hk, hst, hcls, -⟩ := Cond.exactly_spec hx
  obtain ⟨cB', kB', comp, hn, hk', hkind⟩ := Cond.arrayClass_spec hA
  rw [show ("[" ++ FieldType.toString .byte) = "[B" by decide] at hn
  cases hfc.symm.trans hn
  cases hk.symm.trans hk'
  have hl := own_eqI (Cond.before_iff.mp hL)
  obtain ⟨a', cell', hev', hat, -⟩ := Term.length_spec hl
  cases hev.symm.trans hev'
  obtain ⟨hcell', hkn, -, -⟩ := State.arrayAt?_spec hat
  cases hcell.symm.trans hcell'
  have A : Arr s s.heap a cell .byte := ⟨hcell, ⟨fun q h => (by rw [h] at hst; cases hst), kB, (by rw [hcls]; exact hk), comp, hkind⟩, hkn⟩
  have e := hl
  simp only [Term.eval, hat, Option.bind_eq_bind] at e
  have hev2 := hev
  simp only [Term.eval, Option.bind_eq_bind] at hev2
  rw [hev2] at e
  simp only [Option.bind_some, hat] at e
  split at e
  · rename_i hs
    have e' : cell.slots.size.toInt32 = z := Value.int.inj (Option.some.inj e)
    have S : cell.slots.size = z.toNatClampNeg := by rw [← e']; simp only [Int32.toNatClampNeg, len_toInt hs]; rfl
    refine ⟨a, cell.cls, cell.slots.toList, Sta.start hev (Or.inl hi), Arv.start hf A hs e' hz (by rw [← S]; simp) (own_hasL _ 0 fun j hj => by simp), fun r hr => ?_⟩
    have hr' : r < cell.slots.size := by rw [S]; exact hr
    have h1 := Cond.all_elim hev hat (Cond.before_iff.mp hall) r hr'
    have h2 := eqv_i (hF r hr) h1
    have er : (Nat.toInt32 r).toNatClampNeg = r := by simp only [Int32.toNatClampNeg, len_toInt (Nat.lt_trans hr' hs)]; rfl
    have nn : ¬ Nat.toInt32 r < 0 := by rw [Int32.lt_iff_toInt_lt, len_toInt (Nat.lt_trans hr' hs)]; show ¬ (r : Int) < 0; omega
    have h3 := elem_f (t := .static C n "[B") (a := .index 0) (args := args) (first := s) (o := none) (idx := [r]) (s := s) (x := a) (j := Nat.toInt32 r) (cl := cell) (by simp only [Term.eval] at hev ⊢; exact hev) rfl hat nn
    rw [er] at h3
    have h4 := h3.symm.trans h2
    rw [List.getD_eq_getElem?_getD, Array.getElem?_toList, h4]; rfl
  · cases e
theorem ones_n : ∀ r, r < 100 → (48 : Int32) + Int32.ofNat r % 10 = Int32.ofNat (48 + r % 10) := by decide +kernel
theorem tens_n : ∀ r, r < 100 → (48 : Int32) + Int32.ofNat r / 10 = Int32.ofNat (48 + r / 10) := by decide +kernel
set_option maxRecDepth 65536 in
set_option maxHeartbeats 40000000 in
theorem comes_1 {Post : Tables → Env → Array Value → State → Outcome → State → Prop} (hpost : ∀ tb e args s v u, (limb_1_1.after args s (.returned v) u = true ∧ limb_1_2.after args s (.returned v) u = true ∧ True) → ReturnedEndW s (.returned v) u (Jvm.fieldLocs frame_1_writes args s ++ Jvm.arrayLocs frame_1_arrays args s ++ Jvm.staticLocs frame_1_statics s) 24 2368 → Post tb e args s (.returned v) u) :
    ArmFor flags0 classFile x code maxLocals ret World_1 tables_1 room_1 Calls_1 rest_1 Pre_1 Post := by
  intro l hfl _ _ p e ha hc hk s m args below hf hA hF happ hP
  obtain ⟨hcalls, hrest, hpre⟩ := hP
  obtain ⟨-, -, -, hnamed, -, -, -, hat⟩ := (Spec.applies_iff hf).mp happ
  obtain ⟨hg, hn⟩ := and_e (Cond.before_iff.mp (show (Jvm.Cond.and given_1 narrow_1).before args s = true from hpre))
  obtain ⟨hg_0, hg⟩ := and_e hg
  obtain ⟨w0, w1, rfl⟩ : ∃ w0 w1 : Value, args = #[w0, w1] := by
    have hs : args.size = 2 := by simpa [Cond.value, given_1] using hg_0
    obtain ⟨L⟩ := args
    match L, hs with
    | [w0, w1], _ => exact ⟨w0, w1, rfl⟩
  obtain ⟨hg_1, hg⟩ := and_e hg
  have hg_2 := hg
  have hw := fun d (hd : d ∈ tables_1) => atoms_spec (ws := Jvm.Cond.code x code maxLocals ret :: tables_1) hat d (List.mem_cons_of_mem _ hd)
  have hfit : Fit s := fun {y c} hc i hi => by
    obtain ⟨ha, rfl⟩ := Array.getElem?_eq_some_iff.mp hc
    have q := List.all_eq_true.mp ((Array.all_eq_true_iff_forall_mem.mp hF) _ (Array.getElem_mem ha)) i (List.mem_range.mpr hi)
    simpa [Array.getElem?_eq_getElem hi] using q
  obtain ⟨hsets, hown0⟩ := atoms_of _ (rest_1_c_eq ▸ (show rest_1_c.before _ s = true from hrest))
  obtain ⟨i0, ei0⟩ := is_v hg_1
  obtain rfl : w0 = (.int i0) := Option.some.inj ei0
  obtain ⟨i1, ei1⟩ := is_v hg_2
  obtain rfl : w1 = (.int i1) := Option.some.inj ei1
  have hEW : EW s _ EL0 := (EW.cons (w126 hw) (by decide) (EW.cons (w48 hw) (by decide) EW.nil))
  have hCH : CHv s EL0 s.vm s.heap := CHv.start hEW hcalls.1 (hsets _ (List.mem_of_getElem? (i := 2) rfl)) (w43 hw) (w49 hw)
  obtain ⟨cs0, ecs⟩ := is_v (Cond.before_iff.mp (hsets _ (List.mem_of_getElem? (i := 1) rfl)))
  have SC := Sta.start ecs (Or.inl (hsets _ (List.mem_of_getElem? (i := 0) rfl)))
  have hcs : ¬ cs0 = 0 := fun q => by
    have h2 := not_v (Cond.before_iff.mp (hsets _ (List.mem_of_getElem? (i := 2) rfl)))
    rw [q] at ecs
    rw [eq_i ecs (Term.int_eval 0) rfl] at h2
    cases h2
  obtain ⟨ff, eff, hff⟩ := isR_v (Cond.before_iff.mp (hsets _ (List.mem_of_getElem? (i := 8) rfl)))
  have SF := Sta.start eff (Or.inl (hsets _ (List.mem_of_getElem? (i := 7) rfl)))
  obtain ⟨od, ko, OL, SO, VO, hO⟩ := own_tbl (z := 100) (val := fun r => Int32.ofNat (48 + r % 10)) hfit (hsets _ (List.mem_of_getElem? (i := 11) rfl)) (hsets _ (List.mem_of_getElem? (i := 12) rfl)) (w43 hw) (hsets _ (List.mem_of_getElem? (i := 13) rfl)) (by decide) (hsets _ (List.mem_of_getElem? (i := 14) rfl)) (fun r hr => by rw [← ones_n r hr]; rfl)
  obtain ⟨td, kt_, TL, ST_, VT_, hT⟩ := own_tbl (z := 100) (val := fun r => Int32.ofNat (48 + r / 10)) hfit (hsets _ (List.mem_of_getElem? (i := 16) rfl)) (hsets _ (List.mem_of_getElem? (i := 17) rfl)) (w43 hw) (hsets _ (List.mem_of_getElem? (i := 18) rfl)) (by decide) (hsets _ (List.mem_of_getElem? (i := 19) rfl)) (fun r hr => by rw [← tens_n r hr]; rfl)
  obtain ⟨n, o, h1, h2, h3, _, L, rfl, ⟨N, -, rfl, -⟩, -, hq⟩ := c_law l s _ hw hEW s.heap.size i0 i1 ff od td ko kt_ OL TL cs0 s.heap (Old.start s) SF hff SO VO hO ST_ VT_ hT SC hcs tables_1 p e ha hc hk s m _ below hf ((Spec.applies_iff_loose hf).mp happ).1 ⟨rfl, State.Warmed39.refl s, rfl, nofun, hCH⟩ trivial
  refine ⟨n, _, h1, h2, h3, hpost _ _ _ _ _ _ ⟨Cond.after_iff.mpr rfl, Cond.after_iff.mpr (eq_i res_at (Term.int_eval (1)) rfl), trivial⟩ ⟨hq.1, hq.2.1, hq.2.2.1, (hq.2.2.2.sift fun y hy => Or.inr (N y hy)).mono (by decide) (by decide)⟩⟩
theorem main_1_1 : Claimed_1_1 := comes_1 fun _ _ _ _ _ _ h hF => ⟨h.1, hF⟩
theorem main_1_2 : Claimed_1_2 := comes_1 fun _ _ _ _ _ _ h hF => ⟨h.2.1, hF⟩
end Jvm.Pilot.@@N@@
namespace Jvm.Pilot.@@N@@
open Jvm Jvm.ClassFile Sem Op Lib Jvm.Free Jvm.Stand Jvm.Pilot.@@N@@.Jvm.D
/-! MADE BY PROGRAM (witnessworld.py) out of the Statement's table words and the real class files: 26 classes; the members and pool entries that the words name. The judged class is class 1, her method 1. -/
namespace start1
open Jvm.ClassFile
def u (s : String) : CpInfo := .utf8 (stringToUtf16 s)
/-- a pool by its gaps: so many unusable entries, then the entry; so many at the end -/
def gap : Nat → List CpInfo → List CpInfo
  | 0, r => r
  | n + 1, r => .unusable :: gap n r
def poolList (es : List (Nat × CpInfo)) (last : Nat) : List CpInfo := es.foldr (fun e r => gap e.1 (e.2 :: r)) (gap last [])
def pool (es : List (Nat × CpInfo)) (last : Nat) : Array CpInfo := ⟨poolList es last⟩
def fileOf (pool : Array CpInfo) (this : Nat) (attrs : Array Attribute := #[]) (ms : Array MethodInfo := #[]) (fl : Nat := 33) (sup : Nat := 0) (ifs : Array Nat := #[]) (fds : Array FieldInfo := #[]) : ClassFile where
  minorVersion := 0
  majorVersion := 65
  constantPool := pool
  accessFlags := fl
  thisClass := this
  superClass := sup
  interfaces := ifs
  fields := fds
  methods := ms
  attributes := attrs
def plain (name : String) (sup : Option ClassId) : Class where
  name := name
  kind := .ordinary
  loader := none
  accessFlags := 33
  super := sup
  interfaces := #[]
  cf := none
  fields := #[]
  methods := #[]
  instanceTypes := #[]
  staticTypes := #[]
  resolved := #[]
  callSites := []
  init := .initialized
  statics := none
  mirror := none

def pool0 : Array CpInfo := pool [(5, u "<init>"), (0, u "()V"), (1, .class_ 10), (1, u "java/lang/Object"), (85, u "clone"), (0, u "()Ljava/lang/Object;")] 26

def k0c0 : Code := { maxStack := 0, maxLocals := 1, code := object_method_1_code, exceptionTable := #[], attributes := #[] }
def k0m0 : Method := { name := "<init>", desc := "()V", sig := { parameters := [], returnType := none }, accessFlags := 1, code := some k0c0 }
def k0m1 : Method := { name := "clone", desc := "()Ljava/lang/Object;", sig := { parameters := [], returnType := some (.object "java/lang/Object") }, accessFlags := 260, code := none }
/-- java/lang/Object -/
def k0 : Class := { plain "java/lang/Object" none with
  accessFlags := 33
  interfaces := #[]
  cf := some (fileOf pool0 8 #[] #[{ accessFlags := 1, nameIndex := 5, descriptorIndex := 6, attributes := #[] }, { accessFlags := 260, nameIndex := 96, descriptorIndex := 97, attributes := #[] }] 33 0 #[] #[])
  fields := #[]
  methods := #[k0m0, k0m1]
  instanceTypes := #[]
  staticTypes := #[]
  resolved := Array.replicate 124 none
  statics := none }

def pool1 : Array CpInfo := pool [(2, .class_ 4), (1, u "java/lang/Object"), (0, u "<init>"), (0, u "()V"), (0, .integer 2147483647), (0, .methodref 9 10), (0, .class_ 11), (0, .nameAndType 12 13), (0, u "java/lang/Math"), (0, u "max"), (0, u "(II)I"), (0, .class_ 15), (0, u "com/example/object_sieve/objectsieve/query/TextPosition"), (0, .methodref 14 17), (0, .nameAndType 5 18), (0, u "(II)V"), (0, .methodref 14 20), (0, .nameAndType 21 22), (0, u "toString"), (0, u "()Ljava/lang/String;"), (0, .methodref 24 25), (0, .class_ 26), (0, .nameAndType 27 28), (0, u "com/example/object_sieve/objectsieve/query/TextPositionToStringPinLaw"), (0, u "numDigits"), (0, u "(I)I"), (0, .methodref 30 31), (0, .class_ 32), (0, .nameAndType 33 34), (0, u "java/lang/String"), (0, u "length"), (0, u "()I"), (0, .methodref 30 36), (0, .nameAndType 37 38), (0, u "charAt"), (0, u "(I)C"), (0, .methodref 24 40), (0, .nameAndType 41 42), (0, u "digitsOk"), (0, u "(Ljava/lang/String;III)Z"), (0, .integer 100000), (0, .integer 1000000), (0, .integer 10000000), (0, .integer 100000000), (0, .integer 1000000000), (0, .methodref 24 49), (0, .nameAndType 50 28), (0, u "pow10"), (0, .methodref 24 52), (0, .nameAndType 53 54), (0, u "digitOk"), (0, u "(Ljava/lang/String;IIII)Z"), (2, u "law"), (0, u "(II)Z")] 3

def k1m0 : Method := { name := "<init>", desc := "()V", sig := { parameters := [], returnType := none }, accessFlags := 1, code := none }
def k1c1 : Code := { maxStack := 4, maxLocals := 10, code := code, exceptionTable := #[], attributes := #[] }
def k1m1 : Method := { name := "law", desc := "(II)Z", sig := { parameters := [.int, .int], returnType := some .boolean }, accessFlags := 9, code := some k1c1 }
def k1c2 : Code := { maxStack := 2, maxLocals := 1, code := method_3_code, exceptionTable := #[], attributes := #[] }
def k1m2 : Method := { name := "numDigits", desc := "(I)I", sig := { parameters := [.int], returnType := some .int }, accessFlags := 10, code := some k1c2 }
def k1c3 : Code := { maxStack := 2, maxLocals := 1, code := method_4_code, exceptionTable := #[], attributes := #[] }
def k1m3 : Method := { name := "pow10", desc := "(I)I", sig := { parameters := [.int], returnType := some .int }, accessFlags := 10, code := some k1c3 }
def k1c4 : Code := { maxStack := 3, maxLocals := 6, code := method_5_code, exceptionTable := #[], attributes := #[] }
def k1m4 : Method := { name := "digitOk", desc := "(Ljava/lang/String;IIII)Z", sig := { parameters := [(.object "java/lang/String"), .int, .int, .int, .int], returnType := some .boolean }, accessFlags := 10, code := some k1c4 }
def k1c5 : Code := { maxStack := 5, maxLocals := 4, code := method_6_code, exceptionTable := #[], attributes := #[] }
def k1m5 : Method := { name := "digitsOk", desc := "(Ljava/lang/String;III)Z", sig := { parameters := [(.object "java/lang/String"), .int, .int, .int], returnType := some .boolean }, accessFlags := 10, code := some k1c5 }
/-- com/example/object_sieve/objectsieve/query/TextPositionToStringPinLaw -/
def k1 : Class := { plain "com/example/object_sieve/objectsieve/query/TextPositionToStringPinLaw" (some 0) with
  accessFlags := 49
  interfaces := #[]
  cf := some (fileOf pool1 24 #[] #[{ accessFlags := 1, nameIndex := 5, descriptorIndex := 6, attributes := #[] }, { accessFlags := 9, nameIndex := 57, descriptorIndex := 58, attributes := #[] }, { accessFlags := 10, nameIndex := 27, descriptorIndex := 28, attributes := #[] }, { accessFlags := 10, nameIndex := 50, descriptorIndex := 28, attributes := #[] }, { accessFlags := 10, nameIndex := 53, descriptorIndex := 54, attributes := #[] }, { accessFlags := 10, nameIndex := 41, descriptorIndex := 42, attributes := #[] }] 49 2 #[] #[])
  fields := #[]
  methods := #[k1m0, k1m1, k1m2, k1m3, k1m4, k1m5]
  instanceTypes := #[]
  staticTypes := #[]
  resolved := Array.replicate 62 none
  statics := none }

def pool2 : Array CpInfo := pool [(1, .class_ 2), (0, u "java/lang/Math"), (1, .class_ 6), (1, u "java/lang/Object"), (0, u "<init>"), (0, u "()V"), (89, .class_ 100), (1, u "java/lang/Math$RandomNumberGeneratorHolder"), (71, u "negativeZeroFloatBits"), (0, u "J"), (2, u "negativeZeroDoubleBits"), (21, u "max"), (2, u "min"), (43, u "$assertionsDisabled"), (0, u "Z"), (88, u "(II)I"), (2, u "twoToTheDoubleScaleDown"), (0, u "D"), (4, u "twoToTheDoubleScaleUp"), (9, u "E"), (3, u "PI"), (2, u "TAU"), (2, u "DEGREES_TO_RADIANS"), (0, u "RADIANS_TO_DEGREES")] 94

def k2m0 : Method := { name := "<init>", desc := "()V", sig := { parameters := [], returnType := none }, accessFlags := 2, code := none }
def k2c1 : Code := { maxStack := 2, maxLocals := 2, code := jdk_29_method_65_code, exceptionTable := #[], attributes := #[] }
def k2m1 : Method := { name := "max", desc := "(II)I", sig := { parameters := [.int, .int], returnType := some .int }, accessFlags := 9, code := some k2c1 }
def k2c2 : Code := { maxStack := 2, maxLocals := 2, code := jdk_29_method_69_code, exceptionTable := #[], attributes := #[] }
def k2m2 : Method := { name := "min", desc := "(II)I", sig := { parameters := [.int, .int], returnType := some .int }, accessFlags := 9, code := some k2c2 }
/-- java/lang/Math -/
def k2 : Class := { plain "java/lang/Math" (some 0) with
  accessFlags := 49
  interfaces := #[]
  cf := some (fileOf pool2 1 #[.nestMembers #[98]] #[{ accessFlags := 2, nameIndex := 7, descriptorIndex := 8, attributes := #[] }, { accessFlags := 9, nameIndex := 198, descriptorIndex := 335, attributes := #[] }, { accessFlags := 9, nameIndex := 201, descriptorIndex := 335, attributes := #[] }] 49 4 #[] #[{ accessFlags := 25, nameIndex := 354, descriptorIndex := 339, attributes := #[] }, { accessFlags := 25, nameIndex := 358, descriptorIndex := 339, attributes := #[] }, { accessFlags := 25, nameIndex := 361, descriptorIndex := 339, attributes := #[] }, { accessFlags := 26, nameIndex := 364, descriptorIndex := 339, attributes := #[] }, { accessFlags := 26, nameIndex := 365, descriptorIndex := 339, attributes := #[] }, { accessFlags := 26, nameIndex := 172, descriptorIndex := 173, attributes := #[] }, { accessFlags := 26, nameIndex := 176, descriptorIndex := 173, attributes := #[] }, { accessFlags := 8, nameIndex := 344, descriptorIndex := 339, attributes := #[] }, { accessFlags := 8, nameIndex := 338, descriptorIndex := 339, attributes := #[] }, { accessFlags := 4120, nameIndex := 245, descriptorIndex := 246, attributes := #[] }])
  fields := #[{ name := "E", type := .double, accessFlags := 25, slot := 0, constantValue := 0 }, { name := "PI", type := .double, accessFlags := 25, slot := 1, constantValue := 0 }, { name := "TAU", type := .double, accessFlags := 25, slot := 2, constantValue := 0 }, { name := "DEGREES_TO_RADIANS", type := .double, accessFlags := 26, slot := 3, constantValue := 0 }, { name := "RADIANS_TO_DEGREES", type := .double, accessFlags := 26, slot := 4, constantValue := 0 }, { name := "negativeZeroFloatBits", type := .long, accessFlags := 26, slot := 5, constantValue := 0 }, { name := "negativeZeroDoubleBits", type := .long, accessFlags := 26, slot := 6, constantValue := 0 }, { name := "twoToTheDoubleScaleUp", type := .double, accessFlags := 8, slot := 7, constantValue := 0 }, { name := "twoToTheDoubleScaleDown", type := .double, accessFlags := 8, slot := 8, constantValue := 0 }, { name := "$assertionsDisabled", type := .boolean, accessFlags := 4120, slot := 9, constantValue := 0 }]
  methods := #[k2m0, k2m1, k2m2]
  instanceTypes := #[]
  staticTypes := #[.double, .double, .double, .double, .double, .long, .long, .double, .double, .boolean]
  resolved := Array.replicate 460 none
  statics := none }

def pool3 : Array CpInfo := pool [(1, .methodref 2 3), (0, .class_ 4), (0, .nameAndType 5 6), (0, u "java/lang/Object"), (0, u "<init>"), (0, u "()V"), (0, .class_ 8), (0, u "java/lang/Record")] 13

def k3c0 : Code := { maxStack := 1, maxLocals := 1, code := jdk_30_method_1_code, exceptionTable := #[], attributes := #[] }
def k3m0 : Method := { name := "<init>", desc := "()V", sig := { parameters := [], returnType := none }, accessFlags := 4, code := some k3c0 }
/-- java/lang/Record -/
def k3 : Class := { plain "java/lang/Record" (some 0) with
  accessFlags := 1057
  interfaces := #[]
  cf := some (fileOf pool3 7 #[] #[{ accessFlags := 4, nameIndex := 5, descriptorIndex := 6, attributes := #[] }] 1057 2 #[] #[])
  fields := #[]
  methods := #[k3m0]
  instanceTypes := #[]
  staticTypes := #[]
  resolved := Array.replicate 22 none
  statics := none }

def pool4 : Array CpInfo := pool [(1, .methodref 2 3), (0, .class_ 4), (0, .nameAndType 5 6), (0, u "java/lang/Record"), (0, u "<init>"), (0, u "()V"), (2, .class_ 10), (0, u "java/lang/StringBuilder"), (0, .methodref 9 3), (2, .methodref 9 15), (0, .nameAndType 16 17), (0, u "append"), (0, u "(Ljava/lang/String;)Ljava/lang/StringBuilder;"), (0, .methodref 9 19), (0, .nameAndType 16 20), (0, u "(I)Ljava/lang/StringBuilder;"), (0, .string 22), (0, u ", column "), (0, .methodref 9 24), (0, .nameAndType 25 26), (0, u "toString"), (0, u "()Ljava/lang/String;"), (3, .fieldref 31 32), (0, .class_ 33), (0, .nameAndType 34 35), (0, u "com/example/object_sieve/objectsieve/query/TextPosition"), (0, u "line"), (0, u "I"), (0, .fieldref 31 37), (0, .nameAndType 38 35), (0, u "column"), (28, u "(II)V"), (0, .string 69), (0, u "line ")] 36

def k4c0 : Code := { maxStack := 4, maxLocals := 3, code := prog_8_method_1_code, exceptionTable := #[], attributes := #[] }
def k4m0 : Method := { name := "<init>", desc := "(II)V", sig := { parameters := [.int, .int], returnType := none }, accessFlags := 1, code := some k4c0 }
def k4c1 : Code := { maxStack := 2, maxLocals := 1, code := prog_8_method_3_code, exceptionTable := #[], attributes := #[] }
def k4m1 : Method := { name := "toString", desc := "()Ljava/lang/String;", sig := { parameters := [], returnType := some (.object "java/lang/String") }, accessFlags := 1, code := some k4c1 }
/-- com/example/object_sieve/objectsieve/query/TextPosition -/
def k4 : Class := { plain "com/example/object_sieve/objectsieve/query/TextPosition" (some 3) with
  accessFlags := 49
  interfaces := #[]
  cf := some (fileOf pool4 31 #[] #[{ accessFlags := 1, nameIndex := 5, descriptorIndex := 67, attributes := #[] }, { accessFlags := 1, nameIndex := 25, descriptorIndex := 26, attributes := #[] }] 49 2 #[] #[{ accessFlags := 18, nameIndex := 34, descriptorIndex := 35, attributes := #[] }, { accessFlags := 18, nameIndex := 38, descriptorIndex := 35, attributes := #[] }])
  fields := #[{ name := "line", type := .int, accessFlags := 18, slot := 0, constantValue := 0 }, { name := "column", type := .int, accessFlags := 18, slot := 1, constantValue := 0 }]
  methods := #[k4m0, k4m1]
  instanceTypes := #[.int, .int]
  staticTypes := #[]
  resolved := Array.replicate 106 none
  statics := none }

def pool5 : Array CpInfo := pool [(1, .class_ 2), (0, u "java/lang/Appendable"), (0, .class_ 4), (0, u "java/lang/Object")] 9

/-- java/lang/Appendable -/
def k5 : Class := { plain "java/lang/Appendable" (some 0) with
  accessFlags := 1537
  interfaces := #[]
  cf := some (fileOf pool5 1 #[] #[] 1537 3 #[] #[])
  fields := #[]
  methods := #[]
  instanceTypes := #[]
  staticTypes := #[]
  resolved := Array.replicate 14 none
  statics := none }

def pool6 : Array CpInfo := pool [(2, .class_ 4), (1, u "java/lang/CharSequence"), (42, .class_ 48), (0, u "java/lang/CharSequence$1CodePointIterator"), (10, .class_ 60), (0, u "java/lang/CharSequence$1CharIterator"), (5, .class_ 67), (0, u "java/lang/Object")] 63

/-- java/lang/CharSequence -/
def k6 : Class := { plain "java/lang/CharSequence" (some 0) with
  accessFlags := 1537
  interfaces := #[]
  cf := some (fileOf pool6 2 #[.nestMembers #[47, 59]] #[] 1537 66 #[] #[])
  fields := #[]
  methods := #[]
  instanceTypes := #[]
  staticTypes := #[]
  resolved := Array.replicate 131 none
  statics := none }

def pool7 : Array CpInfo := pool [(1, .class_ 2), (0, u "java/lang/String"), (0, .methodref 4 5), (0, .class_ 6), (0, .nameAndType 7 8), (0, u "java/lang/Object"), (0, u "<init>"), (0, u "()V"), (1, .class_ 12), (1, u "java/lang/AbstractStringBuilder"), (0, u "EMPTYVALUE"), (0, u "[B"), (0, .fieldref 10 16), (0, .nameAndType 17 14), (0, u "value"), (0, .fieldref 1 19), (0, .nameAndType 20 21), (0, u "COMPACT_STRINGS"), (0, u "Z"), (0, .fieldref 10 23), (0, .nameAndType 24 25), (0, u "coder"), (0, u "B"), (6, .methodref 1 33), (0, .nameAndType 34 35), (0, u "length"), (0, u "()I"), (0, .class_ 37), (0, u "java/lang/Integer"), (1, .integer 2147483647), (0, .methodref 1 41), (0, .nameAndType 24 42), (0, u "()B"), (2, u "append"), (0, u "(Ljava/lang/String;)Ljava/lang/AbstractStringBuilder;"), (1, .class_ 49), (0, u "java/lang/CharSequence"), (19, u "(Ljava/lang/String;)V"), (5, u "maybeLatin1"), (3, .fieldref 10 80), (0, .nameAndType 81 82), (0, u "count"), (0, u "I"), (0, .methodref 10 84), (0, .nameAndType 85 86), (0, u "isLatin1"), (0, u "()Z"), (13, .methodref 10 101), (0, .nameAndType 102 103), (0, u "ensureCapacityInternal"), (0, u "(I)V"), (0, .methodref 10 105), (0, .nameAndType 106 107), (0, u "newCapacity"), (0, u "(I)I"), (0, .methodref 109 110), (0, .class_ 111), (0, .nameAndType 112 113), (0, u "java/util/Arrays"), (0, u "copyOf"), (0, u "([BI)[B"), (0, .methodref 115 116), (0, .class_ 117), (0, .nameAndType 118 119), (0, u "jdk/internal/util/ArraysSupport"), (0, u "newLength"), (0, u "(III)I"), (68, u "getChars"), (19, .methodref 10 209), (0, .nameAndType 210 211), (0, u "putStringAt"), (0, u "(ILjava/lang/String;)V"), (5, u "inflateIfNeededFor"), (2, .nameAndType 221 222), (0, u "getBytes"), (0, u "([BIB)V"), (22, .methodref 36 246), (0, .nameAndType 247 107), (0, u "stringSize"), (0, .methodref 36 249), (0, .nameAndType 188 250), (0, u "(II[B)I"), (146, .methodref 10 398), (0, .nameAndType 217 69), (0, .methodref 1 220), (3, u "()[B"), (40, .class_ 445), (0, u "java/lang/Appendable"), (65, u "(I)Ljava/lang/AbstractStringBuilder;"), (40, u "getValue")] 56

def k7m0 : Method := { name := "<init>", desc := "()V", sig := { parameters := [], returnType := none }, accessFlags := 0, code := none }
def k7c1 : Code := { maxStack := 2, maxLocals := 2, code := jdk_68_method_2_code, exceptionTable := #[], attributes := #[] }
def k7m1 : Method := { name := "<init>", desc := "(I)V", sig := { parameters := [.int], returnType := none }, accessFlags := 0, code := some k7c1 }
def k7c2 : Code := { maxStack := 1, maxLocals := 1, code := jdk_68_method_6_code, exceptionTable := #[], attributes := #[] }
def k7m2 : Method := { name := "length", desc := "()I", sig := { parameters := [], returnType := some .int }, accessFlags := 1, code := some k7c2 }
def k7c3 : Code := { maxStack := 4, maxLocals := 3, code := jdk_68_method_9_code, exceptionTable := #[], attributes := #[] }
def k7m3 : Method := { name := "ensureCapacityInternal", desc := "(I)V", sig := { parameters := [.int], returnType := none }, accessFlags := 2, code := some k7c3 }
def k7c4 : Code := { maxStack := 5, maxLocals := 6, code := jdk_68_method_10_code, exceptionTable := #[], attributes := #[] }
def k7m4 : Method := { name := "newCapacity", desc := "(I)I", sig := { parameters := [.int], returnType := some .int }, accessFlags := 2, code := some k7c4 }
def k7c5 : Code := { maxStack := 3, maxLocals := 3, code := jdk_68_method_22_code, exceptionTable := #[], attributes := #[] }
def k7m5 : Method := { name := "append", desc := "(Ljava/lang/String;)Ljava/lang/AbstractStringBuilder;", sig := { parameters := [(.object "java/lang/String")], returnType := some (.object "java/lang/AbstractStringBuilder") }, accessFlags := 1, code := some k7c5 }
def k7c6 : Code := { maxStack := 4, maxLocals := 4, code := jdk_68_method_32_code, exceptionTable := #[], attributes := #[] }
def k7m6 : Method := { name := "append", desc := "(I)Ljava/lang/AbstractStringBuilder;", sig := { parameters := [.int], returnType := some (.object "java/lang/AbstractStringBuilder") }, accessFlags := 1, code := some k7c6 }
def k7c7 : Code := { maxStack := 1, maxLocals := 1, code := jdk_68_method_64_code, exceptionTable := #[], attributes := #[] }
def k7m7 : Method := { name := "getValue", desc := "()[B", sig := { parameters := [], returnType := some (.array .byte) }, accessFlags := 16, code := some k7c7 }
def k7c8 : Code := { maxStack := 1, maxLocals := 1, code := jdk_68_method_68_code, exceptionTable := #[], attributes := #[] }
def k7m8 : Method := { name := "isLatin1", desc := "()Z", sig := { parameters := [], returnType := some .boolean }, accessFlags := 16, code := some k7c8 }
def k7c9 : Code := { maxStack := 2, maxLocals := 2, code := jdk_68_method_71_code, exceptionTable := #[], attributes := #[] }
def k7m9 : Method := { name := "inflateIfNeededFor", desc := "(Ljava/lang/String;)V", sig := { parameters := [(.object "java/lang/String")], returnType := none }, accessFlags := 2, code := some k7c9 }
def k7c10 : Code := { maxStack := 4, maxLocals := 3, code := jdk_68_method_73_code, exceptionTable := #[], attributes := #[] }
def k7m10 : Method := { name := "putStringAt", desc := "(ILjava/lang/String;)V", sig := { parameters := [.int, (.object "java/lang/String")], returnType := none }, accessFlags := 2, code := some k7c10 }
/-- java/lang/AbstractStringBuilder -/
def k7 : Class := { plain "java/lang/AbstractStringBuilder" (some 0) with
  accessFlags := 1056
  interfaces := #[5, 6]
  cf := some (fileOf pool7 10 #[] #[{ accessFlags := 0, nameIndex := 7, descriptorIndex := 8, attributes := #[] }, { accessFlags := 0, nameIndex := 7, descriptorIndex := 103, attributes := #[] }, { accessFlags := 1, nameIndex := 34, descriptorIndex := 35, attributes := #[] }, { accessFlags := 2, nameIndex := 102, descriptorIndex := 103, attributes := #[] }, { accessFlags := 2, nameIndex := 106, descriptorIndex := 107, attributes := #[] }, { accessFlags := 1, nameIndex := 45, descriptorIndex := 46, attributes := #[] }, { accessFlags := 1, nameIndex := 45, descriptorIndex := 511, attributes := #[] }, { accessFlags := 16, nameIndex := 552, descriptorIndex := 403, attributes := #[] }, { accessFlags := 16, nameIndex := 85, descriptorIndex := 86, attributes := #[] }, { accessFlags := 2, nameIndex := 217, descriptorIndex := 69, attributes := #[] }, { accessFlags := 2, nameIndex := 210, descriptorIndex := 211, attributes := #[] }] 1056 4 #[444, 48] #[{ accessFlags := 0, nameIndex := 17, descriptorIndex := 14, attributes := #[] }, { accessFlags := 0, nameIndex := 24, descriptorIndex := 25, attributes := #[] }, { accessFlags := 0, nameIndex := 75, descriptorIndex := 21, attributes := #[] }, { accessFlags := 0, nameIndex := 81, descriptorIndex := 82, attributes := #[] }, { accessFlags := 26, nameIndex := 13, descriptorIndex := 14, attributes := #[] }])
  fields := #[{ name := "value", type := (.array .byte), accessFlags := 0, slot := 0, constantValue := 0 }, { name := "coder", type := .byte, accessFlags := 0, slot := 1, constantValue := 0 }, { name := "maybeLatin1", type := .boolean, accessFlags := 0, slot := 2, constantValue := 0 }, { name := "count", type := .int, accessFlags := 0, slot := 3, constantValue := 0 }, { name := "EMPTYVALUE", type := (.array .byte), accessFlags := 26, slot := 0, constantValue := 0 }]
  methods := #[k7m0, k7m1, k7m2, k7m3, k7m4, k7m5, k7m6, k7m7, k7m8, k7m9, k7m10]
  instanceTypes := #[(.array .byte), .byte, .boolean, .int]
  staticTypes := #[(.array .byte)]
  resolved := Array.replicate 609 none
  statics := none }

def pool8 : Array CpInfo := pool [(1, .class_ 2), (0, u "java/io/Serializable"), (0, .class_ 4), (0, u "java/lang/Object")] 2

/-- java/io/Serializable -/
def k8 : Class := { plain "java/io/Serializable" (some 0) with
  accessFlags := 1537
  interfaces := #[]
  cf := some (fileOf pool8 1 #[] #[] 1537 3 #[] #[])
  fields := #[]
  methods := #[]
  instanceTypes := #[]
  staticTypes := #[]
  resolved := Array.replicate 7 none
  statics := none }

def pool9 : Array CpInfo := pool [(1, .class_ 2), (0, u "java/lang/Comparable"), (0, .class_ 4), (0, u "java/lang/Object")] 7

/-- java/lang/Comparable -/
def k9 : Class := { plain "java/lang/Comparable" (some 0) with
  accessFlags := 1537
  interfaces := #[]
  cf := some (fileOf pool9 1 #[] #[] 1537 3 #[] #[])
  fields := #[]
  methods := #[]
  instanceTypes := #[]
  staticTypes := #[]
  resolved := Array.replicate 12 none
  statics := none }

def pool10 : Array CpInfo := pool [(1, .methodref 2 3), (0, .class_ 4), (0, .nameAndType 5 6), (0, u "java/lang/AbstractStringBuilder"), (0, u "<init>"), (0, u "(I)V"), (11, .class_ 20), (1, u "java/lang/String"), (3, .class_ 26), (1, u "java/lang/StringBuilder"), (0, u "append"), (0, u "(Ljava/lang/String;)Ljava/lang/StringBuilder;"), (0, .methodref 2 30), (0, .nameAndType 27 31), (0, u "(Ljava/lang/String;)Ljava/lang/AbstractStringBuilder;"), (21, .methodref 2 54), (0, .nameAndType 27 55), (0, u "(I)Ljava/lang/AbstractStringBuilder;"), (81, .methodref 18 138), (0, .nameAndType 5 139), (0, u "(Ljava/lang/StringBuilder;)V"), (5, u "()V"), (10, u "()I"), (111, u "(I)Ljava/lang/StringBuilder;"), (74, .methodref 2 344), (0, .nameAndType 345 156), (0, u "length"), (3, .class_ 350), (0, u "java/lang/Appendable"), (0, .class_ 352), (0, u "java/io/Serializable"), (0, .class_ 354), (0, u "java/lang/Comparable"), (0, .class_ 356), (0, u "java/lang/CharSequence"), (0, u "serialVersionUID"), (0, u "J"), (40, u "toString"), (0, u "()Ljava/lang/String;")] 21

def k10c0 : Code := { maxStack := 2, maxLocals := 1, code := jdk_67_method_1_code, exceptionTable := #[], attributes := #[] }
def k10m0 : Method := { name := "<init>", desc := "()V", sig := { parameters := [], returnType := none }, accessFlags := 1, code := some k10c0 }
def k10c1 : Code := { maxStack := 2, maxLocals := 2, code := jdk_67_method_7_code, exceptionTable := #[], attributes := #[] }
def k10m1 : Method := { name := "append", desc := "(Ljava/lang/String;)Ljava/lang/StringBuilder;", sig := { parameters := [(.object "java/lang/String")], returnType := some (.object "java/lang/StringBuilder") }, accessFlags := 1, code := some k10c1 }
def k10c2 : Code := { maxStack := 2, maxLocals := 2, code := jdk_67_method_15_code, exceptionTable := #[], attributes := #[] }
def k10m2 : Method := { name := "append", desc := "(I)Ljava/lang/StringBuilder;", sig := { parameters := [.int], returnType := some (.object "java/lang/StringBuilder") }, accessFlags := 1, code := some k10c2 }
def k10c3 : Code := { maxStack := 3, maxLocals := 1, code := jdk_67_method_42_code, exceptionTable := #[], attributes := #[] }
def k10m3 : Method := { name := "toString", desc := "()Ljava/lang/String;", sig := { parameters := [], returnType := some (.object "java/lang/String") }, accessFlags := 1, code := some k10c3 }
def k10c4 : Code := { maxStack := 1, maxLocals := 1, code := jdk_67_method_93_code, exceptionTable := #[], attributes := #[] }
def k10m4 : Method := { name := "length", desc := "()I", sig := { parameters := [], returnType := some .int }, accessFlags := 4161, code := some k10c4 }
/-- java/lang/StringBuilder -/
def k10 : Class := { plain "java/lang/StringBuilder" (some 7) with
  accessFlags := 49
  interfaces := #[5, 8, 9, 6]
  cf := some (fileOf pool10 24 #[] #[{ accessFlags := 1, nameIndex := 5, descriptorIndex := 145, attributes := #[] }, { accessFlags := 1, nameIndex := 27, descriptorIndex := 28, attributes := #[] }, { accessFlags := 1, nameIndex := 27, descriptorIndex := 268, attributes := #[] }, { accessFlags := 1, nameIndex := 399, descriptorIndex := 400, attributes := #[] }, { accessFlags := 4161, nameIndex := 345, descriptorIndex := 156, attributes := #[] }] 49 2 #[349, 351, 353, 355] #[{ accessFlags := 24, nameIndex := 357, descriptorIndex := 358, attributes := #[] }])
  fields := #[{ name := "serialVersionUID", type := .long, accessFlags := 24, slot := 0, constantValue := 0 }]
  methods := #[k10m0, k10m1, k10m2, k10m3, k10m4]
  instanceTypes := #[(.array .byte), .byte, .boolean, .int]
  staticTypes := #[.long]
  resolved := Array.replicate 422 none
  statics := none }

def pool11 : Array CpInfo := pool [(1, .class_ 2), (0, u "java/lang/constant/Constable"), (0, .class_ 4), (0, u "java/lang/Object")] 6

/-- java/lang/constant/Constable -/
def k11 : Class := { plain "java/lang/constant/Constable" (some 0) with
  accessFlags := 1537
  interfaces := #[]
  cf := some (fileOf pool11 1 #[] #[] 1537 3 #[] #[])
  fields := #[]
  methods := #[]
  instanceTypes := #[]
  staticTypes := #[]
  resolved := Array.replicate 11 none
  statics := none }

def pool12 : Array CpInfo := pool [(1, .class_ 2), (0, u "java/lang/constant/ConstantDesc"), (0, .class_ 4), (0, u "java/lang/Object")] 32

/-- java/lang/constant/ConstantDesc -/
def k12 : Class := { plain "java/lang/constant/ConstantDesc" (some 0) with
  accessFlags := 1537
  interfaces := #[]
  cf := some (fileOf pool12 1 #[] #[] 1537 3 #[] #[])
  fields := #[]
  methods := #[]
  instanceTypes := #[]
  staticTypes := #[]
  resolved := Array.replicate 37 none
  statics := none }

def pool13 : Array CpInfo := pool [(1, .methodref 2 3), (0, .class_ 4), (0, .nameAndType 5 6), (0, u "java/lang/Object"), (0, u "<init>"), (0, u "()V"), (2, .fieldref 10 11), (0, .class_ 12), (0, .nameAndType 13 14), (0, u "java/lang/String"), (0, u "value"), (0, u "[B"), (0, .fieldref 10 16), (0, .nameAndType 17 18), (0, u "coder"), (0, u "B"), (2, u "hash"), (0, u "I"), (2, u "hashIsZero"), (0, u "Z"), (11, .fieldref 10 39), (0, .nameAndType 40 26), (0, u "COMPACT_STRINGS"), (13, .methodref 55 56), (0, .class_ 57), (0, .nameAndType 58 59), (0, u "java/util/Arrays"), (0, u "copyOfRange"), (0, u "([BII)[B"), (47, .class_ 109), (1, u "java/lang/StringLatin1"), (32, u "()Z"), (50, .class_ 195), (1, u "java/lang/System"), (16, .methodref 193 213), (0, .nameAndType 214 215), (0, u "arraycopy"), (0, u "(Ljava/lang/Object;ILjava/lang/Object;II)V"), (118, u "()I"), (0, .methodref 10 336), (0, .nameAndType 17 337), (0, u "()B"), (2, u "()[B"), (22, u "([BI)C"), (27, u "(II)V"), (35, u "(I)C"), (61, .methodref 10 490), (0, .nameAndType 5 491), (0, u "(Ljava/lang/AbstractStringBuilder;Ljava/lang/Void;)V"), (0, .methodref 10 493), (0, .nameAndType 494 142), (0, u "isLatin1"), (0, .methodref 107 496), (0, .nameAndType 497 363), (0, u "charAt"), (3, u "checkIndex"), (4, .nameAndType 507 334), (0, u "length"), (24, u "getBytes"), (16, .methodref 550 506), (0, .class_ 551), (0, u "java/lang/AbstractStringBuilder"), (0, .methodref 550 553), (0, .nameAndType 554 340), (0, u "getValue"), (20, .class_ 576), (0, u "java/lang/CharSequence"), (22, u "CASE_INSENSITIVE_ORDER"), (0, u "Ljava/util/Comparator;"), (220, u "([BIB)V"), (225, .methodref 550 493), (5, .fieldref 1054 1055), (0, .class_ 1056), (0, .nameAndType 1057 1058), (0, u "jdk/internal/util/Preconditions"), (0, u "SIOOBE_FORMATTER"), (0, u "Ljava/util/function/BiFunction;"), (0, .methodref 1054 1060), (0, .nameAndType 501 1061), (0, u "(IILjava/util/function/BiFunction;)I"), (39, u "serialPersistentFields"), (0, u "[Ljava/io/ObjectStreamField;"), (0, .class_ 1104), (0, u "java/lang/String$CaseInsensitiveComparator"), (1, .class_ 1107), (0, u "java/io/Serializable"), (0, .class_ 1109), (0, u "java/lang/Comparable"), (0, .class_ 1111), (0, u "java/lang/constant/Constable"), (0, .class_ 1113), (0, u "java/lang/constant/ConstantDesc"), (2, u "serialVersionUID"), (0, u "J"), (3, u "REPL"), (0, u "C"), (2, u "LATIN1"), (1, u "UTF16"), (105, u "(Ljava/lang/StringBuilder;)V")] 217

def k13m0 : Method := { name := "<init>", desc := "()V", sig := { parameters := [], returnType := none }, accessFlags := 1, code := none }
def k13c1 : Code := { maxStack := 3, maxLocals := 2, code := jdk_42_method_53_code, exceptionTable := #[], attributes := #[] }
def k13m1 : Method := { name := "<init>", desc := "(Ljava/lang/StringBuilder;)V", sig := { parameters := [(.object "java/lang/StringBuilder")], returnType := none }, accessFlags := 1, code := some k13c1 }
def k13c2 : Code := { maxStack := 2, maxLocals := 1, code := jdk_42_method_54_code, exceptionTable := #[], attributes := #[] }
def k13m2 : Method := { name := "length", desc := "()I", sig := { parameters := [], returnType := some .int }, accessFlags := 1, code := some k13c2 }
def k13c3 : Code := { maxStack := 2, maxLocals := 2, code := jdk_42_method_56_code, exceptionTable := #[], attributes := #[] }
def k13m3 : Method := { name := "charAt", desc := "(I)C", sig := { parameters := [.int], returnType := some .char }, accessFlags := 1, code := some k13c3 }
def k13c4 : Code := { maxStack := 5, maxLocals := 4, code := jdk_42_method_147_code, exceptionTable := #[], attributes := #[] }
def k13m4 : Method := { name := "getBytes", desc := "([BIB)V", sig := { parameters := [(.array .byte), .int, .byte], returnType := none }, accessFlags := 0, code := some k13c4 }
def k13c5 : Code := { maxStack := 5, maxLocals := 5, code := jdk_42_method_150_code, exceptionTable := #[], attributes := #[] }
def k13m5 : Method := { name := "<init>", desc := "(Ljava/lang/AbstractStringBuilder;Ljava/lang/Void;)V", sig := { parameters := [(.object "java/lang/AbstractStringBuilder"), (.object "java/lang/Void")], returnType := none }, accessFlags := 0, code := some k13c5 }
def k13c6 : Code := { maxStack := 1, maxLocals := 1, code := jdk_42_method_152_code, exceptionTable := #[], attributes := #[] }
def k13m6 : Method := { name := "coder", desc := "()B", sig := { parameters := [], returnType := some .byte }, accessFlags := 0, code := some k13c6 }
def k13c7 : Code := { maxStack := 1, maxLocals := 1, code := jdk_42_method_154_code, exceptionTable := #[], attributes := #[] }
def k13m7 : Method := { name := "isLatin1", desc := "()Z", sig := { parameters := [], returnType := some .boolean }, accessFlags := 0, code := some k13c7 }
def k13c8 : Code := { maxStack := 3, maxLocals := 2, code := jdk_42_method_155_code, exceptionTable := #[], attributes := #[] }
def k13m8 : Method := { name := "checkIndex", desc := "(II)V", sig := { parameters := [.int, .int], returnType := none }, accessFlags := 8, code := some k13c8 }
/-- java/lang/String -/
def k13 : Class := { plain "java/lang/String" (some 0) with
  accessFlags := 49
  interfaces := #[8, 9, 6, 11, 12]
  cf := some (fileOf pool13 10 #[.nestMembers #[1103]] #[{ accessFlags := 1, nameIndex := 5, descriptorIndex := 6, attributes := #[] }, { accessFlags := 1, nameIndex := 5, descriptorIndex := 1233, attributes := #[] }, { accessFlags := 1, nameIndex := 507, descriptorIndex := 334, attributes := #[] }, { accessFlags := 1, nameIndex := 497, descriptorIndex := 427, attributes := #[] }, { accessFlags := 0, nameIndex := 532, descriptorIndex := 821, attributes := #[] }, { accessFlags := 0, nameIndex := 5, descriptorIndex := 491, attributes := #[] }, { accessFlags := 0, nameIndex := 17, descriptorIndex := 337, attributes := #[] }, { accessFlags := 0, nameIndex := 494, descriptorIndex := 142, attributes := #[] }, { accessFlags := 8, nameIndex := 501, descriptorIndex := 391, attributes := #[] }] 49 2 #[1106, 1108, 575, 1110, 1112] #[{ accessFlags := 18, nameIndex := 13, descriptorIndex := 14, attributes := #[] }, { accessFlags := 18, nameIndex := 17, descriptorIndex := 18, attributes := #[] }, { accessFlags := 2, nameIndex := 21, descriptorIndex := 22, attributes := #[] }, { accessFlags := 2, nameIndex := 25, descriptorIndex := 26, attributes := #[] }, { accessFlags := 26, nameIndex := 1116, descriptorIndex := 1117, attributes := #[] }, { accessFlags := 24, nameIndex := 40, descriptorIndex := 26, attributes := #[] }, { accessFlags := 26, nameIndex := 1101, descriptorIndex := 1102, attributes := #[] }, { accessFlags := 26, nameIndex := 1121, descriptorIndex := 1122, attributes := #[] }, { accessFlags := 25, nameIndex := 599, descriptorIndex := 600, attributes := #[] }, { accessFlags := 24, nameIndex := 1125, descriptorIndex := 18, attributes := #[] }, { accessFlags := 24, nameIndex := 1127, descriptorIndex := 18, attributes := #[] }])
  fields := #[{ name := "value", type := (.array .byte), accessFlags := 18, slot := 0, constantValue := 0 }, { name := "coder", type := .byte, accessFlags := 18, slot := 1, constantValue := 0 }, { name := "hash", type := .int, accessFlags := 2, slot := 2, constantValue := 0 }, { name := "hashIsZero", type := .boolean, accessFlags := 2, slot := 3, constantValue := 0 }, { name := "serialVersionUID", type := .long, accessFlags := 26, slot := 0, constantValue := 0 }, { name := "COMPACT_STRINGS", type := .boolean, accessFlags := 24, slot := 1, constantValue := 0 }, { name := "serialPersistentFields", type := (.array (.object "java/io/ObjectStreamField")), accessFlags := 26, slot := 2, constantValue := 0 }, { name := "REPL", type := .char, accessFlags := 26, slot := 3, constantValue := 0 }, { name := "CASE_INSENSITIVE_ORDER", type := (.object "java/util/Comparator"), accessFlags := 25, slot := 4, constantValue := 0 }, { name := "LATIN1", type := .byte, accessFlags := 24, slot := 5, constantValue := 0 }, { name := "UTF16", type := .byte, accessFlags := 24, slot := 6, constantValue := 0 }]
  methods := #[k13m0, k13m1, k13m2, k13m3, k13m4, k13m5, k13m6, k13m7, k13m8]
  instanceTypes := #[(.array .byte), .byte, .int, .boolean]
  staticTypes := #[.long, .boolean, (.array (.object "java/io/ObjectStreamField")), .char, (.object "java/util/Comparator"), .byte, .byte]
  resolved := Array.replicate 1451 none
  statics := some 0 }

def pool14 : Array CpInfo := pool [(2, .class_ 4), (1, u "java/lang/Object"), (0, u "<init>"), (0, u "()V"), (1, .class_ 10), (1, u "java/lang/System"), (0, u "allowSecurityManager"), (0, u "I"), (16, u "cons"), (0, u "Ljava/io/Console;"), (77, .class_ 110), (1, u "java/lang/System$CallersHolder"), (43, u "initialErrStream"), (0, u "Ljava/io/PrintStream;"), (19, u "security"), (0, u "Ljava/lang/SecurityManager;"), (31, .class_ 209), (0, u "java/lang/System$1"), (7, u "props"), (0, u "Ljava/util/Properties;"), (2, u "lineSeparator"), (0, u "Ljava/lang/String;"), (96, .class_ 321), (1, u "java/lang/System$LoggerFinder"), (5, .class_ 328), (0, u "java/lang/System$Logger"), (67, u "err"), (2, u "out"), (91, u "notSupportedJnuEncoding"), (15, u "in"), (17, u "initialIn"), (0, u "Ljava/io/InputStream;"), (35, u "bootLayer"), (0, u "Ljava/lang/ModuleLayer;"), (99, .class_ 664), (0, u "java/lang/System$2"), (9, u "NEVER"), (2, u "MAYBE"), (49, u "arraycopy"), (0, u "(Ljava/lang/Object;ILjava/lang/Object;II)V"), (72, .class_ 802), (0, u "java/lang/System$Logger$Level")] 31

def k14m0 : Method := { name := "<init>", desc := "()V", sig := { parameters := [], returnType := none }, accessFlags := 2, code := none }
def k14m1 : Method := { name := "arraycopy", desc := "(Ljava/lang/Object;ILjava/lang/Object;II)V", sig := { parameters := [(.object "java/lang/Object"), .int, (.object "java/lang/Object"), .int, .int], returnType := none }, accessFlags := 265, code := none }
/-- java/lang/System -/
def k14 : Class := { plain "java/lang/System" (some 0) with
  accessFlags := 49
  interfaces := #[]
  cf := some (fileOf pool14 8 #[.nestMembers #[319, 327, 801, 108, 663, 208]] #[{ accessFlags := 2, nameIndex := 5, descriptorIndex := 6, attributes := #[] }, { accessFlags := 265, nameIndex := 727, descriptorIndex := 728, attributes := #[] }] 49 2 #[] #[{ accessFlags := 25, nameIndex := 507, descriptorIndex := 526, attributes := #[] }, { accessFlags := 25, nameIndex := 399, descriptorIndex := 155, attributes := #[] }, { accessFlags := 25, nameIndex := 396, descriptorIndex := 155, attributes := #[] }, { accessFlags := 10, nameIndex := 525, descriptorIndex := 526, attributes := #[] }, { accessFlags := 26, nameIndex := 674, descriptorIndex := 12, attributes := #[] }, { accessFlags := 26, nameIndex := 677, descriptorIndex := 12, attributes := #[] }, { accessFlags := 10, nameIndex := 11, descriptorIndex := 12, attributes := #[] }, { accessFlags := 74, nameIndex := 175, descriptorIndex := 176, attributes := #[] }, { accessFlags := 10, nameIndex := 491, descriptorIndex := 222, attributes := #[] }, { accessFlags := 74, nameIndex := 29, descriptorIndex := 30, attributes := #[] }, { accessFlags := 74, nameIndex := 154, descriptorIndex := 155, attributes := #[] }, { accessFlags := 10, nameIndex := 217, descriptorIndex := 218, attributes := #[] }, { accessFlags := 10, nameIndex := 221, descriptorIndex := 222, attributes := #[] }, { accessFlags := 8, nameIndex := 562, descriptorIndex := 563, attributes := #[] }])
  fields := #[{ name := "in", type := (.object "java/io/InputStream"), accessFlags := 25, slot := 0, constantValue := 0 }, { name := "out", type := (.object "java/io/PrintStream"), accessFlags := 25, slot := 1, constantValue := 0 }, { name := "err", type := (.object "java/io/PrintStream"), accessFlags := 25, slot := 2, constantValue := 0 }, { name := "initialIn", type := (.object "java/io/InputStream"), accessFlags := 10, slot := 3, constantValue := 0 }, { name := "NEVER", type := .int, accessFlags := 26, slot := 4, constantValue := 0 }, { name := "MAYBE", type := .int, accessFlags := 26, slot := 5, constantValue := 0 }, { name := "allowSecurityManager", type := .int, accessFlags := 10, slot := 6, constantValue := 0 }, { name := "security", type := (.object "java/lang/SecurityManager"), accessFlags := 74, slot := 7, constantValue := 0 }, { name := "notSupportedJnuEncoding", type := (.object "java/lang/String"), accessFlags := 10, slot := 8, constantValue := 0 }, { name := "cons", type := (.object "java/io/Console"), accessFlags := 74, slot := 9, constantValue := 0 }, { name := "initialErrStream", type := (.object "java/io/PrintStream"), accessFlags := 74, slot := 10, constantValue := 0 }, { name := "props", type := (.object "java/util/Properties"), accessFlags := 10, slot := 11, constantValue := 0 }, { name := "lineSeparator", type := (.object "java/lang/String"), accessFlags := 10, slot := 12, constantValue := 0 }, { name := "bootLayer", type := (.object "java/lang/ModuleLayer"), accessFlags := 8, slot := 13, constantValue := 0 }]
  methods := #[k14m0, k14m1]
  instanceTypes := #[]
  staticTypes := #[(.object "java/io/InputStream"), (.object "java/io/PrintStream"), (.object "java/io/PrintStream"), (.object "java/io/InputStream"), .int, .int, .int, (.object "java/lang/SecurityManager"), (.object "java/lang/String"), (.object "java/io/Console"), (.object "java/io/PrintStream"), (.object "java/util/Properties"), (.object "java/lang/String"), (.object "java/lang/ModuleLayer")]
  resolved := Array.replicate 834 none
  statics := none }

def pool15 : Array CpInfo := pool [(2, .class_ 4), (1, u "java/lang/Object"), (0, u "<init>"), (0, u "()V"), (1, .class_ 10), (1, u "java/lang/Number"), (2, .class_ 14), (0, u "java/io/Serializable"), (0, u "serialVersionUID"), (0, u "J")] 20

def k15m0 : Method := { name := "<init>", desc := "()V", sig := { parameters := [], returnType := none }, accessFlags := 1, code := none }
/-- java/lang/Number -/
def k15 : Class := { plain "java/lang/Number" (some 0) with
  accessFlags := 1057
  interfaces := #[8]
  cf := some (fileOf pool15 8 #[] #[{ accessFlags := 1, nameIndex := 5, descriptorIndex := 6, attributes := #[] }] 1057 2 #[13] #[{ accessFlags := 26, nameIndex := 15, descriptorIndex := 16, attributes := #[] }])
  fields := #[{ name := "serialVersionUID", type := .long, accessFlags := 26, slot := 0, constantValue := 0 }]
  methods := #[k15m0]
  instanceTypes := #[]
  staticTypes := #[.long]
  resolved := Array.replicate 37 none
  statics := none }

def pool16 : Array CpInfo := pool [(1, .class_ 2), (0, u "java/lang/Integer"), (16, u "digits"), (0, u "[C"), (33, u "(I)I"), (19, u "stringSize"), (2, u "getChars"), (0, u "(II[B)I"), (4, .fieldref 1 84), (0, .nameAndType 85 86), (0, u "DigitOnes"), (0, u "[B"), (0, .fieldref 1 88), (0, .nameAndType 89 86), (0, u "DigitTens"), (99, .class_ 190), (0, u "java/lang/Integer$IntegerCache"), (3, u "I"), (8, .class_ 204), (0, u "java/lang/Number"), (2, u "value"), (94, u "TYPE"), (0, u "Ljava/lang/Class;"), (0, .class_ 305), (0, u "java/lang/Comparable"), (0, .class_ 307), (0, u "java/lang/constant/Constable"), (0, .class_ 309), (0, u "java/lang/constant/ConstantDesc"), (0, u "MIN_VALUE"), (1, u "MAX_VALUE"), (3, u "SIZE"), (1, u "BYTES"), (1, u "serialVersionUID"), (0, u "J")] 131

def k16c0 : Code := { maxStack := 4, maxLocals := 7, code := jdk_33_method_12_code, exceptionTable := #[], attributes := #[] }
def k16m0 : Method := { name := "getChars", desc := "(II[B)I", sig := { parameters := [.int, .int, (.array .byte)], returnType := some .int }, accessFlags := 8, code := some k16c0 }
def k16c1 : Code := { maxStack := 2, maxLocals := 4, code := jdk_33_method_13_code, exceptionTable := #[], attributes := #[] }
def k16m1 : Method := { name := "stringSize", desc := "(I)I", sig := { parameters := [.int], returnType := some .int }, accessFlags := 8, code := some k16c1 }
/-- java/lang/Integer -/
def k16 : Class := { plain "java/lang/Integer" (some 15) with
  accessFlags := 49
  interfaces := #[9, 11, 12]
  cf := some (fileOf pool16 1 #[.nestMembers #[189]] #[{ accessFlags := 8, nameIndex := 77, descriptorIndex := 78, attributes := #[] }, { accessFlags := 8, nameIndex := 74, descriptorIndex := 54, attributes := #[] }] 49 203 #[304, 306, 308] #[{ accessFlags := 25, nameIndex := 310, descriptorIndex := 194, attributes := #[] }, { accessFlags := 25, nameIndex := 312, descriptorIndex := 194, attributes := #[] }, { accessFlags := 25, nameIndex := 302, descriptorIndex := 303, attributes := #[] }, { accessFlags := 24, nameIndex := 19, descriptorIndex := 20, attributes := #[] }, { accessFlags := 24, nameIndex := 89, descriptorIndex := 86, attributes := #[] }, { accessFlags := 24, nameIndex := 85, descriptorIndex := 86, attributes := #[] }, { accessFlags := 18, nameIndex := 207, descriptorIndex := 194, attributes := #[] }, { accessFlags := 25, nameIndex := 316, descriptorIndex := 194, attributes := #[] }, { accessFlags := 25, nameIndex := 318, descriptorIndex := 194, attributes := #[] }, { accessFlags := 26, nameIndex := 320, descriptorIndex := 321, attributes := #[] }])
  fields := #[{ name := "MIN_VALUE", type := .int, accessFlags := 25, slot := 0, constantValue := 0 }, { name := "MAX_VALUE", type := .int, accessFlags := 25, slot := 1, constantValue := 0 }, { name := "TYPE", type := (.object "java/lang/Class"), accessFlags := 25, slot := 2, constantValue := 0 }, { name := "digits", type := (.array .char), accessFlags := 24, slot := 3, constantValue := 0 }, { name := "DigitTens", type := (.array .byte), accessFlags := 24, slot := 4, constantValue := 0 }, { name := "DigitOnes", type := (.array .byte), accessFlags := 24, slot := 5, constantValue := 0 }, { name := "value", type := .int, accessFlags := 18, slot := 0, constantValue := 0 }, { name := "SIZE", type := .int, accessFlags := 25, slot := 6, constantValue := 0 }, { name := "BYTES", type := .int, accessFlags := 25, slot := 7, constantValue := 0 }, { name := "serialVersionUID", type := .long, accessFlags := 26, slot := 8, constantValue := 0 }]
  methods := #[k16m0, k16m1]
  instanceTypes := #[.int]
  staticTypes := #[.int, .int, (.object "java/lang/Class"), (.array .char), (.array .byte), (.array .byte), .int, .int, .long]
  resolved := Array.replicate 453 none
  statics := some 1 }

def pool17 : Array CpInfo := pool [(2, .class_ 4), (1, u "java/lang/Object"), (0, u "<init>"), (0, u "()V"), (7, .class_ 16), (1, u "java/util/Arrays"), (57, .class_ 76), (1, u "java/util/Arrays$NaturalOrder"), (32, u "()Ljava/lang/Object;"), (3, .class_ 115), (1, u "java/util/Arrays$LegacyMergeSort"), (1, u "Z"), (10, .nameAndType 129 109), (0, u "clone"), (9, u "copyOfRange"), (10, .methodref 151 152), (0, .class_ 153), (0, .nameAndType 154 155), (0, u "java/lang/System"), (0, u "arraycopy"), (0, u "(Ljava/lang/Object;ILjava/lang/Object;II)V"), (146, u "copyOf"), (1, .methodref 305 306), (0, .class_ 307), (0, .nameAndType 308 309), (0, u "java/lang/Math"), (0, u "min"), (0, u "(II)I"), (0, .methodref 311 128), (0, .class_ 312), (0, u "[B"), (26, .methodref 14 340), (0, .nameAndType 341 342), (0, u "copyOfRangeByte"), (0, u "([BII)[B"), (0, .methodref 14 344), (0, .nameAndType 345 346), (0, u "checkLength"), (0, u "(II)V"), (28, .class_ 376), (0, u "java/util/Arrays$ArrayList"), (68, u "$assertionsDisabled"), (269, u "MIN_ARRAY_SORT_GRAN"), (0, u "I"), (2, u "INSERTIONSORT_THRESHOLD"), (149, u "([BI)[B"), (105, .class_ 976), (0, u "java/util/Arrays$ArrayItr")] 52

def k17m0 : Method := { name := "<init>", desc := "()V", sig := { parameters := [], returnType := none }, accessFlags := 2, code := none }
def k17c1 : Code := { maxStack := 6, maxLocals := 3, code := jdk_65_method_121_code, exceptionTable := #[], attributes := #[] }
def k17m1 : Method := { name := "copyOf", desc := "([BI)[B", sig := { parameters := [(.array .byte), .int], returnType := some (.array .byte) }, accessFlags := 9, code := some k17c1 }
def k17c2 : Code := { maxStack := 4, maxLocals := 2, code := jdk_65_method_131_code, exceptionTable := #[], attributes := #[] }
def k17m2 : Method := { name := "checkLength", desc := "(II)V", sig := { parameters := [.int, .int], returnType := none }, accessFlags := 10, code := some k17c2 }
def k17c3 : Code := { maxStack := 3, maxLocals := 3, code := jdk_65_method_132_code, exceptionTable := #[], attributes := #[] }
def k17m3 : Method := { name := "copyOfRange", desc := "([BII)[B", sig := { parameters := [(.array .byte), .int, .int], returnType := some (.array .byte) }, accessFlags := 9, code := some k17c3 }
def k17c4 : Code := { maxStack := 6, maxLocals := 5, code := jdk_65_method_133_code, exceptionTable := #[], attributes := #[] }
def k17m4 : Method := { name := "copyOfRangeByte", desc := "([BII)[B", sig := { parameters := [(.array .byte), .int, .int], returnType := some (.array .byte) }, accessFlags := 10, code := some k17c4 }
/-- java/util/Arrays -/
def k17 : Class := { plain "java/util/Arrays" (some 0) with
  accessFlags := 49
  interfaces := #[]
  cf := some (fileOf pool17 14 #[.nestMembers #[975, 375, 113, 74]] #[{ accessFlags := 2, nameIndex := 5, descriptorIndex := 6, attributes := #[] }, { accessFlags := 9, nameIndex := 302, descriptorIndex := 869, attributes := #[] }, { accessFlags := 10, nameIndex := 345, descriptorIndex := 346, attributes := #[] }, { accessFlags := 9, nameIndex := 139, descriptorIndex := 342, attributes := #[] }, { accessFlags := 10, nameIndex := 341, descriptorIndex := 342, attributes := #[] }] 49 2 #[] #[{ accessFlags := 26, nameIndex := 715, descriptorIndex := 716, attributes := #[] }, { accessFlags := 26, nameIndex := 719, descriptorIndex := 716, attributes := #[] }, { accessFlags := 4120, nameIndex := 445, descriptorIndex := 117, attributes := #[] }])
  fields := #[{ name := "MIN_ARRAY_SORT_GRAN", type := .int, accessFlags := 26, slot := 0, constantValue := 0 }, { name := "INSERTIONSORT_THRESHOLD", type := .int, accessFlags := 26, slot := 1, constantValue := 0 }, { name := "$assertionsDisabled", type := .boolean, accessFlags := 4120, slot := 2, constantValue := 0 }]
  methods := #[k17m0, k17m1, k17m2, k17m3, k17m4]
  instanceTypes := #[]
  staticTypes := #[.int, .int, .boolean]
  resolved := Array.replicate 1029 none
  statics := none }

def pool18 : Array CpInfo := pool [(1, .class_ 2), (0, u "java/lang/Cloneable"), (0, .class_ 4), (0, u "java/lang/Object")] 2

/-- java/lang/Cloneable -/
def k18 : Class := { plain "java/lang/Cloneable" (some 0) with
  accessFlags := 1537
  interfaces := #[]
  cf := some (fileOf pool18 1 #[] #[] 1537 3 #[] #[])
  fields := #[]
  methods := #[]
  instanceTypes := #[]
  staticTypes := #[]
  resolved := Array.replicate 7 none
  statics := none }

def pool19 : Array CpInfo := pool [(1, .class_ 2), (0, u "java/lang/String"), (1, .class_ 6), (1, u "java/lang/Object"), (0, u "<init>"), (0, u "()V"), (0, .methodref 1 10), (0, .nameAndType 11 12), (0, u "checkIndex"), (0, u "(II)V"), (1, .class_ 16), (1, u "java/lang/StringLatin1"), (36, u "([BI)C"), (67, u "$assertionsDisabled"), (0, u "Z"), (98, .class_ 223), (1, u "java/lang/StringLatin1$LinesSpliterator"), (28, u "charAt"), (137, .class_ 391), (0, u "java/lang/StringLatin1$CharsSpliterator")] 3

def k19m0 : Method := { name := "<init>", desc := "()V", sig := { parameters := [], returnType := none }, accessFlags := 0, code := none }
def k19c1 : Code := { maxStack := 2, maxLocals := 2, code := jdk_43_method_2_code, exceptionTable := #[], attributes := #[] }
def k19m1 : Method := { name := "charAt", desc := "([BI)C", sig := { parameters := [(.array .byte), .int], returnType := some .char }, accessFlags := 9, code := some k19c1 }
/-- java/lang/StringLatin1 -/
def k19 : Class := { plain "java/lang/StringLatin1" (some 0) with
  accessFlags := 48
  interfaces := #[]
  cf := some (fileOf pool19 14 #[.nestMembers #[390, 221]] #[{ accessFlags := 0, nameIndex := 7, descriptorIndex := 8, attributes := #[] }, { accessFlags := 9, nameIndex := 252, descriptorIndex := 53, attributes := #[] }] 48 4 #[] #[{ accessFlags := 4120, nameIndex := 121, descriptorIndex := 122, attributes := #[] }])
  fields := #[{ name := "$assertionsDisabled", type := .boolean, accessFlags := 4120, slot := 0, constantValue := 0 }]
  methods := #[k19m0, k19m1]
  instanceTypes := #[]
  staticTypes := #[.boolean]
  resolved := Array.replicate 395 none
  statics := none }

def pool20 : Array CpInfo := pool [(2, .class_ 4), (1, u "java/lang/Object"), (0, u "<init>"), (0, u "()V"), (17, .class_ 26), (1, u "jdk/internal/util/Preconditions"), (6, u "checkIndex"), (21, .class_ 56), (0, u "jdk/internal/util/Preconditions$4"), (57, .class_ 115), (0, u "jdk/internal/util/Preconditions$1"), (7, u "SIOOBE_FORMATTER"), (0, u "Ljava/util/function/BiFunction;"), (0, .class_ 126), (0, u "jdk/internal/util/Preconditions$2"), (3, u "AIOOBE_FORMATTER"), (0, .class_ 132), (0, u "jdk/internal/util/Preconditions$3"), (3, u "IOOBE_FORMATTER"), (41, u "(IILjava/util/function/BiFunction;)I")] 15

def k20m0 : Method := { name := "<init>", desc := "()V", sig := { parameters := [], returnType := none }, accessFlags := 1, code := none }
def k20c1 : Code := { maxStack := 3, maxLocals := 3, code := jdk_41_method_11_code, exceptionTable := #[], attributes := #[] }
def k20m1 : Method := { name := "checkIndex", desc := "(IILjava/util/function/BiFunction;)I", sig := { parameters := [.int, .int, (.object "java/util/function/BiFunction")], returnType := some .int }, accessFlags := 9, code := some k20c1 }
/-- jdk/internal/util/Preconditions -/
def k20 : Class := { plain "jdk/internal/util/Preconditions" (some 0) with
  accessFlags := 33
  interfaces := #[]
  cf := some (fileOf pool20 24 #[.nestMembers #[55, 131, 125, 114]] #[{ accessFlags := 1, nameIndex := 5, descriptorIndex := 6, attributes := #[] }, { accessFlags := 9, nameIndex := 33, descriptorIndex := 178, attributes := #[] }] 33 2 #[] #[{ accessFlags := 25, nameIndex := 123, descriptorIndex := 124, attributes := #[] }, { accessFlags := 25, nameIndex := 130, descriptorIndex := 124, attributes := #[] }, { accessFlags := 25, nameIndex := 136, descriptorIndex := 124, attributes := #[] }])
  fields := #[{ name := "SIOOBE_FORMATTER", type := (.object "java/util/function/BiFunction"), accessFlags := 25, slot := 0, constantValue := 0 }, { name := "AIOOBE_FORMATTER", type := (.object "java/util/function/BiFunction"), accessFlags := 25, slot := 1, constantValue := 0 }, { name := "IOOBE_FORMATTER", type := (.object "java/util/function/BiFunction"), accessFlags := 25, slot := 2, constantValue := 0 }]
  methods := #[k20m0, k20m1]
  instanceTypes := #[]
  staticTypes := #[(.object "java/util/function/BiFunction"), (.object "java/util/function/BiFunction"), (.object "java/util/function/BiFunction")]
  resolved := Array.replicate 194 none
  statics := some 2 }

def pool21 : Array CpInfo := pool [(9, u "<init>"), (6, .class_ 18), (1, u "java/lang/Object"), (0, u "()V"), (1, .class_ 23), (1, u "jdk/internal/util/ArraysSupport"), (0, u "LOG2_ARRAY_LONG_INDEX_SCALE"), (0, u "I"), (2, u "U"), (0, u "Ljdk/internal/misc/Unsafe;"), (8, u "BIG_ENDIAN"), (0, u "Z"), (8, u "LOG2_BYTE_BIT_SIZE"), (4, u "LOG2_ARRAY_INT_INDEX_SCALE"), (54, u "JLA"), (0, u "Ljdk/internal/access/JavaLangAccess;"), (11, u "LOG2_ARRAY_BOOLEAN_INDEX_SCALE"), (9, u "LOG2_ARRAY_BYTE_INDEX_SCALE"), (5, u "LOG2_ARRAY_CHAR_INDEX_SCALE"), (5, u "LOG2_ARRAY_SHORT_INDEX_SCALE"), (18, u "LOG2_ARRAY_FLOAT_INDEX_SCALE"), (24, u "LOG2_ARRAY_DOUBLE_INDEX_SCALE"), (6, .methodref 195 196), (0, .class_ 197), (0, .nameAndType 198 199), (0, u "java/lang/Math"), (0, u "max"), (0, u "(II)I"), (0, .integer 2147483639), (76, u "T_BOOLEAN"), (2, u "T_CHAR"), (1, u "T_FLOAT"), (1, u "T_DOUBLE"), (1, u "T_BYTE"), (1, u "T_SHORT"), (1, u "T_INT"), (1, u "T_LONG"), (1, u "SOFT_MAX_ARRAY_LENGTH"), (56, u "newLength"), (0, u "(III)I")] 25

def k21m0 : Method := { name := "<init>", desc := "()V", sig := { parameters := [], returnType := none }, accessFlags := 2, code := none }
def k21c1 : Code := { maxStack := 3, maxLocals := 4, code := jdk_48_method_27_code, exceptionTable := #[], attributes := #[] }
def k21m1 : Method := { name := "newLength", desc := "(III)I", sig := { parameters := [.int, .int, .int], returnType := some .int }, accessFlags := 9, code := some k21c1 }
/-- jdk/internal/util/ArraysSupport -/
def k21 : Class := { plain "jdk/internal/util/ArraysSupport" (some 0) with
  accessFlags := 33
  interfaces := #[]
  cf := some (fileOf pool21 21 #[] #[{ accessFlags := 2, nameIndex := 9, descriptorIndex := 19, attributes := #[] }, { accessFlags := 9, nameIndex := 351, descriptorIndex := 352, attributes := #[] }] 33 16 #[] #[{ accessFlags := 24, nameIndex := 28, descriptorIndex := 29, attributes := #[] }, { accessFlags := 26, nameIndex := 38, descriptorIndex := 39, attributes := #[] }, { accessFlags := 25, nameIndex := 121, descriptorIndex := 25, attributes := #[] }, { accessFlags := 25, nameIndex := 131, descriptorIndex := 25, attributes := #[] }, { accessFlags := 25, nameIndex := 137, descriptorIndex := 25, attributes := #[] }, { accessFlags := 25, nameIndex := 143, descriptorIndex := 25, attributes := #[] }, { accessFlags := 25, nameIndex := 53, descriptorIndex := 25, attributes := #[] }, { accessFlags := 25, nameIndex := 24, descriptorIndex := 25, attributes := #[] }, { accessFlags := 25, nameIndex := 162, descriptorIndex := 25, attributes := #[] }, { accessFlags := 25, nameIndex := 187, descriptorIndex := 25, attributes := #[] }, { accessFlags := 26, nameIndex := 48, descriptorIndex := 25, attributes := #[] }, { accessFlags := 25, nameIndex := 277, descriptorIndex := 25, attributes := #[] }, { accessFlags := 25, nameIndex := 280, descriptorIndex := 25, attributes := #[] }, { accessFlags := 25, nameIndex := 282, descriptorIndex := 25, attributes := #[] }, { accessFlags := 25, nameIndex := 284, descriptorIndex := 25, attributes := #[] }, { accessFlags := 25, nameIndex := 286, descriptorIndex := 25, attributes := #[] }, { accessFlags := 25, nameIndex := 288, descriptorIndex := 25, attributes := #[] }, { accessFlags := 25, nameIndex := 290, descriptorIndex := 25, attributes := #[] }, { accessFlags := 25, nameIndex := 292, descriptorIndex := 25, attributes := #[] }, { accessFlags := 26, nameIndex := 108, descriptorIndex := 109, attributes := #[] }, { accessFlags := 25, nameIndex := 294, descriptorIndex := 25, attributes := #[] }])
  fields := #[{ name := "U", type := (.object "jdk/internal/misc/Unsafe"), accessFlags := 24, slot := 0, constantValue := 0 }, { name := "BIG_ENDIAN", type := .boolean, accessFlags := 26, slot := 1, constantValue := 0 }, { name := "LOG2_ARRAY_BOOLEAN_INDEX_SCALE", type := .int, accessFlags := 25, slot := 2, constantValue := 0 }, { name := "LOG2_ARRAY_BYTE_INDEX_SCALE", type := .int, accessFlags := 25, slot := 3, constantValue := 0 }, { name := "LOG2_ARRAY_CHAR_INDEX_SCALE", type := .int, accessFlags := 25, slot := 4, constantValue := 0 }, { name := "LOG2_ARRAY_SHORT_INDEX_SCALE", type := .int, accessFlags := 25, slot := 5, constantValue := 0 }, { name := "LOG2_ARRAY_INT_INDEX_SCALE", type := .int, accessFlags := 25, slot := 6, constantValue := 0 }, { name := "LOG2_ARRAY_LONG_INDEX_SCALE", type := .int, accessFlags := 25, slot := 7, constantValue := 0 }, { name := "LOG2_ARRAY_FLOAT_INDEX_SCALE", type := .int, accessFlags := 25, slot := 8, constantValue := 0 }, { name := "LOG2_ARRAY_DOUBLE_INDEX_SCALE", type := .int, accessFlags := 25, slot := 9, constantValue := 0 }, { name := "LOG2_BYTE_BIT_SIZE", type := .int, accessFlags := 26, slot := 10, constantValue := 0 }, { name := "T_BOOLEAN", type := .int, accessFlags := 25, slot := 11, constantValue := 0 }, { name := "T_CHAR", type := .int, accessFlags := 25, slot := 12, constantValue := 0 }, { name := "T_FLOAT", type := .int, accessFlags := 25, slot := 13, constantValue := 0 }, { name := "T_DOUBLE", type := .int, accessFlags := 25, slot := 14, constantValue := 0 }, { name := "T_BYTE", type := .int, accessFlags := 25, slot := 15, constantValue := 0 }, { name := "T_SHORT", type := .int, accessFlags := 25, slot := 16, constantValue := 0 }, { name := "T_INT", type := .int, accessFlags := 25, slot := 17, constantValue := 0 }, { name := "T_LONG", type := .int, accessFlags := 25, slot := 18, constantValue := 0 }, { name := "JLA", type := (.object "jdk/internal/access/JavaLangAccess"), accessFlags := 26, slot := 19, constantValue := 0 }, { name := "SOFT_MAX_ARRAY_LENGTH", type := .int, accessFlags := 25, slot := 20, constantValue := 0 }]
  methods := #[k21m0, k21m1]
  instanceTypes := #[]
  staticTypes := #[(.object "jdk/internal/misc/Unsafe"), .boolean, .int, .int, .int, .int, .int, .int, .int, .int, .int, .int, .int, .int, .int, .int, .int, .int, .int, (.object "jdk/internal/access/JavaLangAccess"), .int]
  resolved := Array.replicate 378 none
  statics := none }

/-- the primitive byte -/
def k22 : Class := { plain "byte" none with kind := .primitive 'B', accessFlags := 0x411 }
/-- [B -/
def k23 : Class := { plain "[B" (some 0) with kind := .array 22 .byte, interfaces := #[18, 8], accessFlags := 1041 }

/-- the primitive int -/
def k24 : Class := { plain "int" none with kind := .primitive 'I', accessFlags := 0x411 }
/-- [I -/
def k25 : Class := { plain "[I" (some 0) with kind := .array 24 .int, interfaces := #[18, 8], accessFlags := 1041 }

def heap : Heap := #[{ cls := 13, slots := #[.long 0, .int 1, .null, .int 0, .null, .int 0, .int 0], vm := .statics 13 },
  { cls := 16, slots := #[.int 0, .int 0, .null, .null, .ref 4, .ref 3, .int 0, .int 0, .long 0], vm := .statics 16 },
  { cls := 20, slots := #[.null, .null, .null], vm := .statics 20 },
  { cls := 23, slots := #[.int 48, .int 49, .int 50, .int 51, .int 52, .int 53, .int 54, .int 55, .int 56, .int 57, .int 48, .int 49, .int 50, .int 51, .int 52, .int 53, .int 54, .int 55, .int 56, .int 57, .int 48, .int 49, .int 50, .int 51, .int 52, .int 53, .int 54, .int 55, .int 56, .int 57, .int 48, .int 49, .int 50, .int 51, .int 52, .int 53, .int 54, .int 55, .int 56, .int 57, .int 48, .int 49, .int 50, .int 51, .int 52, .int 53, .int 54, .int 55, .int 56, .int 57, .int 48, .int 49, .int 50, .int 51, .int 52, .int 53, .int 54, .int 55, .int 56, .int 57, .int 48, .int 49, .int 50, .int 51, .int 52, .int 53, .int 54, .int 55, .int 56, .int 57, .int 48, .int 49, .int 50, .int 51, .int 52, .int 53, .int 54, .int 55, .int 56, .int 57, .int 48, .int 49, .int 50, .int 51, .int 52, .int 53, .int 54, .int 55, .int 56, .int 57, .int 48, .int 49, .int 50, .int 51, .int 52, .int 53, .int 54, .int 55, .int 56, .int 57], vm := .none },
  { cls := 23, slots := #[.int 48, .int 48, .int 48, .int 48, .int 48, .int 48, .int 48, .int 48, .int 48, .int 48, .int 49, .int 49, .int 49, .int 49, .int 49, .int 49, .int 49, .int 49, .int 49, .int 49, .int 50, .int 50, .int 50, .int 50, .int 50, .int 50, .int 50, .int 50, .int 50, .int 50, .int 51, .int 51, .int 51, .int 51, .int 51, .int 51, .int 51, .int 51, .int 51, .int 51, .int 52, .int 52, .int 52, .int 52, .int 52, .int 52, .int 52, .int 52, .int 52, .int 52, .int 53, .int 53, .int 53, .int 53, .int 53, .int 53, .int 53, .int 53, .int 53, .int 53, .int 54, .int 54, .int 54, .int 54, .int 54, .int 54, .int 54, .int 54, .int 54, .int 54, .int 55, .int 55, .int 55, .int 55, .int 55, .int 55, .int 55, .int 55, .int 55, .int 55, .int 56, .int 56, .int 56, .int 56, .int 56, .int 56, .int 56, .int 56, .int 56, .int 56, .int 57, .int 57, .int 57, .int 57, .int 57, .int 57, .int 57, .int 57, .int 57, .int 57], vm := .none }]
def classes : Array Class := #[k0, k1, k2, k3, k4, k5, k6, k7, k8, k9, k10, k11, k12, k13, k14, k15, k16, k17, k18, k19, k20, k21, k22, k23, k24, k25]
def interned : List (Array UInt16 × Addr) := []
def slotsUsed : Nat := 219
def theMethod : MethodId := ⟨1, 1⟩
def args0 : Array Value := #[.int 1, .int 2]
def aboutOver (below : List Frame) : State where
  vm := { classes := classes, interned := interned.toArray }
  heap := heap
  slotsUsed := slotsUsed
  threads := #[{ frames := .invoking theMethod args0 :: below }]
def below0 : List Frame := [.native { method := ⟨0, 0⟩, args := #[] }]
def about1 : State := aboutOver below0
def p0 : Program := .bare "" "" ""
def e0 : Env := launch0.env 0 0 0
theorem w_frames : about1.frames = Frame.invoking theMethod args0 :: below0 := rfl
set_option maxRecDepth 65536 in
theorem w_args : argsFit about1.vm theMethod args0 = true := by decide +kernel
set_option maxRecDepth 65536 in
theorem w_heap : heapFits about1 = true := by decide +kernel
set_option maxRecDepth 65536 in
theorem w_runnable : about1.curStatus? = some .runnable := by decide +kernel
set_option maxRecDepth 65536 in
theorem w_alone : about1.alone = true := by decide +kernel
set_option maxRecDepth 65536 in
theorem w_named : about1.methodNamed? x = some theMethod := by decide +kernel
set_option maxRecDepth 65536 in
theorem w_hears : about1.hears theMethod below0 = true := by decide +kernel
set_option maxRecDepth 65536 in
theorem w_ripe : about1.ripe theMethod args0 below0 = true := by decide +kernel
theorem w_running : about1.status = .running := rfl
set_option maxRecDepth 65536 in
theorem w_room : about1.hasRoom e0.platform room_1 = true :=
  launch0.hasRoom_least _ room_1 (by decide +kernel) (by decide +kernel) (by decide +kernel) (by decide +kernel) (by decide +kernel) (by decide +kernel)
theorem allAtoms_all (ts : List Jvm.Cond) (a : Array Jvm.Value) (st : Jvm.State) : (allAtoms ts).before a st = ts.all (fun c => c.before a st) := by
  induction ts with
  | nil => rfl
  | cons c t ih =>
    show (Jvm.Cond.and c (allAtoms t)).before a st = _
    rw [Jvm.Cond.before_and, ih, List.all_cons]
def words1 : List Jvm.Cond := Jvm.Cond.code x code maxLocals ret :: tables_1
/-- a 'code' word, met by the world's own term for the bytes: nothing is compared byte by byte -/
theorem code_word {y : MethodName} {bytes : ByteArray} {mx : Nat} {rt : Option FieldType} {a : Array Value} {s : State} {m : MethodId} {meth : Method} {c : Code} (h1 : s.methodNamed? y = some m) (h2 : s.vm.method? m = some meth) (h3 : meth.code = some c) (h4 : c.code = bytes)
    (h5 : (c.maxLocals == mx && c.exceptionTable.isEmpty && decide (c.maxStack ≤ mostOperands) && decide (meth.sig.returnType = rt) && !meth.locks && decide (parseMethodDescriptor y.desc = some meth.sig)) = true) : (Jvm.Cond.code y bytes mx rt).before a s = true := by
  simp only [Bool.and_eq_true, beq_iff_eq, Bool.not_eq_true', decide_eq_true_eq] at h5
  obtain ⟨⟨⟨⟨⟨g1, g2⟩, g3⟩, g4⟩, g5⟩, g6⟩ := h5
  simp [Cond.before, Cond.holds, Cond.value, h1, h2, h3, h4, g1, g2, g3, g4, g5, g6]
def isCode : Jvm.Cond → Bool
  | .code _ _ _ _ => true
  | _ => false
theorem all_split {L : List Jvm.Cond} {P : Jvm.Cond → Bool} (h1 : L.all (fun c => isCode c || P c) = true) (h2 : ∀ c ∈ L.filter isCode, P c = true) : L.all P = true := by
  refine List.all_eq_true.mpr fun c hc => ?_
  have h := List.all_eq_true.mp h1 c hc
  rcases Bool.eq_false_or_eq_true (isCode c) with hi | hi
  · exact h2 c (List.mem_filter.mpr ⟨hc, hi⟩)
  · simpa [hi] using h
set_option maxRecDepth 65536 in
theorem w_c0 : (Jvm.Cond.code x code maxLocals ret).before args0 about1 = true := code_word (m := ⟨1, 1⟩) (meth := k1m1) (c := k1c1) (by decide +kernel) rfl rfl rfl (by decide +kernel)
set_option maxRecDepth 65536 in
theorem w_c1 : (Jvm.Cond.code ({ cls := "java/lang/Math", name := "max", desc := "(II)I" } : Jvm.MethodName) jdk_29_method_65_code (2 : Nat) (Option.some Jvm.ClassFile.FieldType.int)).before args0 about1 = true := code_word (m := ⟨2, 1⟩) (meth := k2m1) (c := k2c1) (by decide +kernel) rfl rfl rfl (by decide +kernel)
set_option maxRecDepth 65536 in
theorem w_c2 : (Jvm.Cond.code ({ cls := "com/example/object_sieve/objectsieve/query/TextPosition", name := "<init>", desc := "(II)V" } : Jvm.MethodName) prog_8_method_1_code (3 : Nat) (Option.none : Option Jvm.ClassFile.FieldType)).before args0 about1 = true := code_word (m := ⟨4, 0⟩) (meth := k4m0) (c := k4c0) (by decide +kernel) rfl rfl rfl (by decide +kernel)
set_option maxRecDepth 65536 in
theorem w_c3 : (Jvm.Cond.code ({ cls := "java/lang/Record", name := "<init>", desc := "()V" } : Jvm.MethodName) jdk_30_method_1_code (1 : Nat) (Option.none : Option Jvm.ClassFile.FieldType)).before args0 about1 = true := code_word (m := ⟨3, 0⟩) (meth := k3m0) (c := k3c0) (by decide +kernel) rfl rfl rfl (by decide +kernel)
set_option maxRecDepth 65536 in
theorem w_c4 : (Jvm.Cond.code ({ cls := "java/lang/Object", name := "<init>", desc := "()V" } : Jvm.MethodName) object_method_1_code (1 : Nat) (Option.none : Option Jvm.ClassFile.FieldType)).before args0 about1 = true := code_word (m := ⟨0, 0⟩) (meth := k0m0) (c := k0c0) (by decide +kernel) rfl rfl rfl (by decide +kernel)
set_option maxRecDepth 65536 in
theorem w_c5 : (Jvm.Cond.code ({ cls := "com/example/object_sieve/objectsieve/query/TextPosition", name := "toString", desc := "()Ljava/lang/String;" } : Jvm.MethodName) prog_8_method_3_code (1 : Nat) (Option.some (Jvm.ClassFile.FieldType.object "java/lang/String"))).before args0 about1 = true := code_word (m := ⟨4, 1⟩) (meth := k4m1) (c := k4c1) (by decide +kernel) rfl rfl rfl (by decide +kernel)
set_option maxRecDepth 65536 in
theorem w_c6 : (Jvm.Cond.code ({ cls := "java/lang/StringBuilder", name := "<init>", desc := "()V" } : Jvm.MethodName) jdk_67_method_1_code (1 : Nat) (Option.none : Option Jvm.ClassFile.FieldType)).before args0 about1 = true := code_word (m := ⟨10, 0⟩) (meth := k10m0) (c := k10c0) (by decide +kernel) rfl rfl rfl (by decide +kernel)
set_option maxRecDepth 65536 in
theorem w_c7 : (Jvm.Cond.code ({ cls := "java/lang/AbstractStringBuilder", name := "<init>", desc := "(I)V" } : Jvm.MethodName) jdk_68_method_2_code (2 : Nat) (Option.none : Option Jvm.ClassFile.FieldType)).before args0 about1 = true := code_word (m := ⟨7, 1⟩) (meth := k7m1) (c := k7c1) (by decide +kernel) rfl rfl rfl (by decide +kernel)
set_option maxRecDepth 65536 in
theorem w_c8 : (Jvm.Cond.code ({ cls := "java/lang/StringBuilder", name := "append", desc := "(Ljava/lang/String;)Ljava/lang/StringBuilder;" } : Jvm.MethodName) jdk_67_method_7_code (2 : Nat) (Option.some (Jvm.ClassFile.FieldType.object "java/lang/StringBuilder"))).before args0 about1 = true := code_word (m := ⟨10, 1⟩) (meth := k10m1) (c := k10c1) (by decide +kernel) rfl rfl rfl (by decide +kernel)
set_option maxRecDepth 65536 in
theorem w_c9 : (Jvm.Cond.code ({ cls := "java/lang/AbstractStringBuilder", name := "append", desc := "(Ljava/lang/String;)Ljava/lang/AbstractStringBuilder;" } : Jvm.MethodName) jdk_68_method_22_code (3 : Nat) (Option.some (Jvm.ClassFile.FieldType.object "java/lang/AbstractStringBuilder"))).before args0 about1 = true := code_word (m := ⟨7, 5⟩) (meth := k7m5) (c := k7c5) (by decide +kernel) rfl rfl rfl (by decide +kernel)
set_option maxRecDepth 65536 in
theorem w_c10 : (Jvm.Cond.code ({ cls := "java/lang/String", name := "length", desc := "()I" } : Jvm.MethodName) jdk_42_method_54_code (1 : Nat) (Option.some Jvm.ClassFile.FieldType.int)).before args0 about1 = true := code_word (m := ⟨13, 2⟩) (meth := k13m2) (c := k13c2) (by decide +kernel) rfl rfl rfl (by decide +kernel)
set_option maxRecDepth 65536 in
theorem w_c11 : (Jvm.Cond.code ({ cls := "java/lang/String", name := "coder", desc := "()B" } : Jvm.MethodName) jdk_42_method_152_code (1 : Nat) (Option.some Jvm.ClassFile.FieldType.byte)).before args0 about1 = true := code_word (m := ⟨13, 6⟩) (meth := k13m6) (c := k13c6) (by decide +kernel) rfl rfl rfl (by decide +kernel)
set_option maxRecDepth 65536 in
theorem w_c12 : (Jvm.Cond.code ({ cls := "java/lang/AbstractStringBuilder", name := "ensureCapacityInternal", desc := "(I)V" } : Jvm.MethodName) jdk_68_method_9_code (3 : Nat) (Option.none : Option Jvm.ClassFile.FieldType)).before args0 about1 = true := code_word (m := ⟨7, 3⟩) (meth := k7m3) (c := k7c3) (by decide +kernel) rfl rfl rfl (by decide +kernel)
set_option maxRecDepth 65536 in
theorem w_c13 : (Jvm.Cond.code ({ cls := "java/lang/AbstractStringBuilder", name := "putStringAt", desc := "(ILjava/lang/String;)V" } : Jvm.MethodName) jdk_68_method_73_code (3 : Nat) (Option.none : Option Jvm.ClassFile.FieldType)).before args0 about1 = true := code_word (m := ⟨7, 10⟩) (meth := k7m10) (c := k7c10) (by decide +kernel) rfl rfl rfl (by decide +kernel)
set_option maxRecDepth 65536 in
theorem w_c14 : (Jvm.Cond.code ({ cls := "java/lang/AbstractStringBuilder", name := "inflateIfNeededFor", desc := "(Ljava/lang/String;)V" } : Jvm.MethodName) jdk_68_method_71_code (2 : Nat) (Option.none : Option Jvm.ClassFile.FieldType)).before args0 about1 = true := code_word (m := ⟨7, 9⟩) (meth := k7m9) (c := k7c9) (by decide +kernel) rfl rfl rfl (by decide +kernel)
set_option maxRecDepth 65536 in
theorem w_c15 : (Jvm.Cond.code ({ cls := "java/lang/String", name := "getBytes", desc := "([BIB)V" } : Jvm.MethodName) jdk_42_method_147_code (4 : Nat) (Option.none : Option Jvm.ClassFile.FieldType)).before args0 about1 = true := code_word (m := ⟨13, 4⟩) (meth := k13m4) (c := k13c4) (by decide +kernel) rfl rfl rfl (by decide +kernel)
set_option maxRecDepth 65536 in
theorem w_c16 : (Jvm.Cond.code ({ cls := "java/lang/StringBuilder", name := "append", desc := "(I)Ljava/lang/StringBuilder;" } : Jvm.MethodName) jdk_67_method_15_code (2 : Nat) (Option.some (Jvm.ClassFile.FieldType.object "java/lang/StringBuilder"))).before args0 about1 = true := code_word (m := ⟨10, 2⟩) (meth := k10m2) (c := k10c2) (by decide +kernel) rfl rfl rfl (by decide +kernel)
set_option maxRecDepth 65536 in
theorem w_c17 : (Jvm.Cond.code ({ cls := "java/lang/AbstractStringBuilder", name := "append", desc := "(I)Ljava/lang/AbstractStringBuilder;" } : Jvm.MethodName) jdk_68_method_32_code (4 : Nat) (Option.some (Jvm.ClassFile.FieldType.object "java/lang/AbstractStringBuilder"))).before args0 about1 = true := code_word (m := ⟨7, 6⟩) (meth := k7m6) (c := k7c6) (by decide +kernel) rfl rfl rfl (by decide +kernel)
set_option maxRecDepth 65536 in
theorem w_c18 : (Jvm.Cond.code ({ cls := "java/lang/Integer", name := "stringSize", desc := "(I)I" } : Jvm.MethodName) jdk_33_method_13_code (4 : Nat) (Option.some Jvm.ClassFile.FieldType.int)).before args0 about1 = true := code_word (m := ⟨16, 1⟩) (meth := k16m1) (c := k16c1) (by decide +kernel) rfl rfl rfl (by decide +kernel)
set_option maxRecDepth 65536 in
theorem w_c19 : (Jvm.Cond.code ({ cls := "java/lang/AbstractStringBuilder", name := "isLatin1", desc := "()Z" } : Jvm.MethodName) jdk_68_method_68_code (1 : Nat) (Option.some Jvm.ClassFile.FieldType.boolean)).before args0 about1 = true := code_word (m := ⟨7, 8⟩) (meth := k7m8) (c := k7c8) (by decide +kernel) rfl rfl rfl (by decide +kernel)
set_option maxRecDepth 65536 in
theorem w_c20 : (Jvm.Cond.code ({ cls := "java/lang/Integer", name := "getChars", desc := "(II[B)I" } : Jvm.MethodName) jdk_33_method_12_code (7 : Nat) (Option.some Jvm.ClassFile.FieldType.int)).before args0 about1 = true := code_word (m := ⟨16, 0⟩) (meth := k16m0) (c := k16c0) (by decide +kernel) rfl rfl rfl (by decide +kernel)
set_option maxRecDepth 65536 in
theorem w_c21 : (Jvm.Cond.code ({ cls := "java/lang/StringBuilder", name := "toString", desc := "()Ljava/lang/String;" } : Jvm.MethodName) jdk_67_method_42_code (1 : Nat) (Option.some (Jvm.ClassFile.FieldType.object "java/lang/String"))).before args0 about1 = true := code_word (m := ⟨10, 3⟩) (meth := k10m3) (c := k10c3) (by decide +kernel) rfl rfl rfl (by decide +kernel)
set_option maxRecDepth 65536 in
theorem w_c22 : (Jvm.Cond.code ({ cls := "java/lang/String", name := "<init>", desc := "(Ljava/lang/StringBuilder;)V" } : Jvm.MethodName) jdk_42_method_53_code (2 : Nat) (Option.none : Option Jvm.ClassFile.FieldType)).before args0 about1 = true := code_word (m := ⟨13, 1⟩) (meth := k13m1) (c := k13c1) (by decide +kernel) rfl rfl rfl (by decide +kernel)
set_option maxRecDepth 65536 in
theorem w_c23 : (Jvm.Cond.code ({ cls := "java/lang/String", name := "<init>", desc := "(Ljava/lang/AbstractStringBuilder;Ljava/lang/Void;)V" } : Jvm.MethodName) jdk_42_method_150_code (5 : Nat) (Option.none : Option Jvm.ClassFile.FieldType)).before args0 about1 = true := code_word (m := ⟨13, 5⟩) (meth := k13m5) (c := k13c5) (by decide +kernel) rfl rfl rfl (by decide +kernel)
set_option maxRecDepth 65536 in
theorem w_c24 : (Jvm.Cond.code ({ cls := "java/lang/AbstractStringBuilder", name := "getValue", desc := "()[B" } : Jvm.MethodName) jdk_68_method_64_code (1 : Nat) (Option.some (Jvm.ClassFile.FieldType.array Jvm.ClassFile.FieldType.byte))).before args0 about1 = true := code_word (m := ⟨7, 7⟩) (meth := k7m7) (c := k7c7) (by decide +kernel) rfl rfl rfl (by decide +kernel)
set_option maxRecDepth 65536 in
theorem w_c25 : (Jvm.Cond.code ({ cls := "java/lang/StringBuilder", name := "length", desc := "()I" } : Jvm.MethodName) jdk_67_method_93_code (1 : Nat) (Option.some Jvm.ClassFile.FieldType.int)).before args0 about1 = true := code_word (m := ⟨10, 4⟩) (meth := k10m4) (c := k10c4) (by decide +kernel) rfl rfl rfl (by decide +kernel)
set_option maxRecDepth 65536 in
theorem w_c26 : (Jvm.Cond.code ({ cls := "java/lang/AbstractStringBuilder", name := "length", desc := "()I" } : Jvm.MethodName) jdk_68_method_6_code (1 : Nat) (Option.some Jvm.ClassFile.FieldType.int)).before args0 about1 = true := code_word (m := ⟨7, 2⟩) (meth := k7m2) (c := k7c2) (by decide +kernel) rfl rfl rfl (by decide +kernel)
set_option maxRecDepth 65536 in
theorem w_c27 : (Jvm.Cond.code ({ cls := "java/util/Arrays", name := "copyOfRange", desc := "([BII)[B" } : Jvm.MethodName) jdk_65_method_132_code (3 : Nat) (Option.some (Jvm.ClassFile.FieldType.array Jvm.ClassFile.FieldType.byte))).before args0 about1 = true := code_word (m := ⟨17, 3⟩) (meth := k17m3) (c := k17c3) (by decide +kernel) rfl rfl rfl (by decide +kernel)
set_option maxRecDepth 65536 in
theorem w_c28 : (Jvm.Cond.code ({ cls := "com/example/object_sieve/objectsieve/query/TextPositionToStringPinLaw", name := "numDigits", desc := "(I)I" } : Jvm.MethodName) method_3_code (1 : Nat) (Option.some Jvm.ClassFile.FieldType.int)).before args0 about1 = true := code_word (m := ⟨1, 2⟩) (meth := k1m2) (c := k1c2) (by decide +kernel) rfl rfl rfl (by decide +kernel)
set_option maxRecDepth 65536 in
theorem w_c29 : (Jvm.Cond.code ({ cls := "java/lang/String", name := "charAt", desc := "(I)C" } : Jvm.MethodName) jdk_42_method_56_code (2 : Nat) (Option.some Jvm.ClassFile.FieldType.char)).before args0 about1 = true := code_word (m := ⟨13, 3⟩) (meth := k13m3) (c := k13c3) (by decide +kernel) rfl rfl rfl (by decide +kernel)
set_option maxRecDepth 65536 in
theorem w_c30 : (Jvm.Cond.code ({ cls := "java/lang/String", name := "isLatin1", desc := "()Z" } : Jvm.MethodName) jdk_42_method_154_code (1 : Nat) (Option.some Jvm.ClassFile.FieldType.boolean)).before args0 about1 = true := code_word (m := ⟨13, 7⟩) (meth := k13m7) (c := k13c7) (by decide +kernel) rfl rfl rfl (by decide +kernel)
set_option maxRecDepth 65536 in
theorem w_c31 : (Jvm.Cond.code ({ cls := "java/lang/StringLatin1", name := "charAt", desc := "([BI)C" } : Jvm.MethodName) jdk_43_method_2_code (2 : Nat) (Option.some Jvm.ClassFile.FieldType.char)).before args0 about1 = true := code_word (m := ⟨19, 1⟩) (meth := k19m1) (c := k19c1) (by decide +kernel) rfl rfl rfl (by decide +kernel)
set_option maxRecDepth 65536 in
theorem w_c32 : (Jvm.Cond.code ({ cls := "java/lang/String", name := "checkIndex", desc := "(II)V" } : Jvm.MethodName) jdk_42_method_155_code (2 : Nat) (Option.none : Option Jvm.ClassFile.FieldType)).before args0 about1 = true := code_word (m := ⟨13, 8⟩) (meth := k13m8) (c := k13c8) (by decide +kernel) rfl rfl rfl (by decide +kernel)
set_option maxRecDepth 65536 in
theorem w_c33 : (Jvm.Cond.code ({ cls := "jdk/internal/util/Preconditions", name := "checkIndex", desc := "(IILjava/util/function/BiFunction;)I" } : Jvm.MethodName) jdk_41_method_11_code (3 : Nat) (Option.some Jvm.ClassFile.FieldType.int)).before args0 about1 = true := code_word (m := ⟨20, 1⟩) (meth := k20m1) (c := k20c1) (by decide +kernel) rfl rfl rfl (by decide +kernel)
set_option maxRecDepth 65536 in
theorem w_c34 : (Jvm.Cond.code ({ cls := "com/example/object_sieve/objectsieve/query/TextPositionToStringPinLaw", name := "digitsOk", desc := "(Ljava/lang/String;III)Z" } : Jvm.MethodName) method_6_code (4 : Nat) (Option.some Jvm.ClassFile.FieldType.boolean)).before args0 about1 = true := code_word (m := ⟨1, 5⟩) (meth := k1m5) (c := k1c5) (by decide +kernel) rfl rfl rfl (by decide +kernel)
set_option maxRecDepth 65536 in
theorem w_c35 : (Jvm.Cond.code ({ cls := "com/example/object_sieve/objectsieve/query/TextPositionToStringPinLaw", name := "digitOk", desc := "(Ljava/lang/String;IIII)Z" } : Jvm.MethodName) method_5_code (6 : Nat) (Option.some Jvm.ClassFile.FieldType.boolean)).before args0 about1 = true := code_word (m := ⟨1, 4⟩) (meth := k1m4) (c := k1c4) (by decide +kernel) rfl rfl rfl (by decide +kernel)
set_option maxRecDepth 65536 in
theorem w_c36 : (Jvm.Cond.code ({ cls := "com/example/object_sieve/objectsieve/query/TextPositionToStringPinLaw", name := "pow10", desc := "(I)I" } : Jvm.MethodName) method_4_code (1 : Nat) (Option.some Jvm.ClassFile.FieldType.int)).before args0 about1 = true := code_word (m := ⟨1, 3⟩) (meth := k1m3) (c := k1c3) (by decide +kernel) rfl rfl rfl (by decide +kernel)
set_option maxRecDepth 65536 in
theorem w_c37 : (Jvm.Cond.code ({ cls := "java/lang/AbstractStringBuilder", name := "newCapacity", desc := "(I)I" } : Jvm.MethodName) jdk_68_method_10_code (6 : Nat) (Option.some Jvm.ClassFile.FieldType.int)).before args0 about1 = true := code_word (m := ⟨7, 4⟩) (meth := k7m4) (c := k7c4) (by decide +kernel) rfl rfl rfl (by decide +kernel)
set_option maxRecDepth 65536 in
theorem w_c38 : (Jvm.Cond.code ({ cls := "jdk/internal/util/ArraysSupport", name := "newLength", desc := "(III)I" } : Jvm.MethodName) jdk_48_method_27_code (4 : Nat) (Option.some Jvm.ClassFile.FieldType.int)).before args0 about1 = true := code_word (m := ⟨21, 1⟩) (meth := k21m1) (c := k21c1) (by decide +kernel) rfl rfl rfl (by decide +kernel)
set_option maxRecDepth 65536 in
theorem w_c39 : (Jvm.Cond.code ({ cls := "java/util/Arrays", name := "copyOf", desc := "([BI)[B" } : Jvm.MethodName) jdk_65_method_121_code (3 : Nat) (Option.some (Jvm.ClassFile.FieldType.array Jvm.ClassFile.FieldType.byte))).before args0 about1 = true := code_word (m := ⟨17, 1⟩) (meth := k17m1) (c := k17c1) (by decide +kernel) rfl rfl rfl (by decide +kernel)
set_option maxRecDepth 65536 in
theorem w_c40 : (Jvm.Cond.code ({ cls := "java/lang/Math", name := "min", desc := "(II)I" } : Jvm.MethodName) jdk_29_method_69_code (2 : Nat) (Option.some Jvm.ClassFile.FieldType.int)).before args0 about1 = true := code_word (m := ⟨2, 2⟩) (meth := k2m2) (c := k2c2) (by decide +kernel) rfl rfl rfl (by decide +kernel)
set_option maxRecDepth 65536 in
theorem w_c41 : (Jvm.Cond.code ({ cls := "java/util/Arrays", name := "copyOfRangeByte", desc := "([BII)[B" } : Jvm.MethodName) jdk_65_method_133_code (5 : Nat) (Option.some (Jvm.ClassFile.FieldType.array Jvm.ClassFile.FieldType.byte))).before args0 about1 = true := code_word (m := ⟨17, 4⟩) (meth := k17m4) (c := k17c4) (by decide +kernel) rfl rfl rfl (by decide +kernel)
set_option maxRecDepth 65536 in
theorem w_c42 : (Jvm.Cond.code ({ cls := "java/util/Arrays", name := "checkLength", desc := "(II)V" } : Jvm.MethodName) jdk_65_method_131_code (2 : Nat) (Option.none : Option Jvm.ClassFile.FieldType)).before args0 about1 = true := code_word (m := ⟨17, 2⟩) (meth := k17m2) (c := k17c2) (by decide +kernel) rfl rfl rfl (by decide +kernel)
def codes1 : List Jvm.Cond := [Jvm.Cond.code x code maxLocals ret, Jvm.Cond.code ({ cls := "java/lang/Math", name := "max", desc := "(II)I" } : Jvm.MethodName) jdk_29_method_65_code (2 : Nat) (Option.some Jvm.ClassFile.FieldType.int), Jvm.Cond.code ({ cls := "com/example/object_sieve/objectsieve/query/TextPosition", name := "<init>", desc := "(II)V" } : Jvm.MethodName) prog_8_method_1_code (3 : Nat) (Option.none : Option Jvm.ClassFile.FieldType), Jvm.Cond.code ({ cls := "java/lang/Record", name := "<init>", desc := "()V" } : Jvm.MethodName) jdk_30_method_1_code (1 : Nat) (Option.none : Option Jvm.ClassFile.FieldType), Jvm.Cond.code ({ cls := "java/lang/Object", name := "<init>", desc := "()V" } : Jvm.MethodName) object_method_1_code (1 : Nat) (Option.none : Option Jvm.ClassFile.FieldType), Jvm.Cond.code ({ cls := "com/example/object_sieve/objectsieve/query/TextPosition", name := "toString", desc := "()Ljava/lang/String;" } : Jvm.MethodName) prog_8_method_3_code (1 : Nat) (Option.some (Jvm.ClassFile.FieldType.object "java/lang/String")), Jvm.Cond.code ({ cls := "java/lang/StringBuilder", name := "<init>", desc := "()V" } : Jvm.MethodName) jdk_67_method_1_code (1 : Nat) (Option.none : Option Jvm.ClassFile.FieldType), Jvm.Cond.code ({ cls := "java/lang/AbstractStringBuilder", name := "<init>", desc := "(I)V" } : Jvm.MethodName) jdk_68_method_2_code (2 : Nat) (Option.none : Option Jvm.ClassFile.FieldType), Jvm.Cond.code ({ cls := "java/lang/StringBuilder", name := "append", desc := "(Ljava/lang/String;)Ljava/lang/StringBuilder;" } : Jvm.MethodName) jdk_67_method_7_code (2 : Nat) (Option.some (Jvm.ClassFile.FieldType.object "java/lang/StringBuilder")), Jvm.Cond.code ({ cls := "java/lang/AbstractStringBuilder", name := "append", desc := "(Ljava/lang/String;)Ljava/lang/AbstractStringBuilder;" } : Jvm.MethodName) jdk_68_method_22_code (3 : Nat) (Option.some (Jvm.ClassFile.FieldType.object "java/lang/AbstractStringBuilder")), Jvm.Cond.code ({ cls := "java/lang/String", name := "length", desc := "()I" } : Jvm.MethodName) jdk_42_method_54_code (1 : Nat) (Option.some Jvm.ClassFile.FieldType.int), Jvm.Cond.code ({ cls := "java/lang/String", name := "coder", desc := "()B" } : Jvm.MethodName) jdk_42_method_152_code (1 : Nat) (Option.some Jvm.ClassFile.FieldType.byte), Jvm.Cond.code ({ cls := "java/lang/AbstractStringBuilder", name := "ensureCapacityInternal", desc := "(I)V" } : Jvm.MethodName) jdk_68_method_9_code (3 : Nat) (Option.none : Option Jvm.ClassFile.FieldType), Jvm.Cond.code ({ cls := "java/lang/AbstractStringBuilder", name := "putStringAt", desc := "(ILjava/lang/String;)V" } : Jvm.MethodName) jdk_68_method_73_code (3 : Nat) (Option.none : Option Jvm.ClassFile.FieldType), Jvm.Cond.code ({ cls := "java/lang/AbstractStringBuilder", name := "inflateIfNeededFor", desc := "(Ljava/lang/String;)V" } : Jvm.MethodName) jdk_68_method_71_code (2 : Nat) (Option.none : Option Jvm.ClassFile.FieldType), Jvm.Cond.code ({ cls := "java/lang/String", name := "getBytes", desc := "([BIB)V" } : Jvm.MethodName) jdk_42_method_147_code (4 : Nat) (Option.none : Option Jvm.ClassFile.FieldType), Jvm.Cond.code ({ cls := "java/lang/StringBuilder", name := "append", desc := "(I)Ljava/lang/StringBuilder;" } : Jvm.MethodName) jdk_67_method_15_code (2 : Nat) (Option.some (Jvm.ClassFile.FieldType.object "java/lang/StringBuilder")), Jvm.Cond.code ({ cls := "java/lang/AbstractStringBuilder", name := "append", desc := "(I)Ljava/lang/AbstractStringBuilder;" } : Jvm.MethodName) jdk_68_method_32_code (4 : Nat) (Option.some (Jvm.ClassFile.FieldType.object "java/lang/AbstractStringBuilder")), Jvm.Cond.code ({ cls := "java/lang/Integer", name := "stringSize", desc := "(I)I" } : Jvm.MethodName) jdk_33_method_13_code (4 : Nat) (Option.some Jvm.ClassFile.FieldType.int), Jvm.Cond.code ({ cls := "java/lang/AbstractStringBuilder", name := "isLatin1", desc := "()Z" } : Jvm.MethodName) jdk_68_method_68_code (1 : Nat) (Option.some Jvm.ClassFile.FieldType.boolean), Jvm.Cond.code ({ cls := "java/lang/Integer", name := "getChars", desc := "(II[B)I" } : Jvm.MethodName) jdk_33_method_12_code (7 : Nat) (Option.some Jvm.ClassFile.FieldType.int), Jvm.Cond.code ({ cls := "java/lang/StringBuilder", name := "toString", desc := "()Ljava/lang/String;" } : Jvm.MethodName) jdk_67_method_42_code (1 : Nat) (Option.some (Jvm.ClassFile.FieldType.object "java/lang/String")), Jvm.Cond.code ({ cls := "java/lang/String", name := "<init>", desc := "(Ljava/lang/StringBuilder;)V" } : Jvm.MethodName) jdk_42_method_53_code (2 : Nat) (Option.none : Option Jvm.ClassFile.FieldType), Jvm.Cond.code ({ cls := "java/lang/String", name := "<init>", desc := "(Ljava/lang/AbstractStringBuilder;Ljava/lang/Void;)V" } : Jvm.MethodName) jdk_42_method_150_code (5 : Nat) (Option.none : Option Jvm.ClassFile.FieldType), Jvm.Cond.code ({ cls := "java/lang/AbstractStringBuilder", name := "getValue", desc := "()[B" } : Jvm.MethodName) jdk_68_method_64_code (1 : Nat) (Option.some (Jvm.ClassFile.FieldType.array Jvm.ClassFile.FieldType.byte)), Jvm.Cond.code ({ cls := "java/lang/StringBuilder", name := "length", desc := "()I" } : Jvm.MethodName) jdk_67_method_93_code (1 : Nat) (Option.some Jvm.ClassFile.FieldType.int), Jvm.Cond.code ({ cls := "java/lang/AbstractStringBuilder", name := "length", desc := "()I" } : Jvm.MethodName) jdk_68_method_6_code (1 : Nat) (Option.some Jvm.ClassFile.FieldType.int), Jvm.Cond.code ({ cls := "java/util/Arrays", name := "copyOfRange", desc := "([BII)[B" } : Jvm.MethodName) jdk_65_method_132_code (3 : Nat) (Option.some (Jvm.ClassFile.FieldType.array Jvm.ClassFile.FieldType.byte)), Jvm.Cond.code ({ cls := "com/example/object_sieve/objectsieve/query/TextPositionToStringPinLaw", name := "numDigits", desc := "(I)I" } : Jvm.MethodName) method_3_code (1 : Nat) (Option.some Jvm.ClassFile.FieldType.int), Jvm.Cond.code ({ cls := "java/lang/String", name := "charAt", desc := "(I)C" } : Jvm.MethodName) jdk_42_method_56_code (2 : Nat) (Option.some Jvm.ClassFile.FieldType.char), Jvm.Cond.code ({ cls := "java/lang/String", name := "isLatin1", desc := "()Z" } : Jvm.MethodName) jdk_42_method_154_code (1 : Nat) (Option.some Jvm.ClassFile.FieldType.boolean), Jvm.Cond.code ({ cls := "java/lang/StringLatin1", name := "charAt", desc := "([BI)C" } : Jvm.MethodName) jdk_43_method_2_code (2 : Nat) (Option.some Jvm.ClassFile.FieldType.char), Jvm.Cond.code ({ cls := "java/lang/String", name := "checkIndex", desc := "(II)V" } : Jvm.MethodName) jdk_42_method_155_code (2 : Nat) (Option.none : Option Jvm.ClassFile.FieldType), Jvm.Cond.code ({ cls := "jdk/internal/util/Preconditions", name := "checkIndex", desc := "(IILjava/util/function/BiFunction;)I" } : Jvm.MethodName) jdk_41_method_11_code (3 : Nat) (Option.some Jvm.ClassFile.FieldType.int), Jvm.Cond.code ({ cls := "com/example/object_sieve/objectsieve/query/TextPositionToStringPinLaw", name := "digitsOk", desc := "(Ljava/lang/String;III)Z" } : Jvm.MethodName) method_6_code (4 : Nat) (Option.some Jvm.ClassFile.FieldType.boolean), Jvm.Cond.code ({ cls := "com/example/object_sieve/objectsieve/query/TextPositionToStringPinLaw", name := "digitOk", desc := "(Ljava/lang/String;IIII)Z" } : Jvm.MethodName) method_5_code (6 : Nat) (Option.some Jvm.ClassFile.FieldType.boolean), Jvm.Cond.code ({ cls := "com/example/object_sieve/objectsieve/query/TextPositionToStringPinLaw", name := "pow10", desc := "(I)I" } : Jvm.MethodName) method_4_code (1 : Nat) (Option.some Jvm.ClassFile.FieldType.int), Jvm.Cond.code ({ cls := "java/lang/AbstractStringBuilder", name := "newCapacity", desc := "(I)I" } : Jvm.MethodName) jdk_68_method_10_code (6 : Nat) (Option.some Jvm.ClassFile.FieldType.int), Jvm.Cond.code ({ cls := "jdk/internal/util/ArraysSupport", name := "newLength", desc := "(III)I" } : Jvm.MethodName) jdk_48_method_27_code (4 : Nat) (Option.some Jvm.ClassFile.FieldType.int), Jvm.Cond.code ({ cls := "java/util/Arrays", name := "copyOf", desc := "([BI)[B" } : Jvm.MethodName) jdk_65_method_121_code (3 : Nat) (Option.some (Jvm.ClassFile.FieldType.array Jvm.ClassFile.FieldType.byte)), Jvm.Cond.code ({ cls := "java/lang/Math", name := "min", desc := "(II)I" } : Jvm.MethodName) jdk_29_method_69_code (2 : Nat) (Option.some Jvm.ClassFile.FieldType.int), Jvm.Cond.code ({ cls := "java/util/Arrays", name := "copyOfRangeByte", desc := "([BII)[B" } : Jvm.MethodName) jdk_65_method_133_code (5 : Nat) (Option.some (Jvm.ClassFile.FieldType.array Jvm.ClassFile.FieldType.byte)), Jvm.Cond.code ({ cls := "java/util/Arrays", name := "checkLength", desc := "(II)V" } : Jvm.MethodName) jdk_65_method_131_code (2 : Nat) (Option.none : Option Jvm.ClassFile.FieldType)]
set_option maxRecDepth 65536 in
theorem codes_eq : words1.filter isCode = codes1 := rfl
theorem w_codes : ∀ c ∈ words1.filter isCode, c.before args0 about1 = true := by
  rw [codes_eq]
  intro c hc
  simp only [codes1, List.mem_cons, List.not_mem_nil, or_false] at hc
  rcases hc with rfl | rfl | rfl | rfl | rfl | rfl | rfl | rfl | rfl | rfl | rfl | rfl | rfl | rfl | rfl | rfl | rfl | rfl | rfl | rfl | rfl | rfl | rfl | rfl | rfl | rfl | rfl | rfl | rfl | rfl | rfl | rfl | rfl | rfl | rfl | rfl | rfl | rfl | rfl | rfl | rfl | rfl | rfl
  · exact w_c0
  · exact w_c1
  · exact w_c2
  · exact w_c3
  · exact w_c4
  · exact w_c5
  · exact w_c6
  · exact w_c7
  · exact w_c8
  · exact w_c9
  · exact w_c10
  · exact w_c11
  · exact w_c12
  · exact w_c13
  · exact w_c14
  · exact w_c15
  · exact w_c16
  · exact w_c17
  · exact w_c18
  · exact w_c19
  · exact w_c20
  · exact w_c21
  · exact w_c22
  · exact w_c23
  · exact w_c24
  · exact w_c25
  · exact w_c26
  · exact w_c27
  · exact w_c28
  · exact w_c29
  · exact w_c30
  · exact w_c31
  · exact w_c32
  · exact w_c33
  · exact w_c34
  · exact w_c35
  · exact w_c36
  · exact w_c37
  · exact w_c38
  · exact w_c39
  · exact w_c40
  · exact w_c41
  · exact w_c42
set_option maxRecDepth 65536 in
theorem w_t1 : (words1.take 24).all (fun c => isCode c || c.before args0 about1) = true := by decide +kernel
set_option maxRecDepth 65536 in
theorem w_t2 : ((words1.drop 24).take 24).all (fun c => isCode c || c.before args0 about1) = true := by decide +kernel
set_option maxRecDepth 65536 in
theorem w_t3 : (((words1.drop 24).drop 24).take 24).all (fun c => isCode c || c.before args0 about1) = true := by decide +kernel
set_option maxRecDepth 65536 in
theorem w_t4 : ((((words1.drop 24).drop 24).drop 24).take 24).all (fun c => isCode c || c.before args0 about1) = true := by decide +kernel
set_option maxRecDepth 65536 in
theorem w_t5 : (((((words1.drop 24).drop 24).drop 24).drop 24).take 24).all (fun c => isCode c || c.before args0 about1) = true := by decide +kernel
set_option maxRecDepth 65536 in
theorem w_t6 : ((((((words1.drop 24).drop 24).drop 24).drop 24).drop 24).take 24).all (fun c => isCode c || c.before args0 about1) = true := by decide +kernel
set_option maxRecDepth 65536 in
theorem w_t7 : (((((((words1.drop 24).drop 24).drop 24).drop 24).drop 24).drop 24).take 24).all (fun c => isCode c || c.before args0 about1) = true := by decide +kernel
set_option maxRecDepth 65536 in
theorem w_t8 : ((((((((words1.drop 24).drop 24).drop 24).drop 24).drop 24).drop 24).drop 24).take 24).all (fun c => isCode c || c.before args0 about1) = true := by decide +kernel
set_option maxRecDepth 65536 in
theorem w_t9 : (((((((((words1.drop 24).drop 24).drop 24).drop 24).drop 24).drop 24).drop 24).drop 24).take 24).all (fun c => isCode c || c.before args0 about1) = true := by decide +kernel
set_option maxRecDepth 65536 in
theorem w_t10 : (((((((((words1.drop 24).drop 24).drop 24).drop 24).drop 24).drop 24).drop 24).drop 24).drop 24).all (fun c => isCode c || c.before args0 about1) = true := by decide +kernel
theorem w_tables : (allAtoms (Jvm.Cond.code x code maxLocals ret :: tables_1)).before args0 about1 = true := by
  rw [allAtoms_all]
  show words1.all (fun c => c.before args0 about1) = true
  refine all_split ?_ w_codes
  rw [← List.take_append_drop 24 words1, List.all_append, w_t1, ← List.take_append_drop 24 (words1.drop 24), List.all_append, w_t2, ← List.take_append_drop 24 ((words1.drop 24).drop 24), List.all_append, w_t3, ← List.take_append_drop 24 (((words1.drop 24).drop 24).drop 24), List.all_append, w_t4, ← List.take_append_drop 24 ((((words1.drop 24).drop 24).drop 24).drop 24), List.all_append, w_t5, ← List.take_append_drop 24 (((((words1.drop 24).drop 24).drop 24).drop 24).drop 24), List.all_append, w_t6, ← List.take_append_drop 24 ((((((words1.drop 24).drop 24).drop 24).drop 24).drop 24).drop 24), List.all_append, w_t7, ← List.take_append_drop 24 (((((((words1.drop 24).drop 24).drop 24).drop 24).drop 24).drop 24).drop 24), List.all_append, w_t8, ← List.take_append_drop 24 ((((((((words1.drop 24).drop 24).drop 24).drop 24).drop 24).drop 24).drop 24).drop 24), List.all_append, w_t9, w_t10]
  rfl
set_option maxRecDepth 65536 in
theorem w_rest : rest_1_c.before args0 about1 = true := by decide +kernel
set_option maxRecDepth 65536 in
theorem w_case : (Jvm.Cond.and given_1 narrow_1).before args0 about1 = true := by decide +kernel
set_option maxRecDepth 65536 in
theorem w_consts : constsHeld consts_1 about1 := Jvm.Lit.constsHeldB_iff.mp (by decide +kernel)
theorem w_applies : (headSpec (Jvm.Cond.code x code maxLocals ret :: tables_1) room_1).applies x e0.platform about1 = true :=
  (Spec.applies_iff w_frames).mpr ⟨w_running, w_runnable, w_alone, w_named, w_hears, w_ripe, w_room, w_tables⟩
theorem atStart : AtStart classFile x code maxLocals ret World_1 tables_1 room_1 Calls_1 rest_1 Pre_1 launch0 p0 e0 about1 theMethod args0 below0 :=
  ⟨lists_1, trivial, launch0.admits_env _ _ _, launch0.least_env, fairChoices_fair.cas, fairChoices_fair.clock, w_frames, w_args, w_heap, w_applies, ⟨w_consts, trivial⟩, w_rest, w_case⟩
end start1
theorem witness_1 : WitnessClaimed_1 := ⟨start1.p0, start1.e0, start1.about1, start1.theMethod, start1.args0, start1.below0, start1.atStart⟩
end Jvm.Pilot.@@N@@
