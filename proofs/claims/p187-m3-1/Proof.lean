import JvmDerived
import JvmDerived.Pilot.@@N@@Statement
import JvmDerived.Pilot.@@N@@Code
set_option linter.unusedVariables false
set_option linter.unusedSimpArgs false
namespace Jvm.Pilot.@@N@@
open Jvm Jvm.ClassFile Sem Op Lib Jvm.Free Jvm.Stand Jvm.LawKit Jvm.RoadKit Bundle Jvm.Pilot.@@N@@.Jvm.D
section Own
variable {p : Program} {l : Launch} {e : Env} {R : Room} {s : State} {m : MethodId} {args : Array Value} {below : List Frame} {meth : Method} {c : Code} {Z : State} {a0 : Array Value} {EL : List (String × Nat)} {n0 : Nat} {y : MethodName} {bytes : ByteArray} {maxL : Nat} {ret : Option FieldType} {b : State} {T : State} {h : Heap} {locs : List Loc} {cells slots : Nat} {P : Outcome → State → Prop} {pc pc' : Nat} {Ls : Array Slot} {st : List Value}
def Goes (tb : Tables) (e : Env) (below : List Frame) (P : Outcome → State → Prop) (A : State) : Prop := ∃ s₂ o, Steps tb e below A s₂ ∧ s₂.status = .running ∧ Ended s₂ below o ∧ P o s₂
theorem go {tb : Tables} {A B : State} (q : ∀ t, Steps tb e below B t → Steps tb e below A t) (k : Goes tb e below P B) : Goes tb e below P A := by
  obtain ⟨t, o, h, r⟩ := k
  exact ⟨t, o, q t h, r⟩
def Sfe (Z : State) (EL : List (String × Nat)) (vm : Vm) (h : Heap) (x : Addr) : Prop := Safe Z EL vm h x
theorem sfe_new {vm : Vm} {x : Addr} (q : h.size ≤ x) : Sfe Z EL vm h x := Safe.new q
def Bs (Z : State) (a0 : Array Value) (EL : List (String × Nat)) (s b : State) (h : Heap) : Prop := (∃ vm0 k0, b = s.setVm vm0 ∧ s.Since vm0 k0 ∧ k0 ≤ h.size) ∧ CHr Z EL s.vm s.heap b.vm h ∧ EW Z a0 EL
def Wk (p : Program) (l : Launch) (e : Env) (R : Room) (s : State) (m : MethodId) (args : Array Value) (below : List Frame) (meth : Method) (c : Code) (Z : State) (a0 : Array Value) (EL : List (String × Nat)) (n0 : Nat) (y : MethodName) (bytes : ByteArray) (maxL : Nat) (ret : Option FieldType) (b : State) (T : State) (h : Heap) (locs : List Loc) (cells slots : Nat) : Prop := Stand p l e R b m args below meth c T locs cells slots ∧ T.heap = h ∧ Fr n0 locs ∧ p.tables.exec = Jvm.exec ∧ Z.Warmed39 b.vm ∧ b.vm.findClass y.cls = some m.cls ∧ c.code = bytes ∧ c.maxLocals = maxL ∧ meth.sig.returnType = ret ∧ meth.locks = false ∧ meth.name = y.name ∧ Old Z n0 h ∧ Bs Z a0 EL s b h
theorem Wk.X (K : Wk p l e R s m args below meth c Z a0 EL n0 y bytes maxL ret b T h locs cells slots) : Stand p l e R b m args below meth c T locs cells slots := K.1
theorem Wk.eT (K : Wk p l e R s m args below meth c Z a0 EL n0 y bytes maxL ret b T h locs cells slots) : T.heap = h := K.2.1
theorem Wk.fr (K : Wk p l e R s m args below meth c Z a0 EL n0 y bytes maxL ret b T h locs cells slots) : Fr n0 locs := K.2.2.1
theorem Wk.hx (K : Wk p l e R s m args below meth c Z a0 EL n0 y bytes maxL ret b T h locs cells slots) : p.tables.exec = Jvm.exec := K.2.2.2.1
theorem Wk.hZ (K : Wk p l e R s m args below meth c Z a0 EL n0 y bytes maxL ret b T h locs cells slots) : Z.Warmed39 b.vm := K.2.2.2.2.1
theorem Wk.hown (K : Wk p l e R s m args below meth c Z a0 EL n0 y bytes maxL ret b T h locs cells slots) : b.vm.findClass y.cls = some m.cls := K.2.2.2.2.2.1
theorem Wk.hby (K : Wk p l e R s m args below meth c Z a0 EL n0 y bytes maxL ret b T h locs cells slots) : c.code = bytes := K.2.2.2.2.2.2.1
theorem Wk.hml (K : Wk p l e R s m args below meth c Z a0 EL n0 y bytes maxL ret b T h locs cells slots) : c.maxLocals = maxL := K.2.2.2.2.2.2.2.1
theorem Wk.hret (K : Wk p l e R s m args below meth c Z a0 EL n0 y bytes maxL ret b T h locs cells slots) : meth.sig.returnType = ret := K.2.2.2.2.2.2.2.2.1
theorem Wk.hlk (K : Wk p l e R s m args below meth c Z a0 EL n0 y bytes maxL ret b T h locs cells slots) : meth.locks = false := K.2.2.2.2.2.2.2.2.2.1
theorem Wk.hnm (K : Wk p l e R s m args below meth c Z a0 EL n0 y bytes maxL ret b T h locs cells slots) : meth.name = y.name := K.2.2.2.2.2.2.2.2.2.2.1
theorem Wk.old (K : Wk p l e R s m args below meth c Z a0 EL n0 y bytes maxL ret b T h locs cells slots) : Old Z n0 h := K.2.2.2.2.2.2.2.2.2.2.2.1
theorem Wk.bs (K : Wk p l e R s m args below meth c Z a0 EL n0 y bytes maxL ret b T h locs cells slots) : Bs Z a0 EL s b h := K.2.2.2.2.2.2.2.2.2.2.2.2
theorem Wk.at (K : Wk p l e R s m args below meth c Z a0 EL n0 y bytes maxL ret b T h locs cells slots) : At T m c below := K.X.here
theorem Wk.move (K : Wk p l e R s m args below meth c Z a0 EL n0 y bytes maxL ret b T h locs cells slots) {T' : State} {h' : Heap} {locs' : List Loc} {cells' slots' : Nat} (X : Stand p l e R b m args below meth c T' locs' cells' slots') (eT : T'.heap = h') (hF : Fr n0 locs') (hO : Old Z n0 h') (hB : Bs Z a0 EL s b h') : Wk p l e R s m args below meth c Z a0 EL n0 y bytes maxL ret b T' h' locs' cells' slots' := ⟨X, eT, hF, K.hx, K.hZ, K.hown, K.hby, K.hml, K.hret, K.hlk, K.hnm, hO, hB⟩
theorem k_iload (K : Wk p l e R s m args below meth c Z a0 EL n0 y bytes maxL ret b T h locs cells slots) {i : Int32} {k : Nat} (hd : decode bytes pc = .ok (.iload k, 2)) (hp : pc + 2 = pc') (hl : Ls[k]? = some (.val (.int i))) (k : Goes p.tables e below P (T.setTop (mkF m pc' Ls (.int i :: st)))) : Goes p.tables e below P (T.setTop (mkF m pc Ls st)) := by
  subst hp
  exact go (fun t q => XS.iload K.at K.hx rfl (hb K.hby hd) hl q) k
theorem k_iloadN (K : Wk p l e R s m args below meth c Z a0 EL n0 y bytes maxL ret b T h locs cells slots) {i : Int32} {k : Fin 4} (hd : decode bytes pc = .ok (.iload_n k, 1)) (hp : pc + 1 = pc') (hl : Ls[k.val]? = some (.val (.int i))) (k : Goes p.tables e below P (T.setTop (mkF m pc' Ls (.int i :: st)))) : Goes p.tables e below P (T.setTop (mkF m pc Ls st)) := by
  subst hp
  exact go (fun t q => XS.iloadN K.at K.hx rfl (hb K.hby hd) hl q) k
theorem k_lload (K : Wk p l e R s m args below meth c Z a0 EL n0 y bytes maxL ret b T h locs cells slots) {i : Int64} {k : Nat} (hd : decode bytes pc = .ok (.lload k, 2)) (hp : pc + 2 = pc') (hl : Ls[k]? = some (.val (.long i))) (k : Goes p.tables e below P (T.setTop (mkF m pc' Ls (.long i :: st)))) : Goes p.tables e below P (T.setTop (mkF m pc Ls st)) := by
  subst hp
  exact go (fun t q => XT.lload K.at K.hx rfl (hb K.hby hd) hl q) k
theorem k_lloadN (K : Wk p l e R s m args below meth c Z a0 EL n0 y bytes maxL ret b T h locs cells slots) {i : Int64} {k : Fin 4} (hd : decode bytes pc = .ok (.lload_n k, 1)) (hp : pc + 1 = pc') (hl : Ls[k.val]? = some (.val (.long i))) (k : Goes p.tables e below P (T.setTop (mkF m pc' Ls (.long i :: st)))) : Goes p.tables e below P (T.setTop (mkF m pc Ls st)) := by
  subst hp
  exact go (fun t q => XT.lloadN K.at K.hx rfl (hb K.hby hd) hl q) k
theorem k_aload (K : Wk p l e R s m args below meth c Z a0 EL n0 y bytes maxL ret b T h locs cells slots) {v : Value} {k : Nat} (hd : decode bytes pc = .ok (.aload k, 2)) (hp : pc + 2 = pc') (hl : Ls[k]? = some (.val v)) (hv : v.isRef = true) (k : Goes p.tables e below P (T.setTop (mkF m pc' Ls (v :: st)))) : Goes p.tables e below P (T.setTop (mkF m pc Ls st)) := by
  subst hp
  exact go (fun t q => XS.aload K.at K.hx rfl (hb K.hby hd) hl hv q) k
theorem k_aloadN (K : Wk p l e R s m args below meth c Z a0 EL n0 y bytes maxL ret b T h locs cells slots) {v : Value} {k : Fin 4} (hd : decode bytes pc = .ok (.aload_n k, 1)) (hp : pc + 1 = pc') (hl : Ls[k.val]? = some (.val v)) (hv : v.isRef = true) (k : Goes p.tables e below P (T.setTop (mkF m pc' Ls (v :: st)))) : Goes p.tables e below P (T.setTop (mkF m pc Ls st)) := by
  subst hp
  exact go (fun t q => XS.aloadN K.at K.hx rfl (hb K.hby hd) hl hv q) k
theorem k_istore (K : Wk p l e R s m args below meth c Z a0 EL n0 y bytes maxL ret b T h locs cells slots) {i : Int32} {k : Nat} {L' : Array Slot} (hd : decode bytes pc = .ok (.istore k, 2)) (hp : pc + 2 = pc') (hl : storeLocals Ls k (.int i) = some L') (k : Goes p.tables e below P (T.setTop (mkF m pc' L' st))) : Goes p.tables e below P (T.setTop (mkF m pc Ls (.int i :: st))) := by
  subst hp
  exact go (fun t q => XS.istore K.at K.hx rfl (hb K.hby hd) rfl hl q) k
theorem k_istoreN (K : Wk p l e R s m args below meth c Z a0 EL n0 y bytes maxL ret b T h locs cells slots) {i : Int32} {k : Fin 4} {L' : Array Slot} (hd : decode bytes pc = .ok (.istore_n k, 1)) (hp : pc + 1 = pc') (hl : storeLocals Ls k.val (.int i) = some L') (k : Goes p.tables e below P (T.setTop (mkF m pc' L' st))) : Goes p.tables e below P (T.setTop (mkF m pc Ls (.int i :: st))) := by
  subst hp
  exact go (fun t q => XS.istoreN K.at K.hx rfl (hb K.hby hd) rfl hl q) k
theorem k_lstore (K : Wk p l e R s m args below meth c Z a0 EL n0 y bytes maxL ret b T h locs cells slots) {i : Int64} {k : Nat} {L' : Array Slot} (hd : decode bytes pc = .ok (.lstore k, 2)) (hp : pc + 2 = pc') (hl : storeLocals Ls k (.long i) = some L') (k : Goes p.tables e below P (T.setTop (mkF m pc' L' st))) : Goes p.tables e below P (T.setTop (mkF m pc Ls (.long i :: st))) := by
  subst hp
  exact go (fun t q => XT.lstore K.at K.hx rfl (hb K.hby hd) rfl hl q) k
theorem k_lstoreN (K : Wk p l e R s m args below meth c Z a0 EL n0 y bytes maxL ret b T h locs cells slots) {i : Int64} {k : Fin 4} {L' : Array Slot} (hd : decode bytes pc = .ok (.lstore_n k, 1)) (hp : pc + 1 = pc') (hl : storeLocals Ls k.val (.long i) = some L') (k : Goes p.tables e below P (T.setTop (mkF m pc' L' st))) : Goes p.tables e below P (T.setTop (mkF m pc Ls (.long i :: st))) := by
  subst hp
  exact go (fun t q => XT.lstoreN K.at K.hx rfl (hb K.hby hd) rfl hl q) k
theorem k_astore (K : Wk p l e R s m args below meth c Z a0 EL n0 y bytes maxL ret b T h locs cells slots) {v : Value} {k : Nat} {L' : Array Slot} (hd : decode bytes pc = .ok (.astore k, 2)) (hp : pc + 2 = pc') (hv : v.isRef = true) (hl : storeLocals Ls k v = some L') (k : Goes p.tables e below P (T.setTop (mkF m pc' L' st))) : Goes p.tables e below P (T.setTop (mkF m pc Ls (v :: st))) := by
  subst hp
  exact go (fun t q => XS.astore K.at K.hx rfl (hb K.hby hd) rfl hv hl q) k
theorem k_astoreN (K : Wk p l e R s m args below meth c Z a0 EL n0 y bytes maxL ret b T h locs cells slots) {v : Value} {k : Fin 4} {L' : Array Slot} (hd : decode bytes pc = .ok (.astore_n k, 1)) (hp : pc + 1 = pc') (hv : v.isRef = true) (hl : storeLocals Ls k.val v = some L') (k : Goes p.tables e below P (T.setTop (mkF m pc' L' st))) : Goes p.tables e below P (T.setTop (mkF m pc Ls (v :: st))) := by
  subst hp
  exact go (fun t q => XS.astoreN K.at K.hx rfl (hb K.hby hd) rfl hv hl q) k
theorem k_iconst (K : Wk p l e R s m args below meth c Z a0 EL n0 y bytes maxL ret b T h locs cells slots) {i : Int} (v : Int32) (hd : decode bytes pc = .ok (.iconst i, 1)) (hp : pc + 1 = pc') (hv : Int32.ofInt i = v) (k : Goes p.tables e below P (T.setTop (mkF m pc' Ls (.int v :: st)))) : Goes p.tables e below P (T.setTop (mkF m pc Ls st)) := by
  subst hp
  exact go (fun t q => XT.iconstV K.at K.hx rfl v (hb K.hby hd) hv q) k
theorem k_bipush (K : Wk p l e R s m args below meth c Z a0 EL n0 y bytes maxL ret b T h locs cells slots) {i : Int} (v : Int32) (hd : decode bytes pc = .ok (.bipush i, 2)) (hp : pc + 2 = pc') (hv : (Int8.ofInt i).toInt32 = v) (k : Goes p.tables e below P (T.setTop (mkF m pc' Ls (.int v :: st)))) : Goes p.tables e below P (T.setTop (mkF m pc Ls st)) := by
  subst hp
  exact go (fun t q => XT.bipushV K.at K.hx rfl v (hb K.hby hd) hv q) k
theorem k_sipush (K : Wk p l e R s m args below meth c Z a0 EL n0 y bytes maxL ret b T h locs cells slots) {i : Int} (v : Int32) (hd : decode bytes pc = .ok (.sipush i, 3)) (hp : pc + 3 = pc') (hv : (Int16.ofInt i).toInt32 = v) (k : Goes p.tables e below P (T.setTop (mkF m pc' Ls (.int v :: st)))) : Goes p.tables e below P (T.setTop (mkF m pc Ls st)) := by
  subst hp
  exact go (fun t q => XT.sipushV K.at K.hx rfl v (hb K.hby hd) hv q) k
theorem k_lconst (K : Wk p l e R s m args below meth c Z a0 EL n0 y bytes maxL ret b T h locs cells slots) {i : Fin 2} (v : Int64) (hd : decode bytes pc = .ok (.lconst i, 1)) (hp : pc + 1 = pc') (hv : Int64.ofNat i = v) (k : Goes p.tables e below P (T.setTop (mkF m pc' Ls (.long v :: st)))) : Goes p.tables e below P (T.setTop (mkF m pc Ls st)) := by
  subst hp
  exact go (fun t q => XT.lconstV K.at K.hx rfl v (hb K.hby hd) hv q) k
theorem k_aconst_null (K : Wk p l e R s m args below meth c Z a0 EL n0 y bytes maxL ret b T h locs cells slots)  (hd : decode bytes pc = .ok (.aconst_null, 1)) (hp : pc + 1 = pc') (k : Goes p.tables e below P (T.setTop (mkF m pc' Ls (.null :: st)))) : Goes p.tables e below P (T.setTop (mkF m pc Ls st)) := by
  subst hp
  exact go (fun t q => XS.aconstNull K.at K.hx rfl (hb K.hby hd) q) k
theorem k_ldcI (K : Wk p l e R s m args below meth c Z a0 EL n0 y bytes maxL ret b T h locs cells slots) {i : Nat} {v : Int32} (wd : (Cond.constant y.cls i v).before a0 Z = true) (hd : decode bytes pc = .ok (.ldc i, 2)) (hp : pc + 2 = pc') (k : Goes p.tables e below P (T.setTop (mkF m pc' Ls (.int v :: st)))) : Goes p.tables e below P (T.setTop (mkF m pc Ls st)) := by
  subst hp
  exact go (fun t q => Stand.ldcI K.X K.hx K.hown (mvT K.hZ wd) rfl (hb K.hby hd) q) k
theorem k_ldcWI (K : Wk p l e R s m args below meth c Z a0 EL n0 y bytes maxL ret b T h locs cells slots) {i : Nat} {v : Int32} (wd : (Cond.constant y.cls i v).before a0 Z = true) (hd : decode bytes pc = .ok (.ldc_w i, 3)) (hp : pc + 3 = pc') (k : Goes p.tables e below P (T.setTop (mkF m pc' Ls (.int v :: st)))) : Goes p.tables e below P (T.setTop (mkF m pc Ls st)) := by
  subst hp
  exact go (fun t q => Stand.ldcWI K.X K.hx K.hown (mvT K.hZ wd) rfl (hb K.hby hd) q) k
theorem k_ldcJ (K : Wk p l e R s m args below meth c Z a0 EL n0 y bytes maxL ret b T h locs cells slots) {i : Nat} {v : Int64} (wd : (Cond.constantLong y.cls i v).before a0 Z = true) (hd : decode bytes pc = .ok (.ldc2_w i, 3)) (hp : pc + 3 = pc') (k : Goes p.tables e below P (T.setTop (mkF m pc' Ls (.long v :: st)))) : Goes p.tables e below P (T.setTop (mkF m pc Ls st)) := by
  subst hp
  exact go (fun t q => Stand.ldc2J K.X K.hx K.hown (mvT K.hZ wd) rfl (hb K.hby hd) q) k
theorem k_iadd (K : Wk p l e R s m args below meth c Z a0 EL n0 y bytes maxL ret b T h locs cells slots) {i j : Int32} (hd : decode bytes pc = .ok (.iadd, 1)) (hp : pc + 1 = pc') (k : Goes p.tables e below P (T.setTop (mkF m pc' Ls (.int (i + j) :: st)))) : Goes p.tables e below P (T.setTop (mkF m pc Ls (.int j :: .int i :: st))) := by
  subst hp
  exact go (fun t q => XS.iadd K.at K.hx rfl (hb K.hby hd) rfl q) k
theorem k_isub (K : Wk p l e R s m args below meth c Z a0 EL n0 y bytes maxL ret b T h locs cells slots) {i j : Int32} (hd : decode bytes pc = .ok (.isub, 1)) (hp : pc + 1 = pc') (k : Goes p.tables e below P (T.setTop (mkF m pc' Ls (.int (i - j) :: st)))) : Goes p.tables e below P (T.setTop (mkF m pc Ls (.int j :: .int i :: st))) := by
  subst hp
  exact go (fun t q => XS.isub K.at K.hx rfl (hb K.hby hd) rfl q) k
theorem k_imul (K : Wk p l e R s m args below meth c Z a0 EL n0 y bytes maxL ret b T h locs cells slots) {i j : Int32} (hd : decode bytes pc = .ok (.imul, 1)) (hp : pc + 1 = pc') (k : Goes p.tables e below P (T.setTop (mkF m pc' Ls (.int (i * j) :: st)))) : Goes p.tables e below P (T.setTop (mkF m pc Ls (.int j :: .int i :: st))) := by
  subst hp
  exact go (fun t q => XS.imul K.at K.hx rfl (hb K.hby hd) rfl q) k
theorem k_iand (K : Wk p l e R s m args below meth c Z a0 EL n0 y bytes maxL ret b T h locs cells slots) {i j : Int32} (hd : decode bytes pc = .ok (.iand, 1)) (hp : pc + 1 = pc') (k : Goes p.tables e below P (T.setTop (mkF m pc' Ls (.int (i &&& j) :: st)))) : Goes p.tables e below P (T.setTop (mkF m pc Ls (.int j :: .int i :: st))) := by
  subst hp
  exact go (fun t q => XS.iand K.at K.hx rfl (hb K.hby hd) rfl q) k
theorem k_ior (K : Wk p l e R s m args below meth c Z a0 EL n0 y bytes maxL ret b T h locs cells slots) {i j : Int32} (hd : decode bytes pc = .ok (.ior, 1)) (hp : pc + 1 = pc') (k : Goes p.tables e below P (T.setTop (mkF m pc' Ls (.int (i ||| j) :: st)))) : Goes p.tables e below P (T.setTop (mkF m pc Ls (.int j :: .int i :: st))) := by
  subst hp
  exact go (fun t q => XT.ior K.at K.hx rfl (hb K.hby hd) rfl q) k
theorem k_ixor (K : Wk p l e R s m args below meth c Z a0 EL n0 y bytes maxL ret b T h locs cells slots) {i j : Int32} (hd : decode bytes pc = .ok (.ixor, 1)) (hp : pc + 1 = pc') (k : Goes p.tables e below P (T.setTop (mkF m pc' Ls (.int (i ^^^ j) :: st)))) : Goes p.tables e below P (T.setTop (mkF m pc Ls (.int j :: .int i :: st))) := by
  subst hp
  exact go (fun t q => XT.ixor K.at K.hx rfl (hb K.hby hd) rfl q) k
theorem k_ishl (K : Wk p l e R s m args below meth c Z a0 EL n0 y bytes maxL ret b T h locs cells slots) {i j : Int32} (hd : decode bytes pc = .ok (.ishl, 1)) (hp : pc + 1 = pc') (k : Goes p.tables e below P (T.setTop (mkF m pc' Ls (.int (i <<< (j &&& 31)) :: st)))) : Goes p.tables e below P (T.setTop (mkF m pc Ls (.int j :: .int i :: st))) := by
  subst hp
  exact go (fun t q => XT.ishl K.at K.hx rfl (hb K.hby hd) rfl q) k
theorem k_ishr (K : Wk p l e R s m args below meth c Z a0 EL n0 y bytes maxL ret b T h locs cells slots) {i j : Int32} (hd : decode bytes pc = .ok (.ishr, 1)) (hp : pc + 1 = pc') (k : Goes p.tables e below P (T.setTop (mkF m pc' Ls (.int (i >>> (j &&& 31)) :: st)))) : Goes p.tables e below P (T.setTop (mkF m pc Ls (.int j :: .int i :: st))) := by
  subst hp
  exact go (fun t q => XT.ishr K.at K.hx rfl (hb K.hby hd) rfl q) k
theorem k_iushr (K : Wk p l e R s m args below meth c Z a0 EL n0 y bytes maxL ret b T h locs cells slots) {i j : Int32} (hd : decode bytes pc = .ok (.iushr, 1)) (hp : pc + 1 = pc') (k : Goes p.tables e below P (T.setTop (mkF m pc' Ls (.int (XT.ushr i j) :: st)))) : Goes p.tables e below P (T.setTop (mkF m pc Ls (.int j :: .int i :: st))) := by
  subst hp
  exact go (fun t q => XT.iushr K.at K.hx rfl (hb K.hby hd) rfl q) k
theorem k_ladd (K : Wk p l e R s m args below meth c Z a0 EL n0 y bytes maxL ret b T h locs cells slots) {i j : Int64} (hd : decode bytes pc = .ok (.ladd, 1)) (hp : pc + 1 = pc') (k : Goes p.tables e below P (T.setTop (mkF m pc' Ls (.long (i + j) :: st)))) : Goes p.tables e below P (T.setTop (mkF m pc Ls (.long j :: .long i :: st))) := by
  subst hp
  exact go (fun t q => XT.ladd K.at K.hx rfl (hb K.hby hd) rfl q) k
theorem k_lsub (K : Wk p l e R s m args below meth c Z a0 EL n0 y bytes maxL ret b T h locs cells slots) {i j : Int64} (hd : decode bytes pc = .ok (.lsub, 1)) (hp : pc + 1 = pc') (k : Goes p.tables e below P (T.setTop (mkF m pc' Ls (.long (i - j) :: st)))) : Goes p.tables e below P (T.setTop (mkF m pc Ls (.long j :: .long i :: st))) := by
  subst hp
  exact go (fun t q => XT.lsub K.at K.hx rfl (hb K.hby hd) rfl q) k
theorem k_lmul (K : Wk p l e R s m args below meth c Z a0 EL n0 y bytes maxL ret b T h locs cells slots) {i j : Int64} (hd : decode bytes pc = .ok (.lmul, 1)) (hp : pc + 1 = pc') (k : Goes p.tables e below P (T.setTop (mkF m pc' Ls (.long (i * j) :: st)))) : Goes p.tables e below P (T.setTop (mkF m pc Ls (.long j :: .long i :: st))) := by
  subst hp
  exact go (fun t q => XT.lmul K.at K.hx rfl (hb K.hby hd) rfl q) k
theorem k_land (K : Wk p l e R s m args below meth c Z a0 EL n0 y bytes maxL ret b T h locs cells slots) {i j : Int64} (hd : decode bytes pc = .ok (.land, 1)) (hp : pc + 1 = pc') (k : Goes p.tables e below P (T.setTop (mkF m pc' Ls (.long (i &&& j) :: st)))) : Goes p.tables e below P (T.setTop (mkF m pc Ls (.long j :: .long i :: st))) := by
  subst hp
  exact go (fun t q => XT.land K.at K.hx rfl (hb K.hby hd) rfl q) k
theorem k_lor (K : Wk p l e R s m args below meth c Z a0 EL n0 y bytes maxL ret b T h locs cells slots) {i j : Int64} (hd : decode bytes pc = .ok (.lor, 1)) (hp : pc + 1 = pc') (k : Goes p.tables e below P (T.setTop (mkF m pc' Ls (.long (i ||| j) :: st)))) : Goes p.tables e below P (T.setTop (mkF m pc Ls (.long j :: .long i :: st))) := by
  subst hp
  exact go (fun t q => XT.lor K.at K.hx rfl (hb K.hby hd) rfl q) k
theorem k_lxor (K : Wk p l e R s m args below meth c Z a0 EL n0 y bytes maxL ret b T h locs cells slots) {i j : Int64} (hd : decode bytes pc = .ok (.lxor, 1)) (hp : pc + 1 = pc') (k : Goes p.tables e below P (T.setTop (mkF m pc' Ls (.long (i ^^^ j) :: st)))) : Goes p.tables e below P (T.setTop (mkF m pc Ls (.long j :: .long i :: st))) := by
  subst hp
  exact go (fun t q => XT.lxor K.at K.hx rfl (hb K.hby hd) rfl q) k
theorem k_lshl (K : Wk p l e R s m args below meth c Z a0 EL n0 y bytes maxL ret b T h locs cells slots) {i : Int64} {j : Int32} (hd : decode bytes pc = .ok (.lshl, 1)) (hp : pc + 1 = pc') (k : Goes p.tables e below P (T.setTop (mkF m pc' Ls (.long (i <<< (j.toInt64 &&& 63)) :: st)))) : Goes p.tables e below P (T.setTop (mkF m pc Ls (.int j :: .long i :: st))) := by
  subst hp
  exact go (fun t q => XT.lshl K.at K.hx rfl (hb K.hby hd) rfl q) k
theorem k_lshr (K : Wk p l e R s m args below meth c Z a0 EL n0 y bytes maxL ret b T h locs cells slots) {i : Int64} {j : Int32} (hd : decode bytes pc = .ok (.lshr, 1)) (hp : pc + 1 = pc') (k : Goes p.tables e below P (T.setTop (mkF m pc' Ls (.long (i >>> (j.toInt64 &&& 63)) :: st)))) : Goes p.tables e below P (T.setTop (mkF m pc Ls (.int j :: .long i :: st))) := by
  subst hp
  exact go (fun t q => XT.lshr K.at K.hx rfl (hb K.hby hd) rfl q) k
theorem k_lushr (K : Wk p l e R s m args below meth c Z a0 EL n0 y bytes maxL ret b T h locs cells slots) {i : Int64} {j : Int32} (hd : decode bytes pc = .ok (.lushr, 1)) (hp : pc + 1 = pc') (k : Goes p.tables e below P (T.setTop (mkF m pc' Ls (.long (XT.ushrL i j) :: st)))) : Goes p.tables e below P (T.setTop (mkF m pc Ls (.int j :: .long i :: st))) := by
  subst hp
  exact go (fun t q => XT.lushr K.at K.hx rfl (hb K.hby hd) rfl q) k
theorem k_idiv (K : Wk p l e R s m args below meth c Z a0 EL n0 y bytes maxL ret b T h locs cells slots) {i j : Int32} (hd : decode bytes pc = .ok (.idiv, 1)) (hp : pc + 1 = pc') (hj : j ≠ 0) (k : Goes p.tables e below P (T.setTop (mkF m pc' Ls (.int (i / j) :: st)))) : Goes p.tables e below P (T.setTop (mkF m pc Ls (.int j :: .int i :: st))) := by
  subst hp
  exact go (fun t q => XS.idiv K.at K.hx rfl (hb K.hby hd) rfl hj q) k
theorem k_irem (K : Wk p l e R s m args below meth c Z a0 EL n0 y bytes maxL ret b T h locs cells slots) {i j : Int32} (hd : decode bytes pc = .ok (.irem, 1)) (hp : pc + 1 = pc') (hj : j ≠ 0) (k : Goes p.tables e below P (T.setTop (mkF m pc' Ls (.int (i % j) :: st)))) : Goes p.tables e below P (T.setTop (mkF m pc Ls (.int j :: .int i :: st))) := by
  subst hp
  exact go (fun t q => Jvm.RoadKit.iremM K.X K.hx rfl (hb K.hby hd) rfl hj q) k
theorem k_ldiv (K : Wk p l e R s m args below meth c Z a0 EL n0 y bytes maxL ret b T h locs cells slots) {i j : Int64} (hd : decode bytes pc = .ok (.ldiv, 1)) (hp : pc + 1 = pc') (hj : j ≠ 0) (k : Goes p.tables e below P (T.setTop (mkF m pc' Ls (.long (i / j) :: st)))) : Goes p.tables e below P (T.setTop (mkF m pc Ls (.long j :: .long i :: st))) := by
  subst hp
  exact go (fun t q => XT.ldiv K.at K.hx rfl (hb K.hby hd) rfl hj q) k
theorem k_lrem (K : Wk p l e R s m args below meth c Z a0 EL n0 y bytes maxL ret b T h locs cells slots) {i j : Int64} (hd : decode bytes pc = .ok (.lrem, 1)) (hp : pc + 1 = pc') (hj : j ≠ 0) (k : Goes p.tables e below P (T.setTop (mkF m pc' Ls (.long (i - (i / j) * j) :: st)))) : Goes p.tables e below P (T.setTop (mkF m pc Ls (.long j :: .long i :: st))) := by
  subst hp
  exact go (fun t q => XT.lrem K.at K.hx rfl (hb K.hby hd) rfl hj q) k
theorem k_lcmp (K : Wk p l e R s m args below meth c Z a0 EL n0 y bytes maxL ret b T h locs cells slots) {i j : Int64} (hd : decode bytes pc = .ok (.lcmp, 1)) (hp : pc + 1 = pc') (k : Goes p.tables e below P (T.setTop (mkF m pc' Ls (.int (XT.cmpL i j) :: st)))) : Goes p.tables e below P (T.setTop (mkF m pc Ls (.long j :: .long i :: st))) := by
  subst hp
  exact go (fun t q => XT.lcmp K.at K.hx rfl (hb K.hby hd) rfl q) k
theorem k_ineg (K : Wk p l e R s m args below meth c Z a0 EL n0 y bytes maxL ret b T h locs cells slots) {i : Int32} (hd : decode bytes pc = .ok (.ineg, 1)) (hp : pc + 1 = pc') (k : Goes p.tables e below P (T.setTop (mkF m pc' Ls (.int (-i) :: st)))) : Goes p.tables e below P (T.setTop (mkF m pc Ls (.int i :: st))) := by
  subst hp
  exact go (fun t q => XS.ineg K.at K.hx rfl (hb K.hby hd) rfl q) k
theorem k_lneg (K : Wk p l e R s m args below meth c Z a0 EL n0 y bytes maxL ret b T h locs cells slots) {i : Int64} (hd : decode bytes pc = .ok (.lneg, 1)) (hp : pc + 1 = pc') (k : Goes p.tables e below P (T.setTop (mkF m pc' Ls (.long (-i) :: st)))) : Goes p.tables e below P (T.setTop (mkF m pc Ls (.long i :: st))) := by
  subst hp
  exact go (fun t q => XT.lneg K.at K.hx rfl (hb K.hby hd) rfl q) k
theorem k_i2l (K : Wk p l e R s m args below meth c Z a0 EL n0 y bytes maxL ret b T h locs cells slots) {i : Int32} (hd : decode bytes pc = .ok (.i2l, 1)) (hp : pc + 1 = pc') (k : Goes p.tables e below P (T.setTop (mkF m pc' Ls (.long i.toInt64 :: st)))) : Goes p.tables e below P (T.setTop (mkF m pc Ls (.int i :: st))) := by
  subst hp
  exact go (fun t q => XT.i2l K.at K.hx rfl (hb K.hby hd) rfl q) k
theorem k_l2i (K : Wk p l e R s m args below meth c Z a0 EL n0 y bytes maxL ret b T h locs cells slots) {i : Int64} (hd : decode bytes pc = .ok (.l2i, 1)) (hp : pc + 1 = pc') (k : Goes p.tables e below P (T.setTop (mkF m pc' Ls (.int i.toInt32 :: st)))) : Goes p.tables e below P (T.setTop (mkF m pc Ls (.long i :: st))) := by
  subst hp
  exact go (fun t q => XT.l2i K.at K.hx rfl (hb K.hby hd) rfl q) k
theorem k_i2b (K : Wk p l e R s m args below meth c Z a0 EL n0 y bytes maxL ret b T h locs cells slots) {i : Int32} (hd : decode bytes pc = .ok (.i2b, 1)) (hp : pc + 1 = pc') (k : Goes p.tables e below P (T.setTop (mkF m pc' Ls (.int i.toInt8.toInt32 :: st)))) : Goes p.tables e below P (T.setTop (mkF m pc Ls (.int i :: st))) := by
  subst hp
  exact go (fun t q => XT.i2b K.at K.hx rfl (hb K.hby hd) rfl q) k
theorem k_i2c (K : Wk p l e R s m args below meth c Z a0 EL n0 y bytes maxL ret b T h locs cells slots) {i : Int32} (hd : decode bytes pc = .ok (.i2c, 1)) (hp : pc + 1 = pc') (k : Goes p.tables e below P (T.setTop (mkF m pc' Ls (.int i.toUInt32.toUInt16.toUInt32.toInt32 :: st)))) : Goes p.tables e below P (T.setTop (mkF m pc Ls (.int i :: st))) := by
  subst hp
  exact go (fun t q => XT.i2c K.at K.hx rfl (hb K.hby hd) rfl q) k
theorem k_i2s (K : Wk p l e R s m args below meth c Z a0 EL n0 y bytes maxL ret b T h locs cells slots) {i : Int32} (hd : decode bytes pc = .ok (.i2s, 1)) (hp : pc + 1 = pc') (k : Goes p.tables e below P (T.setTop (mkF m pc' Ls (.int i.toInt16.toInt32 :: st)))) : Goes p.tables e below P (T.setTop (mkF m pc Ls (.int i :: st))) := by
  subst hp
  exact go (fun t q => XT.i2s K.at K.hx rfl (hb K.hby hd) rfl q) k
theorem k_iinc (K : Wk p l e R s m args below meth c Z a0 EL n0 y bytes maxL ret b T h locs cells slots) {i : Int32} {k : Nat} {ct : Int} {L' : Array Slot} (v : Int32) (hd : decode bytes pc = .ok (.iinc k ct, 3)) (hp : pc + 3 = pc') (hv : Int32.ofInt ct = v) (hl : Ls[k]? = some (.val (.int i))) (hl' : storeLocals Ls k (.int (i + v)) = some L') (k : Goes p.tables e below P (T.setTop (mkF m pc' L' st))) : Goes p.tables e below P (T.setTop (mkF m pc Ls st)) := by
  subst hp
  exact go (fun t q => XT.iincV K.at K.hx rfl v (hb K.hby hd) hv hl hl' q) k
theorem k_dup (K : Wk p l e R s m args below meth c Z a0 EL n0 y bytes maxL ret b T h locs cells slots) {v : Value} (hd : decode bytes pc = .ok (.dup, 1)) (hp : pc + 1 = pc') (hc : v.category = 1) (k : Goes p.tables e below P (T.setTop (mkF m pc' Ls (v :: v :: st)))) : Goes p.tables e below P (T.setTop (mkF m pc Ls (v :: st))) := by
  subst hp
  exact go (fun t q => XS.dup K.at K.hx rfl (hb K.hby hd) rfl hc q) k
theorem k_pop (K : Wk p l e R s m args below meth c Z a0 EL n0 y bytes maxL ret b T h locs cells slots) {v : Value} (hd : decode bytes pc = .ok (.pop, 1)) (hp : pc + 1 = pc') (hc : v.category = 1) (k : Goes p.tables e below P (T.setTop (mkF m pc' Ls st))) : Goes p.tables e below P (T.setTop (mkF m pc Ls (v :: st))) := by
  subst hp
  exact go (fun t q => XT.pop K.at K.hx rfl (hb K.hby hd) rfl hc q) k
theorem k_dup_x1 (K : Wk p l e R s m args below meth c Z a0 EL n0 y bytes maxL ret b T h locs cells slots) {v u : Value} (hd : decode bytes pc = .ok (.dup_x1, 1)) (hp : pc + 1 = pc') (hc : v.category = 1) (hc' : u.category = 1) (k : Goes p.tables e below P (T.setTop (mkF m pc' Ls (v :: u :: v :: st)))) : Goes p.tables e below P (T.setTop (mkF m pc Ls (v :: u :: st))) := by
  subst hp
  exact go (fun t q => XT.dupX1 K.at K.hx rfl (hb K.hby hd) rfl hc hc' q) k
theorem k_dup2J (K : Wk p l e R s m args below meth c Z a0 EL n0 y bytes maxL ret b T h locs cells slots) {i : Int64} (hd : decode bytes pc = .ok (.dup2, 1)) (hp : pc + 1 = pc') (k : Goes p.tables e below P (T.setTop (mkF m pc' Ls (.long i :: .long i :: st)))) : Goes p.tables e below P (T.setTop (mkF m pc Ls (.long i :: st))) := by
  subst hp
  refine go (fun t q => ?_) k
  have hd' := (hb K.hby hd)
  have hA := K.at
  have hx := K.hx
  jvm_step hA [hA.top, hx, hd', Value.category]
  exact q
theorem k_dup2II (K : Wk p l e R s m args below meth c Z a0 EL n0 y bytes maxL ret b T h locs cells slots) {i j : Int32} (hd : decode bytes pc = .ok (.dup2, 1)) (hp : pc + 1 = pc') (k : Goes p.tables e below P (T.setTop (mkF m pc' Ls (.int j :: .int i :: .int j :: .int i :: st)))) : Goes p.tables e below P (T.setTop (mkF m pc Ls (.int j :: .int i :: st))) := by
  subst hp
  refine go (fun t q => ?_) k
  have hd' := (hb K.hby hd)
  have hA := K.at
  have hx := K.hx
  jvm_step hA [hA.top, hx, hd', Value.category]
  exact q
theorem k_dup2AI (K : Wk p l e R s m args below meth c Z a0 EL n0 y bytes maxL ret b T h locs cells slots) {a : Addr} {j : Int32} (hd : decode bytes pc = .ok (.dup2, 1)) (hp : pc + 1 = pc') (k : Goes p.tables e below P (T.setTop (mkF m pc' Ls (.int j :: .ref a :: .int j :: .ref a :: st)))) : Goes p.tables e below P (T.setTop (mkF m pc Ls (.int j :: .ref a :: st))) := by
  subst hp
  refine go (fun t q => ?_) k
  have hd' := (hb K.hby hd)
  have hA := K.at
  have hx := K.hx
  jvm_step hA [hA.top, hx, hd', Value.category]
  exact q
theorem k_pop2J (K : Wk p l e R s m args below meth c Z a0 EL n0 y bytes maxL ret b T h locs cells slots) {i : Int64} (hd : decode bytes pc = .ok (.pop2, 1)) (hp : pc + 1 = pc') (k : Goes p.tables e below P (T.setTop (mkF m pc' Ls st))) : Goes p.tables e below P (T.setTop (mkF m pc Ls (.long i :: st))) := by
  subst hp
  refine go (fun t q => ?_) k
  have hd' := (hb K.hby hd)
  have hA := K.at
  have hx := K.hx
  jvm_step hA [hA.top, hx, hd', Value.category]
  exact q
theorem k_dup_x2AI (K : Wk p l e R s m args below meth c Z a0 EL n0 y bytes maxL ret b T h locs cells slots) {a : Addr} {i j : Int32} (hd : decode bytes pc = .ok (.dup_x2, 1)) (hp : pc + 1 = pc') (k : Goes p.tables e below P (T.setTop (mkF m pc' Ls (.int i :: .int j :: .ref a :: .int i :: st)))) : Goes p.tables e below P (T.setTop (mkF m pc Ls (.int i :: .int j :: .ref a :: st))) := by
  subst hp
  refine go (fun t q => ?_) k
  have hd' := (hb K.hby hd)
  have hA := K.at
  have hx := K.hx
  jvm_step hA [hA.top, hx, hd', Value.category]
  exact q
theorem k_dup2_x1JA (K : Wk p l e R s m args below meth c Z a0 EL n0 y bytes maxL ret b T h locs cells slots) {i : Int64} {a : Addr} (hd : decode bytes pc = .ok (.dup2_x1, 1)) (hp : pc + 1 = pc') (k : Goes p.tables e below P (T.setTop (mkF m pc' Ls (.long i :: .ref a :: .long i :: st)))) : Goes p.tables e below P (T.setTop (mkF m pc Ls (.long i :: .ref a :: st))) := by
  subst hp
  refine go (fun t q => ?_) k
  have hd' := (hb K.hby hd)
  have hA := K.at
  have hx := K.hx
  jvm_step hA [hA.top, hx, hd', Value.category]
  exact q
theorem k_dup2_x2JAI (K : Wk p l e R s m args below meth c Z a0 EL n0 y bytes maxL ret b T h locs cells slots) {i : Int64} {a : Addr} {j : Int32} (hd : decode bytes pc = .ok (.dup2_x2, 1)) (hp : pc + 1 = pc') (k : Goes p.tables e below P (T.setTop (mkF m pc' Ls (.long i :: .int j :: .ref a :: .long i :: st)))) : Goes p.tables e below P (T.setTop (mkF m pc Ls (.long i :: .int j :: .ref a :: st))) := by
  subst hp
  refine go (fun t q => ?_) k
  have hd' := (hb K.hby hd)
  have hA := K.at
  have hx := K.hx
  jvm_step hA [hA.top, hx, hd', Value.category]
  exact q
theorem k_goto (K : Wk p l e R s m args below meth c Z a0 EL n0 y bytes maxL ret b T h locs cells slots) {o : Int} (hd : decode bytes pc = .ok (.goto o, 3)) (ho : 0 ≤ (pc : Int) + o) (hp : ((pc : Int) + o).toNat = pc') (k : Goes p.tables e below P (T.setTop (mkF m pc' Ls st))) : Goes p.tables e below P (T.setTop (mkF m pc Ls st)) := go (fun t q => XS.goto K.at K.hx rfl rfl (hb K.hby hd) ho hp q) k
theorem k_icmp_eq (K : Wk p l e R s m args below meth c Z a0 EL n0 y bytes maxL ret b T h locs cells slots) {i j : Int32} {o : Int} {pc2 : Nat} (hd : decode bytes pc = .ok (.if_icmp .eq o, 3)) (ho : 0 ≤ (pc : Int) + o) (hp : ((pc : Int) + o).toNat = pc') (hp2 : pc + 3 = pc2) (kT : i = j → Goes p.tables e below P (T.setTop (mkF m pc' Ls st))) (kF : ¬ i = j → Goes p.tables e below P (T.setTop (mkF m pc2 Ls st))) : Goes p.tables e below P (T.setTop (mkF m pc Ls (.int j :: .int i :: st))) := by
  subst hp2
  by_cases q : i = j
  · exact go (fun t r => XS.icmpYes K.at K.hx rfl rfl (hb K.hby hd) rfl (XT.ii_eq_t q) ho hp r) (kT q)
  · exact go (fun t r => XS.icmpNo K.at K.hx rfl (hb K.hby hd) rfl (XT.ii_eq_f q) r) (kF q)
theorem k_if_eq (K : Wk p l e R s m args below meth c Z a0 EL n0 y bytes maxL ret b T h locs cells slots) {i : Int32} {o : Int} {pc2 : Nat} (hd : decode bytes pc = .ok (.ifCond .eq o, 3)) (ho : 0 ≤ (pc : Int) + o) (hp : ((pc : Int) + o).toNat = pc') (hp2 : pc + 3 = pc2) (kT : i = 0 → Goes p.tables e below P (T.setTop (mkF m pc' Ls st))) (kF : ¬ i = 0 → Goes p.tables e below P (T.setTop (mkF m pc2 Ls st))) : Goes p.tables e below P (T.setTop (mkF m pc Ls (.int i :: st))) := by
  subst hp2
  by_cases q : i = 0
  · exact go (fun t r => XS.ifYes K.at K.hx rfl rfl (hb K.hby hd) rfl (XT.i0_eq_t q) ho hp r) (kT q)
  · exact go (fun t r => XS.ifNo K.at K.hx rfl (hb K.hby hd) rfl (XT.i0_eq_f q) r) (kF q)
theorem k_lif_eq (K : Wk p l e R s m args below meth c Z a0 EL n0 y bytes maxL ret b T h locs cells slots) {i j : Int64} {o : Int} {pc2 : Nat} (hd : decode bytes pc = .ok (.ifCond .eq o, 3)) (ho : 0 ≤ (pc : Int) + o) (hp : ((pc : Int) + o).toNat = pc') (hp2 : pc + 3 = pc2) (kT : i = j → Goes p.tables e below P (T.setTop (mkF m pc' Ls st))) (kF : ¬ i = j → Goes p.tables e below P (T.setTop (mkF m pc2 Ls st))) : Goes p.tables e below P (T.setTop (mkF m pc Ls (.int (XT.cmpL i j) :: st))) := by
  subst hp2
  by_cases q : i = j
  · exact go (fun t r => XS.ifYes K.at K.hx rfl rfl (hb K.hby hd) rfl (XT.ll_eq_t q) ho hp r) (kT q)
  · exact go (fun t r => XS.ifNo K.at K.hx rfl (hb K.hby hd) rfl (XT.ll_eq_f q) r) (kF q)
theorem k_icmp_ne (K : Wk p l e R s m args below meth c Z a0 EL n0 y bytes maxL ret b T h locs cells slots) {i j : Int32} {o : Int} {pc2 : Nat} (hd : decode bytes pc = .ok (.if_icmp .ne o, 3)) (ho : 0 ≤ (pc : Int) + o) (hp : ((pc : Int) + o).toNat = pc') (hp2 : pc + 3 = pc2) (kT : ¬ i = j → Goes p.tables e below P (T.setTop (mkF m pc' Ls st))) (kF : i = j → Goes p.tables e below P (T.setTop (mkF m pc2 Ls st))) : Goes p.tables e below P (T.setTop (mkF m pc Ls (.int j :: .int i :: st))) := by
  subst hp2
  by_cases q : ¬ i = j
  · exact go (fun t r => XS.icmpYes K.at K.hx rfl rfl (hb K.hby hd) rfl (XT.ii_ne_t q) ho hp r) (kT q)
  · exact go (fun t r => XS.icmpNo K.at K.hx rfl (hb K.hby hd) rfl (XT.ii_ne_f (Classical.not_not.mp q)) r) (kF (Classical.not_not.mp q))
theorem k_if_ne (K : Wk p l e R s m args below meth c Z a0 EL n0 y bytes maxL ret b T h locs cells slots) {i : Int32} {o : Int} {pc2 : Nat} (hd : decode bytes pc = .ok (.ifCond .ne o, 3)) (ho : 0 ≤ (pc : Int) + o) (hp : ((pc : Int) + o).toNat = pc') (hp2 : pc + 3 = pc2) (kT : ¬ i = 0 → Goes p.tables e below P (T.setTop (mkF m pc' Ls st))) (kF : i = 0 → Goes p.tables e below P (T.setTop (mkF m pc2 Ls st))) : Goes p.tables e below P (T.setTop (mkF m pc Ls (.int i :: st))) := by
  subst hp2
  by_cases q : ¬ i = 0
  · exact go (fun t r => XS.ifYes K.at K.hx rfl rfl (hb K.hby hd) rfl (XT.i0_ne_t q) ho hp r) (kT q)
  · exact go (fun t r => XS.ifNo K.at K.hx rfl (hb K.hby hd) rfl (XT.i0_ne_f (Classical.not_not.mp q)) r) (kF (Classical.not_not.mp q))
theorem k_lif_ne (K : Wk p l e R s m args below meth c Z a0 EL n0 y bytes maxL ret b T h locs cells slots) {i j : Int64} {o : Int} {pc2 : Nat} (hd : decode bytes pc = .ok (.ifCond .ne o, 3)) (ho : 0 ≤ (pc : Int) + o) (hp : ((pc : Int) + o).toNat = pc') (hp2 : pc + 3 = pc2) (kT : ¬ i = j → Goes p.tables e below P (T.setTop (mkF m pc' Ls st))) (kF : i = j → Goes p.tables e below P (T.setTop (mkF m pc2 Ls st))) : Goes p.tables e below P (T.setTop (mkF m pc Ls (.int (XT.cmpL i j) :: st))) := by
  subst hp2
  by_cases q : ¬ i = j
  · exact go (fun t r => XS.ifYes K.at K.hx rfl rfl (hb K.hby hd) rfl (XT.ll_ne_t q) ho hp r) (kT q)
  · exact go (fun t r => XS.ifNo K.at K.hx rfl (hb K.hby hd) rfl (XT.ll_ne_f (Classical.not_not.mp q)) r) (kF (Classical.not_not.mp q))
theorem k_icmp_lt (K : Wk p l e R s m args below meth c Z a0 EL n0 y bytes maxL ret b T h locs cells slots) {i j : Int32} {o : Int} {pc2 : Nat} (hd : decode bytes pc = .ok (.if_icmp .lt o, 3)) (ho : 0 ≤ (pc : Int) + o) (hp : ((pc : Int) + o).toNat = pc') (hp2 : pc + 3 = pc2) (kT : i < j → Goes p.tables e below P (T.setTop (mkF m pc' Ls st))) (kF : ¬ i < j → Goes p.tables e below P (T.setTop (mkF m pc2 Ls st))) : Goes p.tables e below P (T.setTop (mkF m pc Ls (.int j :: .int i :: st))) := by
  subst hp2
  by_cases q : i < j
  · exact go (fun t r => XS.icmpYes K.at K.hx rfl rfl (hb K.hby hd) rfl (XT.ii_lt_t q) ho hp r) (kT q)
  · exact go (fun t r => XS.icmpNo K.at K.hx rfl (hb K.hby hd) rfl (XT.ii_lt_f q) r) (kF q)
theorem k_if_lt (K : Wk p l e R s m args below meth c Z a0 EL n0 y bytes maxL ret b T h locs cells slots) {i : Int32} {o : Int} {pc2 : Nat} (hd : decode bytes pc = .ok (.ifCond .lt o, 3)) (ho : 0 ≤ (pc : Int) + o) (hp : ((pc : Int) + o).toNat = pc') (hp2 : pc + 3 = pc2) (kT : i < 0 → Goes p.tables e below P (T.setTop (mkF m pc' Ls st))) (kF : ¬ i < 0 → Goes p.tables e below P (T.setTop (mkF m pc2 Ls st))) : Goes p.tables e below P (T.setTop (mkF m pc Ls (.int i :: st))) := by
  subst hp2
  by_cases q : i < 0
  · exact go (fun t r => XS.ifYes K.at K.hx rfl rfl (hb K.hby hd) rfl (XT.i0_lt_t q) ho hp r) (kT q)
  · exact go (fun t r => XS.ifNo K.at K.hx rfl (hb K.hby hd) rfl (XT.i0_lt_f q) r) (kF q)
theorem k_lif_lt (K : Wk p l e R s m args below meth c Z a0 EL n0 y bytes maxL ret b T h locs cells slots) {i j : Int64} {o : Int} {pc2 : Nat} (hd : decode bytes pc = .ok (.ifCond .lt o, 3)) (ho : 0 ≤ (pc : Int) + o) (hp : ((pc : Int) + o).toNat = pc') (hp2 : pc + 3 = pc2) (kT : i < j → Goes p.tables e below P (T.setTop (mkF m pc' Ls st))) (kF : ¬ i < j → Goes p.tables e below P (T.setTop (mkF m pc2 Ls st))) : Goes p.tables e below P (T.setTop (mkF m pc Ls (.int (XT.cmpL i j) :: st))) := by
  subst hp2
  by_cases q : i < j
  · exact go (fun t r => XS.ifYes K.at K.hx rfl rfl (hb K.hby hd) rfl (XT.ll_lt_t q) ho hp r) (kT q)
  · exact go (fun t r => XS.ifNo K.at K.hx rfl (hb K.hby hd) rfl (XT.ll_lt_f q) r) (kF q)
theorem k_icmp_ge (K : Wk p l e R s m args below meth c Z a0 EL n0 y bytes maxL ret b T h locs cells slots) {i j : Int32} {o : Int} {pc2 : Nat} (hd : decode bytes pc = .ok (.if_icmp .ge o, 3)) (ho : 0 ≤ (pc : Int) + o) (hp : ((pc : Int) + o).toNat = pc') (hp2 : pc + 3 = pc2) (kT : ¬ i < j → Goes p.tables e below P (T.setTop (mkF m pc' Ls st))) (kF : i < j → Goes p.tables e below P (T.setTop (mkF m pc2 Ls st))) : Goes p.tables e below P (T.setTop (mkF m pc Ls (.int j :: .int i :: st))) := by
  subst hp2
  by_cases q : ¬ i < j
  · exact go (fun t r => XS.icmpYes K.at K.hx rfl rfl (hb K.hby hd) rfl (XT.ii_ge_t q) ho hp r) (kT q)
  · exact go (fun t r => XS.icmpNo K.at K.hx rfl (hb K.hby hd) rfl (XT.ii_ge_f (Classical.not_not.mp q)) r) (kF (Classical.not_not.mp q))
theorem k_if_ge (K : Wk p l e R s m args below meth c Z a0 EL n0 y bytes maxL ret b T h locs cells slots) {i : Int32} {o : Int} {pc2 : Nat} (hd : decode bytes pc = .ok (.ifCond .ge o, 3)) (ho : 0 ≤ (pc : Int) + o) (hp : ((pc : Int) + o).toNat = pc') (hp2 : pc + 3 = pc2) (kT : ¬ i < 0 → Goes p.tables e below P (T.setTop (mkF m pc' Ls st))) (kF : i < 0 → Goes p.tables e below P (T.setTop (mkF m pc2 Ls st))) : Goes p.tables e below P (T.setTop (mkF m pc Ls (.int i :: st))) := by
  subst hp2
  by_cases q : ¬ i < 0
  · exact go (fun t r => XS.ifYes K.at K.hx rfl rfl (hb K.hby hd) rfl (XT.i0_ge_t q) ho hp r) (kT q)
  · exact go (fun t r => XS.ifNo K.at K.hx rfl (hb K.hby hd) rfl (XT.i0_ge_f (Classical.not_not.mp q)) r) (kF (Classical.not_not.mp q))
theorem k_lif_ge (K : Wk p l e R s m args below meth c Z a0 EL n0 y bytes maxL ret b T h locs cells slots) {i j : Int64} {o : Int} {pc2 : Nat} (hd : decode bytes pc = .ok (.ifCond .ge o, 3)) (ho : 0 ≤ (pc : Int) + o) (hp : ((pc : Int) + o).toNat = pc') (hp2 : pc + 3 = pc2) (kT : ¬ i < j → Goes p.tables e below P (T.setTop (mkF m pc' Ls st))) (kF : i < j → Goes p.tables e below P (T.setTop (mkF m pc2 Ls st))) : Goes p.tables e below P (T.setTop (mkF m pc Ls (.int (XT.cmpL i j) :: st))) := by
  subst hp2
  by_cases q : ¬ i < j
  · exact go (fun t r => XS.ifYes K.at K.hx rfl rfl (hb K.hby hd) rfl (XT.ll_ge_t q) ho hp r) (kT q)
  · exact go (fun t r => XS.ifNo K.at K.hx rfl (hb K.hby hd) rfl (XT.ll_ge_f (Classical.not_not.mp q)) r) (kF (Classical.not_not.mp q))
theorem k_icmp_gt (K : Wk p l e R s m args below meth c Z a0 EL n0 y bytes maxL ret b T h locs cells slots) {i j : Int32} {o : Int} {pc2 : Nat} (hd : decode bytes pc = .ok (.if_icmp .gt o, 3)) (ho : 0 ≤ (pc : Int) + o) (hp : ((pc : Int) + o).toNat = pc') (hp2 : pc + 3 = pc2) (kT : j < i → Goes p.tables e below P (T.setTop (mkF m pc' Ls st))) (kF : ¬ j < i → Goes p.tables e below P (T.setTop (mkF m pc2 Ls st))) : Goes p.tables e below P (T.setTop (mkF m pc Ls (.int j :: .int i :: st))) := by
  subst hp2
  by_cases q : j < i
  · exact go (fun t r => XS.icmpYes K.at K.hx rfl rfl (hb K.hby hd) rfl (XT.ii_gt_t q) ho hp r) (kT q)
  · exact go (fun t r => XS.icmpNo K.at K.hx rfl (hb K.hby hd) rfl (XT.ii_gt_f q) r) (kF q)
theorem k_if_gt (K : Wk p l e R s m args below meth c Z a0 EL n0 y bytes maxL ret b T h locs cells slots) {i : Int32} {o : Int} {pc2 : Nat} (hd : decode bytes pc = .ok (.ifCond .gt o, 3)) (ho : 0 ≤ (pc : Int) + o) (hp : ((pc : Int) + o).toNat = pc') (hp2 : pc + 3 = pc2) (kT : 0 < i → Goes p.tables e below P (T.setTop (mkF m pc' Ls st))) (kF : ¬ 0 < i → Goes p.tables e below P (T.setTop (mkF m pc2 Ls st))) : Goes p.tables e below P (T.setTop (mkF m pc Ls (.int i :: st))) := by
  subst hp2
  by_cases q : 0 < i
  · exact go (fun t r => XS.ifYes K.at K.hx rfl rfl (hb K.hby hd) rfl (XT.i0_gt_t q) ho hp r) (kT q)
  · exact go (fun t r => XS.ifNo K.at K.hx rfl (hb K.hby hd) rfl (XT.i0_gt_f q) r) (kF q)
theorem k_lif_gt (K : Wk p l e R s m args below meth c Z a0 EL n0 y bytes maxL ret b T h locs cells slots) {i j : Int64} {o : Int} {pc2 : Nat} (hd : decode bytes pc = .ok (.ifCond .gt o, 3)) (ho : 0 ≤ (pc : Int) + o) (hp : ((pc : Int) + o).toNat = pc') (hp2 : pc + 3 = pc2) (kT : j < i → Goes p.tables e below P (T.setTop (mkF m pc' Ls st))) (kF : ¬ j < i → Goes p.tables e below P (T.setTop (mkF m pc2 Ls st))) : Goes p.tables e below P (T.setTop (mkF m pc Ls (.int (XT.cmpL i j) :: st))) := by
  subst hp2
  by_cases q : j < i
  · exact go (fun t r => XS.ifYes K.at K.hx rfl rfl (hb K.hby hd) rfl (XT.ll_gt_t q) ho hp r) (kT q)
  · exact go (fun t r => XS.ifNo K.at K.hx rfl (hb K.hby hd) rfl (XT.ll_gt_f q) r) (kF q)
theorem k_icmp_le (K : Wk p l e R s m args below meth c Z a0 EL n0 y bytes maxL ret b T h locs cells slots) {i j : Int32} {o : Int} {pc2 : Nat} (hd : decode bytes pc = .ok (.if_icmp .le o, 3)) (ho : 0 ≤ (pc : Int) + o) (hp : ((pc : Int) + o).toNat = pc') (hp2 : pc + 3 = pc2) (kT : ¬ j < i → Goes p.tables e below P (T.setTop (mkF m pc' Ls st))) (kF : j < i → Goes p.tables e below P (T.setTop (mkF m pc2 Ls st))) : Goes p.tables e below P (T.setTop (mkF m pc Ls (.int j :: .int i :: st))) := by
  subst hp2
  by_cases q : ¬ j < i
  · exact go (fun t r => XS.icmpYes K.at K.hx rfl rfl (hb K.hby hd) rfl (XT.ii_le_t q) ho hp r) (kT q)
  · exact go (fun t r => XS.icmpNo K.at K.hx rfl (hb K.hby hd) rfl (XT.ii_le_f (Classical.not_not.mp q)) r) (kF (Classical.not_not.mp q))
theorem k_if_le (K : Wk p l e R s m args below meth c Z a0 EL n0 y bytes maxL ret b T h locs cells slots) {i : Int32} {o : Int} {pc2 : Nat} (hd : decode bytes pc = .ok (.ifCond .le o, 3)) (ho : 0 ≤ (pc : Int) + o) (hp : ((pc : Int) + o).toNat = pc') (hp2 : pc + 3 = pc2) (kT : ¬ 0 < i → Goes p.tables e below P (T.setTop (mkF m pc' Ls st))) (kF : 0 < i → Goes p.tables e below P (T.setTop (mkF m pc2 Ls st))) : Goes p.tables e below P (T.setTop (mkF m pc Ls (.int i :: st))) := by
  subst hp2
  by_cases q : ¬ 0 < i
  · exact go (fun t r => XS.ifYes K.at K.hx rfl rfl (hb K.hby hd) rfl (XT.i0_le_t q) ho hp r) (kT q)
  · exact go (fun t r => XS.ifNo K.at K.hx rfl (hb K.hby hd) rfl (XT.i0_le_f (Classical.not_not.mp q)) r) (kF (Classical.not_not.mp q))
theorem k_lif_le (K : Wk p l e R s m args below meth c Z a0 EL n0 y bytes maxL ret b T h locs cells slots) {i j : Int64} {o : Int} {pc2 : Nat} (hd : decode bytes pc = .ok (.ifCond .le o, 3)) (ho : 0 ≤ (pc : Int) + o) (hp : ((pc : Int) + o).toNat = pc') (hp2 : pc + 3 = pc2) (kT : ¬ j < i → Goes p.tables e below P (T.setTop (mkF m pc' Ls st))) (kF : j < i → Goes p.tables e below P (T.setTop (mkF m pc2 Ls st))) : Goes p.tables e below P (T.setTop (mkF m pc Ls (.int (XT.cmpL i j) :: st))) := by
  subst hp2
  by_cases q : ¬ j < i
  · exact go (fun t r => XS.ifYes K.at K.hx rfl rfl (hb K.hby hd) rfl (XT.ll_le_t q) ho hp r) (kT q)
  · exact go (fun t r => XS.ifNo K.at K.hx rfl (hb K.hby hd) rfl (XT.ll_le_f (Classical.not_not.mp q)) r) (kF (Classical.not_not.mp q))
theorem k_acmp_eq (K : Wk p l e R s m args below meth c Z a0 EL n0 y bytes maxL ret b T h locs cells slots) {u v : Value} (hu : u.isRef = true) (hv : v.isRef = true) {o : Int} {pc2 : Nat} (hd : decode bytes pc = .ok (.if_acmp .eq o, 3)) (ho : 0 ≤ (pc : Int) + o) (hp : ((pc : Int) + o).toNat = pc') (hp2 : pc + 3 = pc2) (kE : u = v → Goes p.tables e below P (T.setTop (mkF m pc' Ls st))) (kN : ¬ u = v → Goes p.tables e below P (T.setTop (mkF m pc2 Ls st))) : Goes p.tables e below P (T.setTop (mkF m pc Ls (v :: u :: st))) := by
  subst hp2 hp
  by_cases q : u = v
  · exact go (fun t r => Jvm.RoadKit.acmp (g := mkF m pc Ls (v :: u :: st)) K.X K.hx rfl hu hv (pc0 := pc) (same := true) rfl (hb K.hby hd) rfl (decide_eq_true q) ho rfl r) (kE q)
  · exact go (fun t r => Jvm.RoadKit.acmp (g := mkF m pc Ls (v :: u :: st)) K.X K.hx rfl hu hv (pc0 := pc) (same := false) rfl (hb K.hby hd) rfl (decide_eq_false q) ho rfl r) (kN q)
theorem k_acmp_ne (K : Wk p l e R s m args below meth c Z a0 EL n0 y bytes maxL ret b T h locs cells slots) {u v : Value} (hu : u.isRef = true) (hv : v.isRef = true) {o : Int} {pc2 : Nat} (hd : decode bytes pc = .ok (.if_acmp .ne o, 3)) (ho : 0 ≤ (pc : Int) + o) (hp : ((pc : Int) + o).toNat = pc') (hp2 : pc + 3 = pc2) (kE : u = v → Goes p.tables e below P (T.setTop (mkF m pc2 Ls st))) (kN : ¬ u = v → Goes p.tables e below P (T.setTop (mkF m pc' Ls st))) : Goes p.tables e below P (T.setTop (mkF m pc Ls (v :: u :: st))) := by
  subst hp2 hp
  by_cases q : u = v
  · exact go (fun t r => Jvm.RoadKit.acmp (g := mkF m pc Ls (v :: u :: st)) K.X K.hx rfl hu hv (pc0 := pc) (same := true) rfl (hb K.hby hd) rfl (decide_eq_true q) ho rfl r) (kE q)
  · exact go (fun t r => Jvm.RoadKit.acmp (g := mkF m pc Ls (v :: u :: st)) K.X K.hx rfl hu hv (pc0 := pc) (same := false) rfl (hb K.hby hd) rfl (decide_eq_false q) ho rfl r) (kN q)
theorem k_ifnull (K : Wk p l e R s m args below meth c Z a0 EL n0 y bytes maxL ret b T h locs cells slots) {v : Value} (hv : v.isRef = true) {o : Int} {pc2 : Nat} (hd : decode bytes pc = .ok (.ifnull o, 3)) (ho : 0 ≤ (pc : Int) + o) (hp : ((pc : Int) + o).toNat = pc') (hp2 : pc + 3 = pc2) (kT : v = .null → Goes p.tables e below P (T.setTop (mkF m pc' Ls st))) (kF : ¬ v = .null → Goes p.tables e below P (T.setTop (mkF m pc2 Ls st))) : Goes p.tables e below P (T.setTop (mkF m pc Ls (v :: st))) := by
  subst hp2
  by_cases qn : v = .null
  · exact go (fun t r => XT.nullYes K.at K.hx rfl rfl (hb K.hby hd) rfl qn ho hp r) (kT qn)
  · exact go (fun t r => XT.nullNo K.at K.hx rfl (hb K.hby hd) rfl hv qn r) (kF qn)
theorem k_ifnonnull (K : Wk p l e R s m args below meth c Z a0 EL n0 y bytes maxL ret b T h locs cells slots) {v : Value} (hv : v.isRef = true) {o : Int} {pc2 : Nat} (hd : decode bytes pc = .ok (.ifnonnull o, 3)) (ho : 0 ≤ (pc : Int) + o) (hp : ((pc : Int) + o).toNat = pc') (hp2 : pc + 3 = pc2) (kT : ¬ v = .null → Goes p.tables e below P (T.setTop (mkF m pc' Ls st))) (kF : v = .null → Goes p.tables e below P (T.setTop (mkF m pc2 Ls st))) : Goes p.tables e below P (T.setTop (mkF m pc Ls (v :: st))) := by
  subst hp2
  by_cases qn : v = .null
  · exact go (fun t r => XT.nonnullNo K.at K.hx rfl (hb K.hby hd) rfl qn r) (kF qn)
  · exact go (fun t r => XT.nonnullYes K.at K.hx rfl rfl (hb K.hby hd) rfl hv qn ho hp r) (kT qn)
theorem k_getF (K : Wk p l e R s m args below meth c Z a0 EL n0 y bytes maxL ret b T h locs cells slots) {R0 O n d : String} {i : Nat} {a : Addr} {v : Value} (wd : (Cond.fieldLink y.cls i R0 n d).before a0 Z = true) (via : Via Z R0 O n d) (F : Fld Z h a O n d v) (hd : decode bytes pc = .ok (.getfield i, 3)) (hp : pc + 3 = pc') (k : ∀ T', Wk p l e R s m args below meth c Z a0 EL n0 y bytes maxL ret b T' h locs cells slots → Goes p.tables e below P (T'.setTop (mkF m pc' Ls (v :: st)))) : Goes p.tables e below P (T.setTop (mkF m pc Ls (.ref a :: st))) := by
  subst hp
  obtain ⟨T', X', e', q⟩ := Jvm.RoadKit.getF K.X K.hx K.hZ (host := "") K.hown (Or.inl wd) via K.eT F (g := mkF m pc Ls (.ref a :: st)) rfl rfl (hb K.hby hd)
  exact go q (k T' (K.move X' e' K.fr K.old K.bs))
theorem k_getFN (K : Wk p l e R s m args below meth c Z a0 EL n0 y bytes maxL ret b T h locs cells slots) {R0 O n d host : String} {i : Nat} {a : Addr} {v : Value} (wd : (Cond.fieldLinkNest y.cls i R0 n d host).before a0 Z = true) (via : Via Z R0 O n d) (F : Fld Z h a O n d v) (hd : decode bytes pc = .ok (.getfield i, 3)) (hp : pc + 3 = pc') (k : ∀ T', Wk p l e R s m args below meth c Z a0 EL n0 y bytes maxL ret b T' h locs cells slots → Goes p.tables e below P (T'.setTop (mkF m pc' Ls (v :: st)))) : Goes p.tables e below P (T.setTop (mkF m pc Ls (.ref a :: st))) := by
  subst hp
  obtain ⟨T', X', e', q⟩ := Jvm.RoadKit.getF K.X K.hx K.hZ K.hown (Or.inr wd) via K.eT F (g := mkF m pc Ls (.ref a :: st)) rfl rfl (hb K.hby hd)
  exact go q (k T' (K.move X' e' K.fr K.old K.bs))
theorem k_getS (K : Wk p l e R s m args below meth c Z a0 EL n0 y bytes maxL ret b T h locs cells slots) {R0 O n d : String} {i : Nat} {v : Value} (wd : (Cond.fieldLink y.cls i R0 n d).before a0 Z = true) (via : Via Z R0 O n d) (F : Sta Z Z.heap O n d v) (hd : decode bytes pc = .ok (.getstatic i, 3)) (hp : pc + 3 = pc') (k : ∀ T', Wk p l e R s m args below meth c Z a0 EL n0 y bytes maxL ret b T' h locs cells slots → Goes p.tables e below P (T'.setTop (mkF m pc' Ls (v :: st)))) : Goes p.tables e below P (T.setTop (mkF m pc Ls st)) := by
  subst hp
  obtain ⟨T', X', e', q⟩ := getS2 K.X K.hx K.hZ K.hown (host := "") (Or.inl wd) via K.eT (F.ext K.old.2) (g := mkF m pc Ls st) rfl (hb K.hby hd)
  exact go q (k T' (K.move X' e' K.fr K.old K.bs))
theorem k_getSN (K : Wk p l e R s m args below meth c Z a0 EL n0 y bytes maxL ret b T h locs cells slots) {R0 O n d host : String} {i : Nat} {v : Value} (wd : (Cond.fieldLinkNest y.cls i R0 n d host).before a0 Z = true) (via : Via Z R0 O n d) (F : Sta Z Z.heap O n d v) (hd : decode bytes pc = .ok (.getstatic i, 3)) (hp : pc + 3 = pc') (k : ∀ T', Wk p l e R s m args below meth c Z a0 EL n0 y bytes maxL ret b T' h locs cells slots → Goes p.tables e below P (T'.setTop (mkF m pc' Ls (v :: st)))) : Goes p.tables e below P (T.setTop (mkF m pc Ls st)) := by
  subst hp
  obtain ⟨T', X', e', q⟩ := getS2 K.X K.hx K.hZ K.hown (Or.inr wd) via K.eT (F.ext K.old.2) (g := mkF m pc Ls st) rfl (hb K.hby hd)
  exact go q (k T' (K.move X' e' K.fr K.old K.bs))
theorem k_castY (K : Wk p l e R s m args below meth c Z a0 EL n0 y bytes maxL ret b T h locs cells slots) {C : String} {i : Nat} {a : Addr} (wd : (Cond.classLink y.cls i C).before a0 Z = true) (F : Ins Z h a C true) (hd : decode bytes pc = .ok (.checkcast i, 3)) (hp : pc + 3 = pc') (k : ∀ T', Wk p l e R s m args below meth c Z a0 EL n0 y bytes maxL ret b T' h locs cells slots → Goes p.tables e below P (T'.setTop (mkF m pc' Ls (.ref a :: st)))) : Goes p.tables e below P (T.setTop (mkF m pc Ls (.ref a :: st))) := by
  subst hp
  obtain ⟨T', X', e', q⟩ := castY K.X K.hx K.hZ K.hown wd K.eT F (g := mkF m pc Ls (.ref a :: st)) rfl rfl (hb K.hby hd)
  exact go q (k T' (K.move X' e' K.fr K.old K.bs))
theorem k_instY (K : Wk p l e R s m args below meth c Z a0 EL n0 y bytes maxL ret b T h locs cells slots) {C : String} {i : Nat} {a : Addr} (wd : (Cond.classLink y.cls i C).before a0 Z = true) (F : Ins Z h a C true) (hd : decode bytes pc = .ok (.instanceof i, 3)) (hp : pc + 3 = pc') (k : ∀ T', Wk p l e R s m args below meth c Z a0 EL n0 y bytes maxL ret b T' h locs cells slots → Goes p.tables e below P (T'.setTop (mkF m pc' Ls (.int 1 :: st)))) : Goes p.tables e below P (T.setTop (mkF m pc Ls (.ref a :: st))) := by
  subst hp
  obtain ⟨T', X', e', q⟩ := instY K.X K.hx K.hZ K.hown wd K.eT F (g := mkF m pc Ls (.ref a :: st)) rfl rfl (hb K.hby hd)
  exact go q (k T' (K.move X' e' K.fr K.old K.bs))
theorem instN_at (X : Stand p l e R s m args below meth c T locs cells slots) (hx : p.tables.exec = Jvm.exec) (hZ : Z.Warmed39 s.vm) {own C D : String} {index : Nat} (hown : s.vm.findClass own = some m.cls) (w : (Cond.classLink own index C).before a0 Z = true) (eT : T.heap = h) {a : Addr} (F : Ins Z h a C false) (E : Exa Z h a D)
    {g : JFrame} (hg : g.method = m) {rest : List Value} (hs : g.stack = .ref a :: rest) (hd : decode c.code g.pc = .ok (.instanceof index, 3)) : ∃ T', Stand p l e R s m args below meth c T' locs cells slots ∧ T'.heap = h ∧ ∀ target, Steps p.tables e below (T'.setTop { g with pc := g.pc + 3, stack := .int 0 :: rest }) target → Steps p.tables e below (T.setTop g) target := by
  obtain ⟨cell, cT, h1, h2, h3⟩ := F
  obtain ⟨cell', k, e1, -, e3, e4, -⟩ := E
  cases h1.symm.trans e1
  obtain ⟨k', q, -⟩ := hZ.alike.2.2 _ _ e3
  obtain ⟨vm', X', st⟩ := Jvm.Sym.instanceofNoAt X hx hown (mvT hZ w) (by rw [eT]; exact h1) e4 q (by rw [hZ.alike.findClass]; exact h2) (by rw [hZ.alike.assignable]; simpa [e4] using h3) hg hs hd
  exact ⟨_, X', eT, st⟩
theorem k_instN (K : Wk p l e R s m args below meth c Z a0 EL n0 y bytes maxL ret b T h locs cells slots) {C D : String} {i : Nat} {a : Addr} (wd : (Cond.classLink y.cls i C).before a0 Z = true) (F : Ins Z h a C false) (E : Exa Z h a D) (hd : decode bytes pc = .ok (.instanceof i, 3)) (hp : pc + 3 = pc') (k : ∀ T', Wk p l e R s m args below meth c Z a0 EL n0 y bytes maxL ret b T' h locs cells slots → Goes p.tables e below P (T'.setTop (mkF m pc' Ls (.int 0 :: st)))) : Goes p.tables e below P (T.setTop (mkF m pc Ls (.ref a :: st))) := by
  subst hp
  obtain ⟨T', X', e', q⟩ := instN_at K.X K.hx K.hZ K.hown wd K.eT F E (g := mkF m pc Ls (.ref a :: st)) rfl rfl (hb K.hby hd)
  exact go q (k T' (K.move X' e' K.fr K.old K.bs))
theorem k_instNull (K : Wk p l e R s m args below meth c Z a0 EL n0 y bytes maxL ret b T h locs cells slots) {i : Nat} (hd : decode bytes pc = .ok (.instanceof i, 3)) (hp : pc + 3 = pc') (k : Goes p.tables e below P (T.setTop (mkF m pc' Ls (.int 0 :: st)))) : Goes p.tables e below P (T.setTop (mkF m pc Ls (.null :: st))) := by
  subst hp
  exact go (fun t q => K.X.instanceofNull K.hx (g := mkF m pc Ls (.null :: st)) rfl rfl (hb K.hby hd) _ q) k
theorem k_castNull (K : Wk p l e R s m args below meth c Z a0 EL n0 y bytes maxL ret b T h locs cells slots) {i : Nat} (hd : decode bytes pc = .ok (.checkcast i, 3)) (hp : pc + 3 = pc') (k : Goes p.tables e below P (T.setTop (mkF m pc' Ls (.null :: st)))) : Goes p.tables e below P (T.setTop (mkF m pc Ls (.null :: st))) := by
  subst hp
  exact go (fun t q => K.X.checkcastNull K.hx (g := mkF m pc Ls (.null :: st)) rfl rfl (hb K.hby hd) _ q) k
theorem k_iaload (K : Wk p l e R s m args below meth c Z a0 EL n0 y bytes maxL ret b T h locs cells slots) {a : Addr} {kk : ClassId} {z j : Int32} {vs : List Value} {dv : Value} {v : Int32} (F : Arv Z h a kk .int z vs dv) (hj : ¬ j < 0 ∧ j < z) (hv : vs.getD j.toNatClampNeg dv = .int v) (hd : decode bytes pc = .ok (.iaload, 1)) (hp : pc + 1 = pc') (k : Goes p.tables e below P (T.setTop (mkF m pc' Ls (.int v :: st)))) : Goes p.tables e below P (T.setTop (mkF m pc Ls (.int j :: .ref a :: st))) := by
  subst hp
  obtain ⟨cl, Ar, -, S, -, H, -⟩ := F
  exact go (fun t q => K.X.iaload K.hx (j := j) (v := .int v) (by rw [K.eT]; exact Ar.1) (State.isArrayOf_alike K.hZ.alike Ar.2.1) Ar.2.2 (inb_of S hj) (H.at (inb_of S hj) hv) (g := mkF m pc Ls (.int j :: .ref a :: st)) rfl rfl (hb K.hby hd) _ q) k
theorem k_caload (K : Wk p l e R s m args below meth c Z a0 EL n0 y bytes maxL ret b T h locs cells slots) {a : Addr} {kk : ClassId} {z j : Int32} {vs : List Value} {dv : Value} {v : Int32} (F : Arv Z h a kk .char z vs dv) (hj : ¬ j < 0 ∧ j < z) (hv : vs.getD j.toNatClampNeg dv = .int v) (hd : decode bytes pc = .ok (.caload, 1)) (hp : pc + 1 = pc') (k : Goes p.tables e below P (T.setTop (mkF m pc' Ls (.int v :: st)))) : Goes p.tables e below P (T.setTop (mkF m pc Ls (.int j :: .ref a :: st))) := by
  subst hp
  obtain ⟨cl, Ar, -, S, -, H, -⟩ := F
  exact go (fun t q => K.X.caload K.hx (j := j) (v := .int v) (by rw [K.eT]; exact Ar.1) (State.isArrayOf_alike K.hZ.alike Ar.2.1) Ar.2.2 (inb_of S hj) (H.at (inb_of S hj) hv) (g := mkF m pc Ls (.int j :: .ref a :: st)) rfl rfl (hb K.hby hd) _ q) k
theorem k_baload (K : Wk p l e R s m args below meth c Z a0 EL n0 y bytes maxL ret b T h locs cells slots) {a : Addr} {kk : ClassId} {z j : Int32} {vs : List Value} {dv : Value} {v : Int32} (F : Arv Z h a kk .byte z vs dv) (hj : ¬ j < 0 ∧ j < z) (hv : vs.getD j.toNatClampNeg dv = .int v) (hd : decode bytes pc = .ok (.baload, 1)) (hp : pc + 1 = pc') (k : Goes p.tables e below P (T.setTop (mkF m pc' Ls (.int v :: st)))) : Goes p.tables e below P (T.setTop (mkF m pc Ls (.int j :: .ref a :: st))) := by
  subst hp
  obtain ⟨cl, Ar, -, S, -, H, -⟩ := F
  exact go (fun t q => K.X.baloadBytes K.hx (j := j) (v := .int v) (by rw [K.eT]; exact Ar.1) (State.isArrayOf_alike K.hZ.alike Ar.2.1) Ar.2.2 (inb_of S hj) (H.at (inb_of S hj) hv) (g := mkF m pc Ls (.int j :: .ref a :: st)) rfl rfl (hb K.hby hd) _ q) k
theorem k_laload (K : Wk p l e R s m args below meth c Z a0 EL n0 y bytes maxL ret b T h locs cells slots) {a : Addr} {kk : ClassId} {z j : Int32} {vs : List Value} {dv : Value} {v : Int64} (F : Arv Z h a kk .long z vs dv) (hj : ¬ j < 0 ∧ j < z) (hv : vs.getD j.toNatClampNeg dv = .long v) (hd : decode bytes pc = .ok (.laload, 1)) (hp : pc + 1 = pc') (k : Goes p.tables e below P (T.setTop (mkF m pc' Ls (.long v :: st)))) : Goes p.tables e below P (T.setTop (mkF m pc Ls (.int j :: .ref a :: st))) := by
  subst hp
  obtain ⟨cl, Ar, -, S, -, H, -⟩ := F
  exact go (fun t q => K.X.laload K.hx (j := j) (v := .long v) (by rw [K.eT]; exact Ar.1) (State.isArrayOf_alike K.hZ.alike Ar.2.1) Ar.2.2 (inb_of S hj) (H.at (inb_of S hj) hv) (g := mkF m pc Ls (.int j :: .ref a :: st)) rfl rfl (hb K.hby hd) _ q) k
theorem k_aaload (K : Wk p l e R s m args below meth c Z a0 EL n0 y bytes maxL ret b T h locs cells slots) {a : Addr} {kk : ClassId} {ty : FieldType} {z j : Int32} {vs : List Value} {dv v : Value} (F : Arv Z h a kk ty z vs dv) (hty : ty.isReference = true) (hj : ¬ j < 0 ∧ j < z) (hv : vs.getD j.toNatClampNeg dv = v) (hd : decode bytes pc = .ok (.aaload, 1)) (hp : pc + 1 = pc') (k : Goes p.tables e below P (T.setTop (mkF m pc' Ls (v :: st)))) : Goes p.tables e below P (T.setTop (mkF m pc Ls (.int j :: .ref a :: st))) := by
  subst hp
  obtain ⟨cl, Ar, -, S, -, H, -⟩ := F
  exact go (fun t q => K.X.aaload K.hx (j := j) (v := v) (by rw [K.eT]; exact Ar.1) (State.isArrayOf_alike K.hZ.alike Ar.2.1) hty Ar.2.2 (inb_of S hj) (H.at (inb_of S hj) hv) (g := mkF m pc Ls (.int j :: .ref a :: st)) rfl rfl (hb K.hby hd) _ q) k
theorem k_len (K : Wk p l e R s m args below meth c Z a0 EL n0 y bytes maxL ret b T h locs cells slots) {a : Addr} {kk : ClassId} {ty : FieldType} {z : Int32} {vs : List Value} {dv : Value} (F : Arv Z h a kk ty z vs dv) (hd : decode bytes pc = .ok (.arraylength, 1)) (hp : pc + 1 = pc') (k : Goes p.tables e below P (T.setTop (mkF m pc' Ls (.int z :: st)))) : Goes p.tables e below P (T.setTop (mkF m pc Ls (.ref a :: st))) := by
  subst hp
  obtain ⟨cl, Ar, -, S, N, -, -⟩ := F
  refine go (fun t q => K.X.arraylength K.hx (by rw [K.eT]; exact Ar.1) (State.isArrayOf_alike K.hZ.alike Ar.2.1) (g := mkF m pc Ls (.ref a :: st)) rfl rfl (hb K.hby hd) _ (by rw [len_of S N]; exact q)) k
theorem bs_ext (K : Wk p l e R s m args below meth c Z a0 EL n0 y bytes maxL ret b T h locs cells slots) {h' : Heap} (E : Ext h h') : Bs Z a0 EL s b h' := by
  obtain ⟨⟨vm0, k0, e1, e2, e3⟩, e4, e5⟩ := K.bs
  exact ⟨⟨vm0, k0, e1, e2, Nat.le_trans e3 E.1⟩, e4.trans (CHr.ext E e4.1), e5⟩
theorem bs_wr (K : Wk p l e R s m args below meth c Z a0 EL n0 y bytes maxL ret b T h locs cells slots) {h' : Heap} {a : Addr} {sl : Nat} {v : Value} (W : Wr h h' a sl v) (sf : Sfe Z EL b.vm h a) : Bs Z a0 EL s b h' := by
  obtain ⟨⟨vm0, k0, e1, e2, e3⟩, e4, e5⟩ := K.bs
  exact ⟨⟨vm0, k0, e1, e2, by rw [W.size]; exact e3⟩, e4.trans (CHr.wr W sf e4.1), e5⟩
theorem sfe_ext (K : Wk p l e R s m args below meth c Z a0 EL n0 y bytes maxL ret b T h locs cells slots) {h' : Heap} (E : Ext h h') (x : Addr) (_ : x < h.size) (q : Sfe Z EL b.vm h x) : Sfe Z EL b.vm h' x := Safe.ext E K.bs.2.1.1 q
theorem sfe_wr (K : Wk p l e R s m args below meth c Z a0 EL n0 y bytes maxL ret b T h locs cells slots) {h' : Heap} {a : Addr} {sl : Nat} {v : Value} (W : Wr h h' a sl v) (sf : Sfe Z EL b.vm h a) (x : Addr) (_ : x < h.size) (q : Sfe Z EL b.vm h x) : Sfe Z EL b.vm h' x := Safe.wr W sf K.bs.2.1.1 q
theorem sfe_ext_new (K : Wk p l e R s m args below meth c Z a0 EL n0 y bytes maxL ret b T h locs cells slots) {h' : Heap} (E : Ext h h') : Sfe Z EL b.vm h' h.size := fun B => sfe_new (Nat.le_refl _) ((CHv.step K.bs.2.1.1 fun _ _ _ q => E.2 _ _ q).2 _ B)
theorem k_new (K : Wk p l e R s m args below meth c Z a0 EL n0 y bytes maxL ret b T h locs cells slots) {C : String} {i n : Nat} (wl : (Cond.classLink y.cls i C).before a0 Z = true) (wi : (Cond.instantiable C n).before a0 Z = true) (wz : (Cond.initialized C).before a0 Z = true) (hd : decode bytes pc = .ok (.new i, 3)) (hp : pc + 3 = pc') (hce : cells + 1 ≤ R.cells) (hsl : slots + n ≤ R.slots) (k : ∀ T' h' a, a = h.size → Wk p l e R s m args below meth c Z a0 EL n0 y bytes maxL ret b T' h' locs (cells + 1) (slots + n) → Ext h h' → (∀ x, x < h.size → Sfe Z EL b.vm h x → Sfe Z EL b.vm h' x) → Sfe Z EL b.vm h' a → Exa Z h' a C → (∀ {O nm d : String} {ty : FieldType}, Laid Z a0 C O nm d → parseFieldDescriptor d = some ty → Fld Z h' a O nm d (defaultValue ty)) → Unt h' a → Goes p.tables e below P (T'.setTop (mkF m pc' Ls (.ref a :: st)))) : Goes p.tables e below P (T.setTop (mkF m pc Ls st)) := by
  subst hp
  obtain ⟨T', h', X', e', E', A', D', U', q⟩ := newO K.X K.hx K.hZ K.hown wl wi wz K.eT (g := mkF m pc Ls st) rfl (hb K.hby hd) hce hsl
  exact go q (k T' h' _ rfl (K.move X' e' K.fr (K.old.ext E') (bs_ext K E')) E' (sfe_ext K E') (sfe_ext_new K E') A' D' U')
theorem k_putF (K : Wk p l e R s m args below meth c Z a0 EL n0 y bytes maxL ret b T h locs cells slots) {R0 O n d C : String} {i kk : Nat} {ty : FieldType} {a : Addr} {v old : Value} (wd : (Cond.fieldLink y.cls i R0 n d).before a0 Z = true) (via : Via Z R0 O n d) (F : Fld Z h a O n d old) (E : Exa Z h a C) (L : (Cond.lays C O n d).before a0 Z = true ∨ ((Cond.laysFinal C O n d).before a0 Z = true ∧ y.cls = O ∧ y.name = "<init>")) (wi : (Cond.instantiable C kk).before a0 Z = true) (hty : parseFieldDescriptor d = some ty) (hn : narrow ty v = v) (hf : fits ty v = true) (ga : n0 ≤ a) (sf : Sfe Z EL b.vm h a) (hd : decode bytes pc = .ok (.putfield i, 3)) (hp : pc + 3 = pc') (k : ∀ T' h', Wk p l e R s m args below meth c Z a0 EL n0 y bytes maxL ret b T' h' (locs ++ [⟨a, Jvm.RoadKit.slotOf Z O n d⟩]) cells slots → Wr h h' a (Jvm.RoadKit.slotOf Z O n d) v → (∀ x, x < h.size → Sfe Z EL b.vm h x → Sfe Z EL b.vm h' x) → Goes p.tables e below P (T'.setTop (mkF m pc' Ls st))) : Goes p.tables e below P (T.setTop (mkF m pc Ls (v :: .ref a :: st))) := by
  subst hp
  obtain ⟨T', h', X', e', W', q⟩ := putF K.X K.hx K.hZ (host := "") K.hown (Or.inl wd) via K.eT F E (L.imp id fun ⟨q1, q2, q3⟩ => ⟨q1, q2, K.hnm.trans q3⟩) wi hty hn hf (g := mkF m pc Ls (v :: .ref a :: st)) rfl rfl (hb K.hby hd)
  exact go q (k T' h' (K.move X' e' (Fr.snoc X' K.fr ga) (K.old.wr W' ga) (bs_wr K W' sf)) W' (sfe_wr K W' sf))
theorem k_putFH (K : Wk p l e R s m args below meth c Z a0 EL n0 y bytes maxL ret b T h locs cells slots) {R0 O n d C host : String} {i kk : Nat} {ty : FieldType} {a : Addr} {v old : Value} (wd : (Cond.fieldLinkNest y.cls i R0 n d host).before a0 Z = true) (via : Via Z R0 O n d) (F : Fld Z h a O n d old) (E : Exa Z h a C) (L : (Cond.lays C O n d).before a0 Z = true ∨ ((Cond.laysFinal C O n d).before a0 Z = true ∧ y.cls = O ∧ y.name = "<init>")) (wi : (Cond.instantiable C kk).before a0 Z = true) (hty : parseFieldDescriptor d = some ty) (hn : narrow ty v = v) (hf : fits ty v = true) (ga : n0 ≤ a) (sf : Sfe Z EL b.vm h a) (hd : decode bytes pc = .ok (.putfield i, 3)) (hp : pc + 3 = pc') (k : ∀ T' h', Wk p l e R s m args below meth c Z a0 EL n0 y bytes maxL ret b T' h' (locs ++ [⟨a, Jvm.RoadKit.slotOf Z O n d⟩]) cells slots → Wr h h' a (Jvm.RoadKit.slotOf Z O n d) v → (∀ x, x < h.size → Sfe Z EL b.vm h x → Sfe Z EL b.vm h' x) → Goes p.tables e below P (T'.setTop (mkF m pc' Ls st))) : Goes p.tables e below P (T.setTop (mkF m pc Ls (v :: .ref a :: st))) := by
  subst hp
  obtain ⟨T', h', X', e', W', q⟩ := putF K.X K.hx K.hZ K.hown (Or.inr wd) via K.eT F E (L.imp id fun ⟨q1, q2, q3⟩ => ⟨q1, q2, K.hnm.trans q3⟩) wi hty hn hf (g := mkF m pc Ls (v :: .ref a :: st)) rfl rfl (hb K.hby hd)
  exact go q (k T' h' (K.move X' e' (Fr.snoc X' K.fr ga) (K.old.wr W' ga) (bs_wr K W' sf)) W' (sfe_wr K W' sf))
theorem k_putFN (K : Wk p l e R s m args below meth c Z a0 EL n0 y bytes maxL ret b T h locs cells slots) {R0 O n d C : String} {i kk : Nat} {ty : FieldType} {a : Addr} {v v' old : Value} (wd : (Cond.fieldLink y.cls i R0 n d).before a0 Z = true) (via : Via Z R0 O n d) (F : Fld Z h a O n d old) (E : Exa Z h a C) (L : (Cond.lays C O n d).before a0 Z = true ∨ ((Cond.laysFinal C O n d).before a0 Z = true ∧ y.cls = O ∧ y.name = "<init>")) (wi : (Cond.instantiable C kk).before a0 Z = true) (hty : parseFieldDescriptor d = some ty) (hn : narrow ty v = v') (hf : fits ty v' = true) (ga : n0 ≤ a) (sf : Sfe Z EL b.vm h a) (hd : decode bytes pc = .ok (.putfield i, 3)) (hp : pc + 3 = pc') (k : ∀ T' h', Wk p l e R s m args below meth c Z a0 EL n0 y bytes maxL ret b T' h' (locs ++ [⟨a, Jvm.RoadKit.slotOf Z O n d⟩]) cells slots → Wr h h' a (Jvm.RoadKit.slotOf Z O n d) v' → (∀ x, x < h.size → Sfe Z EL b.vm h x → Sfe Z EL b.vm h' x) → Goes p.tables e below P (T'.setTop (mkF m pc' Ls st))) : Goes p.tables e below P (T.setTop (mkF m pc Ls (v :: .ref a :: st))) := by
  subst hp
  obtain ⟨T', h', X', e', W', q⟩ := putFN K.X K.hx K.hZ K.hown wd via K.eT F E (L.imp id fun ⟨q1, q2, q3⟩ => ⟨q1, q2, K.hnm.trans q3⟩) wi hty hn hf (g := mkF m pc Ls (v :: .ref a :: st)) rfl rfl (hb K.hby hd)
  exact go q (k T' h' (K.move X' e' (Fr.snoc X' K.fr ga) (K.old.wr W' ga) (bs_wr K W' sf)) W' (sfe_wr K W' sf))
theorem k_newarray (K : Wk p l e R s m args below meth c Z a0 EL n0 y bytes maxL ret b T h locs cells slots) {aty : ArrayType} {z : Int32} (wa : (Cond.arrayClass (newarray.typeOf aty)).before a0 Z = true) (hz : ¬ z < 0) {cap : Nat} (hcap : z.toNatClampNeg ≤ cap) (hbig : cap * 8 ≤ 536870912) (hd : decode bytes pc = .ok (.newarray aty, 2)) (hp : pc + 2 = pc') (hce : cells + 1 ≤ R.cells) (hsl : slots + cap ≤ R.slots) (k : ∀ T' h' a kk, a = h.size → Wk p l e R s m args below meth c Z a0 EL n0 y bytes maxL ret b T' h' locs (cells + 1) (slots + cap) → Ext h h' → (∀ x, x < h.size → Sfe Z EL b.vm h x → Sfe Z EL b.vm h' x) → Sfe Z EL b.vm h' a → Arv Z h' a kk (newarray.typeOf aty) z [] (defaultValue (newarray.typeOf aty)) → Goes p.tables e below P (T'.setTop (mkF m pc' Ls (.ref a :: st)))) : Goes p.tables e below P (T.setTop (mkF m pc Ls (.int z :: st))) := by
  subst hp
  obtain ⟨T', h', kk, X', e', E', A', q⟩ := newP K.X K.hx K.hZ wa K.eT (g := mkF m pc Ls (.int z :: st)) rfl (hb K.hby hd) rfl hz hcap hbig hce hsl
  exact go q (k T' h' _ kk rfl (K.move X' e' K.fr (K.old.ext E') (bs_ext K E')) E' (sfe_ext K E') (sfe_ext_new K E') (Arv.new A' hz))
theorem k_anewarray (K : Wk p l e R s m args below meth c Z a0 EL n0 y bytes maxL ret b T h locs cells slots) {C : String} {i : Nat} {z : Int32} (wl : (Cond.classLink y.cls i C).before a0 Z = true) (wa : (Cond.arrayOver (.object C)).before a0 Z = true) (hz : ¬ z < 0) {cap : Nat} (hcap : z.toNatClampNeg ≤ cap) (hbig : cap * 8 ≤ 536870912) (hd : decode bytes pc = .ok (.anewarray i, 3)) (hp : pc + 3 = pc') (hce : cells + 1 ≤ R.cells) (hsl : slots + cap ≤ R.slots) (k : ∀ T' h' a kk, a = h.size → Wk p l e R s m args below meth c Z a0 EL n0 y bytes maxL ret b T' h' locs (cells + 1) (slots + cap) → Ext h h' → (∀ x, x < h.size → Sfe Z EL b.vm h x → Sfe Z EL b.vm h' x) → Sfe Z EL b.vm h' a → Arv Z h' a kk (.object C) z [] .null → Ovr Z kk C → Goes p.tables e below P (T'.setTop (mkF m pc' Ls (.ref a :: st)))) : Goes p.tables e below P (T.setTop (mkF m pc Ls (.int z :: st))) := by
  subst hp
  obtain ⟨T', h', kk, X', e', E', A', O', q⟩ := newR K.X K.hx K.hZ K.hown wl wa K.eT (g := mkF m pc Ls (.int z :: st)) rfl (hb K.hby hd) rfl hz hcap hbig hce hsl
  exact go q (k T' h' _ kk rfl (K.move X' e' K.fr (K.old.ext E') (bs_ext K E')) E' (sfe_ext K E') (sfe_ext_new K E') (Arv.new A' hz) O')
theorem k_iastore (K : Wk p l e R s m args below meth c Z a0 EL n0 y bytes maxL ret b T h locs cells slots) {a : Addr} {kk : ClassId} {z j : Int32} {vs : List Value} {dv : Value} {v : Int32} (F : Arv Z h a kk .int z vs dv) (hj : ¬ j < 0 ∧ j < z) (hlen : j.toNatClampNeg < vs.length) (ga : n0 ≤ a) (sf : Sfe Z EL b.vm h a) (hd : decode bytes pc = .ok (.iastore, 1)) (hp : pc + 1 = pc') (k : ∀ T' h', Wk p l e R s m args below meth c Z a0 EL n0 y bytes maxL ret b T' h' (locs ++ [⟨a, j.toNatClampNeg⟩]) cells slots → Wr h h' a j.toNatClampNeg (.int v) → (∀ x, x < h.size → Sfe Z EL b.vm h x → Sfe Z EL b.vm h' x) → Arv Z h' a kk .int z (vs.set j.toNatClampNeg (.int v)) dv → Goes p.tables e below P (T'.setTop (mkF m pc' Ls st))) : Goes p.tables e below P (T.setTop (mkF m pc Ls (.int v :: .int j :: .ref a :: st))) := by
  subst hp
  obtain ⟨cl, Ar, q1, S, N, H, G⟩ := F
  obtain ⟨T', h', X', e', W', q⟩ := stI K.X K.hx K.hZ K.eT Ar (j := j) (inb_of S hj) (g := mkF m pc Ls (.int v :: .int j :: .ref a :: st)) rfl rfl (hb K.hby hd)
  exact go q (k T' h' (K.move X' e' (Fr.snoc X' K.fr ga) (K.old.wr W' ga) (bs_wr K W' sf)) W' (sfe_wr K W' sf) (Arv.set Ar q1 S N H G rfl W' _ rfl hlen))
theorem k_castore (K : Wk p l e R s m args below meth c Z a0 EL n0 y bytes maxL ret b T h locs cells slots) {a : Addr} {kk : ClassId} {z j : Int32} {vs : List Value} {dv : Value} {v : Int32} (F : Arv Z h a kk .char z vs dv) (hj : ¬ j < 0 ∧ j < z) (hlen : j.toNatClampNeg < vs.length) (ga : n0 ≤ a) (sf : Sfe Z EL b.vm h a) (hd : decode bytes pc = .ok (.castore, 1)) (hp : pc + 1 = pc') (k : ∀ T' h', Wk p l e R s m args below meth c Z a0 EL n0 y bytes maxL ret b T' h' (locs ++ [⟨a, j.toNatClampNeg⟩]) cells slots → Wr h h' a j.toNatClampNeg (.int (nar .char v)) → (∀ x, x < h.size → Sfe Z EL b.vm h x → Sfe Z EL b.vm h' x) → Arv Z h' a kk .char z (vs.set j.toNatClampNeg (.int (nar .char v))) dv → Goes p.tables e below P (T'.setTop (mkF m pc' Ls st))) : Goes p.tables e below P (T.setTop (mkF m pc Ls (.int v :: .int j :: .ref a :: st))) := by
  subst hp
  obtain ⟨cl, Ar, q1, S, N, H, G⟩ := F
  obtain ⟨T', h', X', e', W', q⟩ := stC K.X K.hx K.hZ K.eT Ar (j := j) (inb_of S hj) (g := mkF m pc Ls (.int v :: .int j :: .ref a :: st)) rfl rfl (hb K.hby hd)
  exact go q (k T' h' (K.move X' e' (Fr.snoc X' K.fr ga) (K.old.wr W' ga) (bs_wr K W' sf)) W' (sfe_wr K W' sf) (Arv.set Ar q1 S N H G (fits_nar_char _) W' _ rfl hlen))
theorem k_bastore (K : Wk p l e R s m args below meth c Z a0 EL n0 y bytes maxL ret b T h locs cells slots) {a : Addr} {kk : ClassId} {z j : Int32} {vs : List Value} {dv : Value} {v : Int32} (F : Arv Z h a kk .byte z vs dv) (hj : ¬ j < 0 ∧ j < z) (hlen : j.toNatClampNeg < vs.length) (ga : n0 ≤ a) (sf : Sfe Z EL b.vm h a) (hd : decode bytes pc = .ok (.bastore, 1)) (hp : pc + 1 = pc') (k : ∀ T' h', Wk p l e R s m args below meth c Z a0 EL n0 y bytes maxL ret b T' h' (locs ++ [⟨a, j.toNatClampNeg⟩]) cells slots → Wr h h' a j.toNatClampNeg (.int (nar .byte v)) → (∀ x, x < h.size → Sfe Z EL b.vm h x → Sfe Z EL b.vm h' x) → Arv Z h' a kk .byte z (vs.set j.toNatClampNeg (.int (nar .byte v))) dv → Goes p.tables e below P (T'.setTop (mkF m pc' Ls st))) : Goes p.tables e below P (T.setTop (mkF m pc Ls (.int v :: .int j :: .ref a :: st))) := by
  subst hp
  obtain ⟨cl, Ar, q1, S, N, H, G⟩ := F
  obtain ⟨T', h', X', e', W', q⟩ := stB K.X K.hx K.hZ K.eT Ar (j := j) (inb_of S hj) (g := mkF m pc Ls (.int v :: .int j :: .ref a :: st)) rfl rfl (hb K.hby hd)
  exact go q (k T' h' (K.move X' e' (Fr.snoc X' K.fr ga) (K.old.wr W' ga) (bs_wr K W' sf)) W' (sfe_wr K W' sf) (Arv.set Ar q1 S N H G (fits_nar_byte _) W' _ rfl hlen))
theorem k_lastore (K : Wk p l e R s m args below meth c Z a0 EL n0 y bytes maxL ret b T h locs cells slots) {a : Addr} {kk : ClassId} {z j : Int32} {vs : List Value} {dv : Value} {v : Int64} (F : Arv Z h a kk .long z vs dv) (hj : ¬ j < 0 ∧ j < z) (hlen : j.toNatClampNeg < vs.length) (ga : n0 ≤ a) (sf : Sfe Z EL b.vm h a) (hd : decode bytes pc = .ok (.lastore, 1)) (hp : pc + 1 = pc') (k : ∀ T' h', Wk p l e R s m args below meth c Z a0 EL n0 y bytes maxL ret b T' h' (locs ++ [⟨a, j.toNatClampNeg⟩]) cells slots → Wr h h' a j.toNatClampNeg (.long v) → (∀ x, x < h.size → Sfe Z EL b.vm h x → Sfe Z EL b.vm h' x) → Arv Z h' a kk .long z (vs.set j.toNatClampNeg (.long v)) dv → Goes p.tables e below P (T'.setTop (mkF m pc' Ls st))) : Goes p.tables e below P (T.setTop (mkF m pc Ls (.long v :: .int j :: .ref a :: st))) := by
  subst hp
  obtain ⟨cl, Ar, q1, S, N, H, G⟩ := F
  obtain ⟨T', h', X', e', W', q⟩ := stJ K.X K.hx K.hZ K.eT Ar (j := j) (inb_of S hj) (g := mkF m pc Ls (.long v :: .int j :: .ref a :: st)) rfl rfl (hb K.hby hd)
  exact go q (k T' h' (K.move X' e' (Fr.snoc X' K.fr ga) (K.old.wr W' ga) (bs_wr K W' sf)) W' (sfe_wr K W' sf) (Arv.set Ar q1 S N H G rfl W' _ rfl hlen))
theorem k_aastore (K : Wk p l e R s m args below meth c Z a0 EL n0 y bytes maxL ret b T h locs cells slots) {a : Addr} {kk : ClassId} {ty : FieldType} {z j : Int32} {vs : List Value} {dv v : Value} (F : Arv Z h a kk ty z vs dv) (hty : ty.isReference = true) (hs : Sto Z h a v) (hfit : fits ty v = true) (hj : ¬ j < 0 ∧ j < z) (hlen : j.toNatClampNeg < vs.length) (ga : n0 ≤ a) (sf : Sfe Z EL b.vm h a) (hd : decode bytes pc = .ok (.aastore, 1)) (hp : pc + 1 = pc') (k : ∀ T' h', Wk p l e R s m args below meth c Z a0 EL n0 y bytes maxL ret b T' h' (locs ++ [⟨a, j.toNatClampNeg⟩]) cells slots → Wr h h' a j.toNatClampNeg v → (∀ x, x < h.size → Sfe Z EL b.vm h x → Sfe Z EL b.vm h' x) → Arv Z h' a kk ty z (vs.set j.toNatClampNeg v) dv → Goes p.tables e below P (T'.setTop (mkF m pc' Ls st))) : Goes p.tables e below P (T.setTop (mkF m pc Ls (v :: .int j :: .ref a :: st))) := by
  subst hp
  obtain ⟨cl, Ar, q1, S, N, H, G⟩ := F
  obtain ⟨T', h', X', e', W', q⟩ := stR K.X K.hx K.hZ K.eT Ar (j := j) (inb_of S hj) hty hs (g := mkF m pc Ls (v :: .int j :: .ref a :: st)) rfl rfl (hb K.hby hd)
  exact go q (k T' h' (K.move X' e' (Fr.snoc X' K.fr ga) (K.old.wr W' ga) (bs_wr K W' sf)) W' (sfe_wr K W' sf) (Arv.set Ar q1 S N H G hfit W' _ rfl hlen))
theorem k_clone (K : Wk p l e R s m args below meth c Z a0 EL n0 y bytes maxL ret b T h locs cells slots) {i : Nat} {ad : String} {a : Addr} {kk : ClassId} {ty : FieldType} {z : Int32} {vs : List Value} {dv : Value} (w1 : (Cond.methodLink y.cls i ⟨ad, "clone", "()Ljava/lang/Object;"⟩).before a0 Z = true) (w2 : (Cond.sameMethod ad "java/lang/Object" "clone" "()Ljava/lang/Object;").before a0 Z = true) (w3 : (Cond.native ⟨"java/lang/Object", "clone", "()Ljava/lang/Object;"⟩).before a0 Z = true) (w4 : (Cond.instanceMethod ⟨"java/lang/Object", "clone", "()Ljava/lang/Object;"⟩).before a0 Z = true) (w5 : (Cond.selects ad ⟨ad, "clone", "()Ljava/lang/Object;"⟩ ⟨"java/lang/Object", "clone", "()Ljava/lang/Object;"⟩).before a0 Z = true) (w6 : (Cond.castable ad "java/lang/Cloneable").before a0 Z = true) (F : Arv Z Z.heap a kk ty z vs dv) (E : Exa Z Z.heap a ad) (hfit : Fit Z) (hd : decode bytes pc = .ok (.invokevirtual i, 3)) (hp : pc + 3 = pc') (hsz : Ls.size = maxL) (hfr : 1 ≤ R.frames) (W : Nat) (hW : (st.map fun v => v.category).sum ≤ W) (hlo : W + 14 ≤ R.locals) {cap : Nat} (hcap : z.toNatClampNeg ≤ cap) (hce : cells + 1 ≤ R.cells) (hsl : slots + cap ≤ R.slots) (k : ∀ T' h' a', a' = h.size → Wk p l e R s m args below meth c Z a0 EL n0 y bytes maxL ret b T' h' locs (cells + 1) (slots + cap) → Ext h h' → (∀ x, x < h.size → Sfe Z EL b.vm h x → Sfe Z EL b.vm h' x) → Sfe Z EL b.vm h' a' → Arv Z h' a' kk ty z vs dv → Exa Z h' a' ad → Goes p.tables e below P (T'.setTop (mkF m pc' Ls (.ref a' :: st)))) : Goes p.tables e below P (T.setTop (mkF m pc Ls (.ref a :: st))) := by
  subst hp
  obtain ⟨cl, Ar, q1, S, N, H, G⟩ := F
  obtain ⟨T', h', X', e', E', A', D', q⟩ := cloneA K.X K.hx K.hZ K.hown w1 w2 w3 w4 w5 w6 K.eT (Ar.ext K.old.2) (E.ext K.old.2) (FitC.start hfit Ar) (g := mkF m pc Ls (.ref a :: st)) rfl (hsz.trans K.hml.symm) rfl (hb K.hby hd) hfr (W := W) (cap := cap) (by show 2 * 0 + _ ≤ _; rw [Nat.mul_zero, Nat.zero_add]; exact hW) hlo (by rw [S]; exact hcap) hce hsl
  exact go q (k T' h' _ rfl (K.move X' e' K.fr (K.old.ext E') (bs_ext K E')) E' (sfe_ext K E') (sfe_ext_new K E') ⟨_, A', q1, S, N, H, G⟩ D')
def FinW (Z : State) (EL : List (String × Nat)) (U : State) (n0 : Nat) (rm : Room) (Q : Option Value → Heap → (Addr → Prop) → Prop) (o : Outcome) (U' : State) : Prop := ∃ v L, o = .returned v ∧ (Fr n0 L ∧ Old Z n0 U'.heap ∧ Q v U'.heap (Sfe Z EL U'.vm U'.heap)) ∧ CHr Z EL U.vm U.heap U'.vm U'.heap ∧ ReturnedEndW U o U' L rm.cells rm.slots
def Ct (l : Launch) (Z : State) (EL : List (String × Nat)) (n0 : Nat) (y : MethodName) (bytes : ByteArray) (maxL : Nat) (ret : Option FieldType) (rm : Room) (as : Array Value) (h : Heap) (SP : List Addr) (Q : Option Value → Heap → (Addr → Prop) → Prop) : Prop := ∀ ws, MetFree l y (head1 (Cond.code y bytes maxL ret :: ws) rm) (fun a U => a = as ∧ Z.Warmed39 U.vm ∧ U.heap = h ∧ (∀ x ∈ SP, Sfe Z EL U.vm h x) ∧ CHv Z EL U.vm h) (fun _ _ _ _ _ => True) (fun _ U o U' => ∃ v L, o = .returned v ∧ (Fr n0 L ∧ Old Z n0 U'.heap ∧ Q v U'.heap (Sfe Z EL U'.vm U'.heap)) ∧ CHr Z EL U.vm U.heap U'.vm U'.heap ∧ ReturnedEndW U o U' L rm.cells rm.slots)
theorem Ct.of {as : Array Value} {rm : Room} {SP : List Addr} {Q : Option Value → Heap → (Addr → Prop) → Prop} (LE : Array Slot) (hEW : EW Z a0 EL) (hO : Old Z n0 h) (hpl : plainFor y = true) (hef : ∀ m, entryFrame m as maxL = mkF m 0 LE []) (body : ∀ {p : Program} {e : Env} {s : State} {m : MethodId} {below : List Frame} {meth : Method} {c : Code} {b T : State}, Wk p l e rm s m as below meth c Z a0 EL n0 y bytes maxL ret b T h [] 0 0 → (∀ x ∈ SP, Sfe Z EL b.vm h x) → Goes p.tables e below (FinW Z EL s n0 rm Q) (T.setTop (mkF m 0 LE []))) : Ct l Z EL n0 y bytes maxL ret rm as h SP Q := by
  intro ws
  refine MetFree.of_bodySF hpl hisR ?_
  intro p e s m args below meth c s₁ Bd hml0 hP hK
  obtain ⟨ha, hZ, hh, hSP, hC⟩ := hP
  subst ha
  have K : Wk p l e rm s m args below meth c Z a0 EL n0 y bytes maxL ret s s₁ h [] 0 0 := ⟨Stand.of_body Bd, by rw [← hh, Bd.state]; rfl, Fr.nil n0, Bd.exec, hZ, findClass_of_methodNamed Bd.named, Bd.bytes, hml0, Bd.returns, Bd.notSynchronized, (name_of_methodNamed Bd.named Bd.method).1, hO, ⟨⟨s.vm, 0, rfl, State.WarmedH.since (State.WarmedH.refl s) 0, Nat.zero_le _⟩, by rw [hh]; exact CHr.refl hC, hEW⟩⟩
  obtain ⟨t, o, h1, h2, h3, h4⟩ := body K hSP
  exact ⟨t, o, castTop (hef m) h1, h2, h3, h4⟩
theorem k_return (K : Wk p l e R s m args below meth c Z a0 EL n0 y bytes maxL ret b T h locs cells slots) {Q : Option Value → Heap → (Addr → Prop) → Prop} (hd : decode bytes pc = .ok (.return_, 1)) (hr : ret = none) (hq : ∀ sf : Addr → Prop, (∀ x, x < h.size → Sfe Z EL b.vm h x → sf x) → Q none h sf) (hc : cells ≤ R.cells) (hs : slots ≤ R.slots) : Goes p.tables e below (FinW Z EL s n0 R Q) (T.setTop (mkF m pc Ls [])) := by
  have hbs := K.bs
  obtain ⟨⟨vm0, k0, eb, hS, hk⟩, hCH, hEW⟩ := hbs
  subst eb
  have A := CHv.at K.X K.hZ hEW hCH.1
  obtain ⟨fs, hr', hrun, hended, hend⟩ := K.X.leaveW hS (by rw [K.eT]; exact hk) (v := none) (fun _ => rfl) K.hlk
  refine ⟨_, _, ?_, hrun, hended, _, _, rfl, ⟨K.fr, ?_, ?_⟩, ?_, ⟨hend.1, hend.2.1, hend.2.2.1, hend.2.2.2.mono hc hs⟩⟩
  · exact K.X.returnOut K.hx (K.hret.trans hr) (hb K.hby hd) hr'
  · show Old Z n0 T.heap
    rw [K.eT]; exact K.old
  · show Q _ T.heap (Sfe Z EL T.vm T.heap)
    rw [K.eT]; exact hq _ fun x hx q => CHr.safe A hx q
  · show CHr Z EL s.vm s.heap T.vm T.heap
    rw [K.eT]; exact hCH.trans A
theorem k_ret (K : Wk p l e R s m args below meth c Z a0 EL n0 y bytes maxL ret b T h locs cells slots) {Q : Option Value → Heap → (Addr → Prop) → Prop} {t : FieldType} {v : Value} {i : Instr} (hd : decode bytes pc = .ok (i, 1)) (hr : ret = some t) (hn : narrow t v = v) (hi : (i = .ireturn ∧ (t = .int ∨ t = .boolean ∨ t = .byte ∨ t = .char ∨ t = .short) ∧ ∃ z, v = .int z) ∨ (i = .lreturn ∧ t = .long ∧ ∃ z, v = .long z) ∨ (i = .dreturn ∧ t = .double ∧ ∃ z, v = .double z) ∨ (i = .freturn ∧ t = .float ∧ ∃ z, v = .float z) ∨ (i = .areturn ∧ t.isReference = true ∧ v.isRef = true)) (hq : ∀ sf : Addr → Prop, (∀ x, x < h.size → Sfe Z EL b.vm h x → sf x) → Q (some v) h sf) (hc : cells ≤ R.cells) (hs : slots ≤ R.slots) : Goes p.tables e below (FinW Z EL s n0 R Q) (T.setTop (mkF m pc Ls (v :: st))) := by
  have hbs := K.bs
  obtain ⟨⟨vm0, k0, eb, hS, hk⟩, hCH, hEW⟩ := hbs
  subst eb
  have A := CHv.at K.X K.hZ hEW hCH.1
  obtain ⟨fs, hr', hrun, hended, hend⟩ := K.X.leaveW hS (by rw [K.eT]; exact hk) (v := some v) (fun h => by rw [K.hret, hr] at h; cases h) K.hlk
  refine ⟨_, _, ?_, hrun, hended, _, _, rfl, ⟨K.fr, ?_, ?_⟩, ?_, ⟨hend.1, hend.2.1, hend.2.2.1, hend.2.2.2.mono hc hs⟩⟩
  · exact retOut K.X K.hx (K.hret.trans hr) hn hi (hb K.hby hd) hr'
  · show Old Z n0 T.heap
    rw [K.eT]; exact K.old
  · show Q _ T.heap (Sfe Z EL T.vm T.heap)
    rw [K.eT]; exact hq _ fun x hx q => CHr.safe A hx q
  · show CHr Z EL s.vm s.heap T.vm T.heap
    rw [K.eT]; exact hCH.trans A
theorem k_iret (K : Wk p l e R s m args below meth c Z a0 EL n0 y bytes maxL ret b T h locs cells slots) {Q : Option Value → Heap → (Addr → Prop) → Prop} {i : Int32} (hd : decode bytes pc = .ok (.ireturn, 1)) (hr : ret = some .int) (hq : ∀ sf : Addr → Prop, (∀ x, x < h.size → Sfe Z EL b.vm h x → sf x) → Q (some (.int i)) h sf) (hc : cells ≤ R.cells) (hs : slots ≤ R.slots) : Goes p.tables e below (FinW Z EL s n0 R Q) (T.setTop (mkF m pc Ls (.int i :: st))) := k_ret K hd hr rfl (Or.inl ⟨rfl, Or.inl rfl, i, rfl⟩) hq hc hs
theorem k_lret (K : Wk p l e R s m args below meth c Z a0 EL n0 y bytes maxL ret b T h locs cells slots) {Q : Option Value → Heap → (Addr → Prop) → Prop} {i : Int64} (hd : decode bytes pc = .ok (.lreturn, 1)) (hr : ret = some .long) (hq : ∀ sf : Addr → Prop, (∀ x, x < h.size → Sfe Z EL b.vm h x → sf x) → Q (some (.long i)) h sf) (hc : cells ≤ R.cells) (hs : slots ≤ R.slots) : Goes p.tables e below (FinW Z EL s n0 R Q) (T.setTop (mkF m pc Ls (.long i :: st))) := k_ret K hd hr rfl (Or.inr (Or.inl ⟨rfl, rfl, i, rfl⟩)) hq hc hs
theorem k_aret (K : Wk p l e R s m args below meth c Z a0 EL n0 y bytes maxL ret b T h locs cells slots) {Q : Option Value → Heap → (Addr → Prop) → Prop} {v : Value} {t : FieldType} (hd : decode bytes pc = .ok (.areturn, 1)) (hr : ret = some t) (ht : t.isReference = true) (hv : v.isRef = true) (hq : ∀ sf : Addr → Prop, (∀ x, x < h.size → Sfe Z EL b.vm h x → sf x) → Q (some v) h sf) (hc : cells ≤ R.cells) (hs : slots ≤ R.slots) : Goes p.tables e below (FinW Z EL s n0 R Q) (T.setTop (mkF m pc Ls (v :: st))) := k_ret K hd hr (by cases t <;> first | rfl | cases ht) (Or.inr (Or.inr (Or.inr (Or.inr ⟨rfl, ht, hv⟩)))) hq hc hs
theorem k_nret (K : Wk p l e R s m args below meth c Z a0 EL n0 y bytes maxL ret b T h locs cells slots) {Q : Option Value → Heap → (Addr → Prop) → Prop} {i : Int32} {t : FieldType} (hd : decode bytes pc = .ok (.ireturn, 1)) (hr : ret = some t) (ht : t = .boolean ∨ t = .byte ∨ t = .char ∨ t = .short) (hn : narrow t (.int i) = .int i) (hq : ∀ sf : Addr → Prop, (∀ x, x < h.size → Sfe Z EL b.vm h x → sf x) → Q (some (.int i)) h sf) (hc : cells ≤ R.cells) (hs : slots ≤ R.slots) : Goes p.tables e below (FinW Z EL s n0 R Q) (T.setTop (mkF m pc Ls (.int i :: st))) := k_ret K hd hr hn (Or.inl ⟨rfl, Or.inr ht, i, rfl⟩) hq hc hs
def Pu (w : Option Value) (h : Heap) (v : Option Value) (h' : Heap) (_ : Addr → Prop) : Prop := v = w ∧ h' = h
theorem own_back {yy : MethodName} {yb : ByteArray} {yml : Nat} {yret : Option FieldType} {rm : Room} {len W : Nat} {as' : Array Value} {SP : List Addr} {Q : Option Value → Heap → (Addr → Prop) → Prop} {vm0 : Vm} (hM : Ct l Z EL n0 yy yb yml yret rm as' h SP Q) (hZ : Z.Warmed39 vm0) (wc : (Cond.code yy yb yml yret).before a0 Z = true) (wz : (Cond.initialized yy.cls).before a0 Z = true) (hf : rm.frames + 1 ≤ R.frames) (hl : W + (yml + 11) + rm.locals ≤ R.locals) (hEL : EW Z a0 EL) (H : CHv Z EL vm0 h) (hSP : ∀ x ∈ SP, x < h.size ∧ Sfe Z EL vm0 h x) :
    BackS l R p e below (s.setVm vm0) args yy len W (fun A a => a = as' ∧ A.U.heap = h ∧ A.cells + rm.cells ≤ R.cells ∧ A.slots + rm.slots ≤ R.slots)
      (fun A _ v B => ∃ L, (Fr n0 L ∧ Old Z n0 B.U.heap ∧ Q v B.U.heap (Sfe Z EL B.U.vm B.U.heap)) ∧ B.locs = A.locs ++ L ∧ B.cells = A.cells + rm.cells ∧ B.slots = A.slots + rm.slots ∧ CHr Z EL vm0 h B.U.vm B.U.heap) :=
  BackS.of_freeW (bytes := yb) (maxL := yml) (ret := yret) (E := fun _ first o t L k n => k = rm.cells ∧ n = rm.slots ∧ (∃ v, o = .returned v ∧ (Fr n0 L ∧ Old Z n0 t.heap ∧ Q v t.heap (Sfe Z EL t.vm t.heap))) ∧ CHr Z EL first.vm first.heap t.vm t.heap) (hM []) hf hl
    (fun m meth c A a Y hp => have hU : Z.Warmed39 A.U.vm := wtrans (s := s.setVm vm0) hZ Y.warmed
      ⟨by show (Cond.and _ .tt).before a A.U = true; rw [Cond.before_and, mvT hU wc]; rfl, mvT hU wc, mvT hU wz, hp.2.2.1, hp.2.2.2⟩)
    (fun m meth c A a g mk Y hp => have q := CHv.at Y hZ hEL H
      ⟨hp.1, wtrans (s := s.setVm vm0) hZ Y.warmed, hp.2.1, fun x hx => CHr.safe q (hSP x hx).1 (hSP x hx).2, q.1⟩) (fun _ _ _ _ _ _ _ _ _ => trivial)
    (fun _ _ _ _ ⟨v, L, h1, h2, h3, h4⟩ => ⟨L, _, _, h4, rfl, rfl, ⟨v, h1, h2⟩, h3⟩)
    (fun m meth c A a g mk v t L k n Y hp _ _ ⟨e1, e2, ⟨v', e3, e4⟩, e5⟩ => by
      cases e3; subst e1 e2
      refine ⟨L, e4, rfl, rfl, rfl, (CHv.at Y hZ hEL H).trans ?_⟩
      rw [← hp.2.1]; exact e5)
theorem callSS (X : Stand p l e R s m args below meth c T locs cells slots) (hexec : p.tables.exec = Jvm.exec) {own : String} {index : Nat} {yy : MethodName} {yb : ByteArray} {yml : Nat} {yret : Option FieldType}
    (hown : s.vm.findClass own = some m.cls) (hlink : (Cond.methodLink own index yy).before args s = true) (hstat : (Cond.static yy).before args s = true) (hinit : (Cond.initialized yy.cls).before args s = true)
    (hcode : (Cond.code yy yb yml yret).before args s = true) (hy : yy.cls ≠ "java/lang/invoke/MethodHandle" ∧ yy.cls ≠ "java/lang/invoke/VarHandle")
    {W : Nat} {Pre : Pt → Array Value → Prop} {Post : Pt → Array Value → Option Value → Pt → Prop} (hK : BackS l R p e below s args yy 3 W Pre Post)
    {g : JFrame} (hg : g.method = m) (hsize : g.locals.size = c.maxLocals) {argsL rest : List Value} (hlen : ∀ sig, parseMethodDescriptor yy.desc = some sig → argsL.length = sig.parameters.length)
    (hstack : g.stack = argsL.reverse ++ rest) (hW : 2 * g.monitorRoom + (rest.map fun v => v.category).sum ≤ W) (hdg : decode c.code g.pc = .ok (.invokestatic index, 3))
    (hpre : ∀ vm₁, s.WarmedH vm₁ → Pre ⟨T.setVm vm₁, locs, cells, slots⟩ argsL.toArray) :
    ∃ (v : Option Value) (vm₁ : Vm) (B : Pt), s.WarmedH vm₁ ∧ Stand p l e R (s.setVm B.U.vm) m args below meth c B.U B.locs B.cells B.slots ∧ s.Since B.U.vm B.U.heap.size ∧ T.heap.size ≤ B.U.heap.size ∧ Post ⟨T.setVm vm₁, locs, cells, slots⟩ argsL.toArray v B ∧
      Steps p.tables e below (T.setTop g) (B.U.setTop { g with pc := g.pc + 3, stack := v.toList ++ rest }) := by
  obtain ⟨mk, hnamed⟩ := Cond.code_named hcode
  obtain ⟨methM, cM, hmethM, -, -, -, -, -, -, hsigM⟩ := Cond.code_spec hnamed hcode
  exact X.staticBackS hexec hown hlink hstat hinit hnamed hmethM hsigM hy hK hg hsize (Steps.refl _) hlen hstack hW hdg hpre
theorem wk_called (K : Wk p l e R s m args below meth c Z a0 EL n0 y bytes maxL ret b T h locs cells slots) {b0 T' : State} {Lc : List Loc} {c' n' : Nat} (eb : b = s.setVm b0.vm) (X' : Stand p l e R (b.setVm T'.vm) m args below meth c T' (locs ++ Lc) c' n') (hS : b.Since T'.vm T'.heap.size) (hsz : T.heap.size ≤ T'.heap.size) (hCH : CHr Z EL b.vm h T'.vm T'.heap) (hF : Fr n0 Lc) (hO : Old Z n0 T'.heap) : Wk p l e R s m args below meth c Z a0 EL n0 y bytes maxL ret (b.setVm T'.vm) T' T'.heap (locs ++ Lc) c' n' := by
  obtain ⟨⟨vm0, k0, eb', g1, g2⟩, g3, g4⟩ := K.bs
  subst eb'
  have hW : Z.Warmed39 T'.vm := State.Warmed39.trans (t := s.setVm vm0) K.hZ hS.1
  have hf : T'.vm.findClass y.cls = some m.cls := by rw [hS.1.alike.findClass]; exact K.hown
  exact ⟨X', rfl, K.fr.app hF, K.hx, hW, hf, K.hby, K.hml, K.hret, K.hlk, K.hnm, hO, ⟨⟨T'.vm, T'.heap.size, rfl, g1.trans hS (by rw [K.eT] at hsz; exact Nat.le_trans g2 hsz), Nat.le_refl _⟩, g3.trans hCH, g4⟩⟩
theorem k_static (K : Wk p l e R s m args below meth c Z a0 EL n0 y bytes maxL ret b T h locs cells slots) {i : Nat} {yy : MethodName} {yb : ByteArray} {yml : Nat} {yret : Option FieldType} {rm : Room} {SP : List Addr} {Q : Option Value → Heap → (Addr → Prop) → Prop} {ps : List FieldType} {r : Option FieldType} (argsL rest : List Value) (W : Nat) (wl : (Cond.methodLink y.cls i yy).before a0 Z = true) (ws : (Cond.static yy).before a0 Z = true) (wz : (Cond.initialized yy.cls).before a0 Z = true) (wc : (Cond.code yy yb yml yret).before a0 Z = true) (hy : yy.cls ≠ "java/lang/invoke/MethodHandle" ∧ yy.cls ≠ "java/lang/invoke/VarHandle") (hpd : parseMethodDescriptor yy.desc = some ⟨ps, r⟩) (C : Ct l Z EL n0 yy yb yml yret rm argsL.toArray h SP Q) (hd : decode bytes pc = .ok (.invokestatic i, 3)) (hSP : ∀ x ∈ SP, x < h.size ∧ Sfe Z EL b.vm h x) (hp : pc + 3 = pc') (hsz : Ls.size = maxL) (hlen : argsL.length = ps.length) (hst : st = argsL.reverse ++ rest) (hW : (rest.map fun v => v.category).sum ≤ W) (hfr : rm.frames + 1 ≤ R.frames) (hlo : W + (yml + 11) + rm.locals ≤ R.locals) (hce : cells + rm.cells ≤ R.cells) (hsl : slots + rm.slots ≤ R.slots) (k : ∀ b' T' h' locs' v, Wk p l e R s m args below meth c Z a0 EL n0 y bytes maxL ret b' T' h' locs' (cells + rm.cells) (slots + rm.slots) → (∀ x, x < h.size → Sfe Z EL b.vm h x → Sfe Z EL b'.vm h' x) → Q v h' (Sfe Z EL b'.vm h') → Goes p.tables e below P (T'.setTop (mkF m pc' Ls (v.toList ++ rest)))) : Goes p.tables e below P (T.setTop (mkF m pc Ls st)) := by
  subst hp
  obtain ⟨⟨vm0, k0, eb, g1, g2⟩, g3, g4⟩ := K.bs
  subst eb
  obtain ⟨v, vm1, ⟨T', L', c', n'⟩, -, X', hS', hsz', ⟨Lc, ⟨hF, hO', hQ⟩, l', y', z', hCH⟩, q⟩ := callSS K.X K.hx (yy := yy) K.hown (mvT K.hZ wl) (mvT K.hZ ws) (mvT K.hZ wz) (mvT K.hZ wc) hy (own_back (s := s) (vm0 := vm0) (W := W) C K.hZ wc wz hfr hlo g4 g3.1 hSP) (g := mkF m pc Ls st) rfl (hsz.trans K.hml.symm) (argsL := argsL) (rest := rest) (lenOf hpd hlen) hst (by show 2 * 0 + _ ≤ _; rw [Nat.mul_zero, Nat.zero_add]; exact hW) (hb K.hby hd) (fun _ _ => ⟨rfl, K.eT, hce, hsl⟩)
  dsimp only [Pt.U, Pt.locs, Pt.cells, Pt.slots] at X' l' y' z' q hQ hCH hS' hsz' hO'
  subst l' y' z'
  exact go (fun _ z => q.trans z) (k _ _ _ _ _ (wk_called K (b0 := (s.setVm vm0)) rfl X' hS' hsz' hCH hF hO') (fun x hx z => CHr.safe hCH hx z) hQ)
theorem k_staticP (K : Wk p l e R s m args below meth c Z a0 EL n0 y bytes maxL ret b T h locs cells slots) {i : Nat} {yy : MethodName} {yb : ByteArray} {yml : Nat} {yret : Option FieldType} {rm : Room} {SP : List Addr} {ps : List FieldType} {r : Option FieldType} (argsL rest : List Value) (W : Nat) (wl : (Cond.methodLink y.cls i yy).before a0 Z = true) (ws : (Cond.static yy).before a0 Z = true) (wz : (Cond.initialized yy.cls).before a0 Z = true) (wc : (Cond.code yy yb yml yret).before a0 Z = true) (hy : yy.cls ≠ "java/lang/invoke/MethodHandle" ∧ yy.cls ≠ "java/lang/invoke/VarHandle") (hpd : parseMethodDescriptor yy.desc = some ⟨ps, r⟩) {vv : Option Value} (C : Ct l Z EL n0 yy yb yml yret rm argsL.toArray h SP (Pu vv h)) (hd : decode bytes pc = .ok (.invokestatic i, 3)) (hSP : ∀ x ∈ SP, x < h.size ∧ Sfe Z EL b.vm h x) (hp : pc + 3 = pc') (hsz : Ls.size = maxL) (hlen : argsL.length = ps.length) (hst : st = argsL.reverse ++ rest) (hW : (rest.map fun v => v.category).sum ≤ W) (hfr : rm.frames + 1 ≤ R.frames) (hlo : W + (yml + 11) + rm.locals ≤ R.locals) (hce : cells + rm.cells ≤ R.cells) (hsl : slots + rm.slots ≤ R.slots) (k : ∀ b' T' locs', Wk p l e R s m args below meth c Z a0 EL n0 y bytes maxL ret b' T' h locs' (cells + rm.cells) (slots + rm.slots) → (∀ x, x < h.size → Sfe Z EL b.vm h x → Sfe Z EL b'.vm h x) → Goes p.tables e below P (T'.setTop (mkF m pc' Ls (vv.toList ++ rest)))) : Goes p.tables e below P (T.setTop (mkF m pc Ls st)) := k_static K argsL rest W wl ws wz wc hy hpd C hd hSP hp hsz hlen hst hW hfr hlo hce hsl (fun b' T' h' locs' v K' tr q => by obtain ⟨rfl, rfl⟩ := q; exact k _ _ _ K' tr)
theorem k_special (K : Wk p l e R s m args below meth c Z a0 EL n0 y bytes maxL ret b T h locs cells slots) {i : Nat} {yy : MethodName} {yb : ByteArray} {yml : Nat} {yret : Option FieldType} {rm : Room} {SP : List Addr} {Q : Option Value → Heap → (Addr → Prop) → Prop} {ps : List FieldType} {r : Option FieldType} (argsL rest : List Value) (W : Nat) {a : Addr} (wl : (Cond.methodLink y.cls i yy).before a0 Z = true) (wi : (Cond.instanceMethod yy).before a0 Z = true) (wz : (Cond.initialized yy.cls).before a0 Z = true) (wc : (Cond.code yy yb yml yret).before a0 Z = true) (hin : yy.name = "<init>") (hnr : yret = none) (hy : yy.cls ≠ "java/lang/invoke/MethodHandle" ∧ yy.cls ≠ "java/lang/invoke/VarHandle") (hpd : parseMethodDescriptor yy.desc = some ⟨ps, r⟩) (C : Ct l Z EL n0 yy yb yml yret rm (.ref a :: argsL).toArray h SP Q) (hd : decode bytes pc = .ok (.invokespecial i, 3)) (hSP : ∀ x ∈ SP, x < h.size ∧ Sfe Z EL b.vm h x) (hp : pc + 3 = pc') (hsz : Ls.size = maxL) (hlen : argsL.length = ps.length) (hst : st = argsL.reverse ++ .ref a :: rest) (hW : (rest.map fun v => v.category).sum ≤ W) (hfr : rm.frames + 1 ≤ R.frames) (hlo : W + (yml + 11) + rm.locals ≤ R.locals) (hce : cells + rm.cells ≤ R.cells) (hsl : slots + rm.slots ≤ R.slots) (k : ∀ b' T' h' locs' v, Wk p l e R s m args below meth c Z a0 EL n0 y bytes maxL ret b' T' h' locs' (cells + rm.cells) (slots + rm.slots) → (∀ x, x < h.size → Sfe Z EL b.vm h x → Sfe Z EL b'.vm h' x) → Q v h' (Sfe Z EL b'.vm h') → Goes p.tables e below P (T'.setTop (mkF m pc' Ls (v.toList ++ rest)))) : Goes p.tables e below P (T.setTop (mkF m pc Ls st)) := by
  subst hp
  subst hnr
  obtain ⟨⟨vm0, k0, eb, g1, g2⟩, g3, g4⟩ := K.bs
  subst eb
  obtain ⟨v, vm1, ⟨T', L', c', n'⟩, -, X', hS', hsz', ⟨Lc, ⟨hF, hO', hQ⟩, l', y', z', hCH⟩, q⟩ := K.X.specialBackS K.hx (y := yy) hin K.hown (mvT K.hZ wl) (mvT K.hZ wi) (mvT K.hZ wc) hy (own_back (s := s) (vm0 := vm0) (W := W) C K.hZ wc wz hfr hlo g4 g3.1 hSP) (g := mkF m pc Ls st) rfl (hsz.trans K.hml.symm) (Steps.refl _) (a := a) (argsL := argsL) (rest := rest) (lenOf hpd hlen) hst (by show 2 * 0 + _ ≤ _; rw [Nat.mul_zero, Nat.zero_add]; exact hW) (hb K.hby hd) (fun _ _ => ⟨rfl, K.eT, hce, hsl⟩)
  dsimp only [Pt.U, Pt.locs, Pt.cells, Pt.slots] at X' l' y' z' q hQ hCH hS' hsz' hO'
  subst l' y' z'
  exact go (fun _ z => q.trans z) (k _ _ _ _ _ (wk_called K (b0 := (s.setVm vm0)) rfl X' hS' hsz' hCH hF hO') (fun x hx z => CHr.safe hCH hx z) hQ)
theorem k_specialP (K : Wk p l e R s m args below meth c Z a0 EL n0 y bytes maxL ret b T h locs cells slots) {i : Nat} {yy : MethodName} {yb : ByteArray} {yml : Nat} {yret : Option FieldType} {rm : Room} {SP : List Addr} {ps : List FieldType} {r : Option FieldType} (argsL rest : List Value) (W : Nat) {a : Addr} (wl : (Cond.methodLink y.cls i yy).before a0 Z = true) (wi : (Cond.instanceMethod yy).before a0 Z = true) (wz : (Cond.initialized yy.cls).before a0 Z = true) (wc : (Cond.code yy yb yml yret).before a0 Z = true) (hin : yy.name = "<init>") (hnr : yret = none) (hy : yy.cls ≠ "java/lang/invoke/MethodHandle" ∧ yy.cls ≠ "java/lang/invoke/VarHandle") (hpd : parseMethodDescriptor yy.desc = some ⟨ps, r⟩) {vv : Option Value} (C : Ct l Z EL n0 yy yb yml yret rm (.ref a :: argsL).toArray h SP (Pu vv h)) (hd : decode bytes pc = .ok (.invokespecial i, 3)) (hSP : ∀ x ∈ SP, x < h.size ∧ Sfe Z EL b.vm h x) (hp : pc + 3 = pc') (hsz : Ls.size = maxL) (hlen : argsL.length = ps.length) (hst : st = argsL.reverse ++ .ref a :: rest) (hW : (rest.map fun v => v.category).sum ≤ W) (hfr : rm.frames + 1 ≤ R.frames) (hlo : W + (yml + 11) + rm.locals ≤ R.locals) (hce : cells + rm.cells ≤ R.cells) (hsl : slots + rm.slots ≤ R.slots) (k : ∀ b' T' locs', Wk p l e R s m args below meth c Z a0 EL n0 y bytes maxL ret b' T' h locs' (cells + rm.cells) (slots + rm.slots) → (∀ x, x < h.size → Sfe Z EL b.vm h x → Sfe Z EL b'.vm h x) → Goes p.tables e below P (T'.setTop (mkF m pc' Ls (vv.toList ++ rest)))) : Goes p.tables e below P (T.setTop (mkF m pc Ls st)) := k_special K argsL rest W wl wi wz wc hin hnr hy hpd C hd hSP hp hsz hlen hst hW hfr hlo hce hsl (fun b' T' h' locs' v K' tr q => by obtain ⟨rfl, rfl⟩ := q; exact k _ _ _ K' tr)
theorem k_virtual (K : Wk p l e R s m args below meth c Z a0 EL n0 y bytes maxL ret b T h locs cells slots) {i : Nat} {yy : MethodName} {yb : ByteArray} {yml : Nat} {yret : Option FieldType} {rm : Room} {SP : List Addr} {Q : Option Value → Heap → (Addr → Prop) → Prop} {ps : List FieldType} {r : Option FieldType} (argsL rest : List Value) (W : Nat) {a : Addr} {C0 : String} {yv : MethodName} (wl : (Cond.methodLink y.cls i yv).before a0 Z = true) (wd : (Cond.declares yv).before a0 Z = true) (wi : (Cond.instanceMethod yy).before a0 Z = true) (wse : (Cond.selects C0 yv yy).before a0 Z = true) (wz : (Cond.initialized yy.cls).before a0 Z = true) (wc : (Cond.code yy yb yml yret).before a0 Z = true) (hnf : NotFace b yv) (hvd : yv.desc = yy.desc) (hyv : yv.cls ≠ "java/lang/invoke/MethodHandle" ∧ yv.cls ≠ "java/lang/invoke/VarHandle") (E : Exa Z h a C0) (hy : yy.cls ≠ "java/lang/invoke/MethodHandle" ∧ yy.cls ≠ "java/lang/invoke/VarHandle") (hpd : parseMethodDescriptor yy.desc = some ⟨ps, r⟩) (C : Ct l Z EL n0 yy yb yml yret rm (.ref a :: argsL).toArray h SP Q) (hd : decode bytes pc = .ok (.invokevirtual i, 3)) (hSP : ∀ x ∈ SP, x < h.size ∧ Sfe Z EL b.vm h x) (hp : pc + 3 = pc') (hsz : Ls.size = maxL) (hlen : argsL.length = ps.length) (hst : st = argsL.reverse ++ .ref a :: rest) (hW : (rest.map fun v => v.category).sum ≤ W) (hfr : rm.frames + 1 ≤ R.frames) (hlo : W + (yml + 11) + rm.locals ≤ R.locals) (hce : cells + rm.cells ≤ R.cells) (hsl : slots + rm.slots ≤ R.slots) (k : ∀ b' T' h' locs' v, Wk p l e R s m args below meth c Z a0 EL n0 y bytes maxL ret b' T' h' locs' (cells + rm.cells) (slots + rm.slots) → (∀ x, x < h.size → Sfe Z EL b.vm h x → Sfe Z EL b'.vm h' x) → Q v h' (Sfe Z EL b'.vm h') → Goes p.tables e below P (T'.setTop (mkF m pc' Ls (v.toList ++ rest)))) : Goes p.tables e below P (T.setTop (mkF m pc Ls st)) := by
  subst hp
  obtain ⟨cq, kq, qa, qb, qc⟩ := isOf K.hZ K.eT E
  obtain ⟨⟨vm0, k0, eb, g1, g2⟩, g3, g4⟩ := K.bs
  subst eb
  obtain ⟨v, vm1, ⟨T', L', c', n'⟩, -, X', hS', hsz', ⟨Lc, ⟨hF, hO', hQ⟩, l', y', z', hCH⟩, q⟩ := K.X.virtualBackS K.hx (y := yv) (z := yy) K.hown (mvT K.hZ wl) (mvT K.hZ wd) hnf (mvT K.hZ wse) (mvT K.hZ wi) hyv (own_back (s := s) (vm0 := vm0) (W := W) C K.hZ wc wz hfr hlo g4 g3.1 hSP) qa qc (g := mkF m pc Ls st) rfl (hsz.trans K.hml.symm) (Steps.refl _) (argsL := argsL) (rest := rest) (lenOf (hvd ▸ hpd) hlen) hst (by show 2 * 0 + _ ≤ _; rw [Nat.mul_zero, Nat.zero_add]; exact hW) (hb K.hby hd) (fun _ _ => ⟨rfl, K.eT, hce, hsl⟩)
  dsimp only [Pt.U, Pt.locs, Pt.cells, Pt.slots] at X' l' y' z' q hQ hCH hS' hsz' hO'
  subst l' y' z'
  exact go (fun _ z => q.trans z) (k _ _ _ _ _ (wk_called K (b0 := (s.setVm vm0)) rfl X' hS' hsz' hCH hF hO') (fun x hx z => CHr.safe hCH hx z) hQ)
theorem k_virtualP (K : Wk p l e R s m args below meth c Z a0 EL n0 y bytes maxL ret b T h locs cells slots) {i : Nat} {yy : MethodName} {yb : ByteArray} {yml : Nat} {yret : Option FieldType} {rm : Room} {SP : List Addr} {ps : List FieldType} {r : Option FieldType} (argsL rest : List Value) (W : Nat) {a : Addr} {C0 : String} {yv : MethodName} (wl : (Cond.methodLink y.cls i yv).before a0 Z = true) (wd : (Cond.declares yv).before a0 Z = true) (wi : (Cond.instanceMethod yy).before a0 Z = true) (wse : (Cond.selects C0 yv yy).before a0 Z = true) (wz : (Cond.initialized yy.cls).before a0 Z = true) (wc : (Cond.code yy yb yml yret).before a0 Z = true) (hnf : NotFace b yv) (hvd : yv.desc = yy.desc) (hyv : yv.cls ≠ "java/lang/invoke/MethodHandle" ∧ yv.cls ≠ "java/lang/invoke/VarHandle") (E : Exa Z h a C0) (hy : yy.cls ≠ "java/lang/invoke/MethodHandle" ∧ yy.cls ≠ "java/lang/invoke/VarHandle") (hpd : parseMethodDescriptor yy.desc = some ⟨ps, r⟩) {vv : Option Value} (C : Ct l Z EL n0 yy yb yml yret rm (.ref a :: argsL).toArray h SP (Pu vv h)) (hd : decode bytes pc = .ok (.invokevirtual i, 3)) (hSP : ∀ x ∈ SP, x < h.size ∧ Sfe Z EL b.vm h x) (hp : pc + 3 = pc') (hsz : Ls.size = maxL) (hlen : argsL.length = ps.length) (hst : st = argsL.reverse ++ .ref a :: rest) (hW : (rest.map fun v => v.category).sum ≤ W) (hfr : rm.frames + 1 ≤ R.frames) (hlo : W + (yml + 11) + rm.locals ≤ R.locals) (hce : cells + rm.cells ≤ R.cells) (hsl : slots + rm.slots ≤ R.slots) (k : ∀ b' T' locs', Wk p l e R s m args below meth c Z a0 EL n0 y bytes maxL ret b' T' h locs' (cells + rm.cells) (slots + rm.slots) → (∀ x, x < h.size → Sfe Z EL b.vm h x → Sfe Z EL b'.vm h x) → Goes p.tables e below P (T'.setTop (mkF m pc' Ls (vv.toList ++ rest)))) : Goes p.tables e below P (T.setTop (mkF m pc Ls st)) := k_virtual K argsL rest W wl wd wi wse wz wc hnf hvd hyv E hy hpd C hd hSP hp hsz hlen hst hW hfr hlo hce hsl (fun b' T' h' locs' v K' tr q => by obtain ⟨rfl, rfl⟩ := q; exact k _ _ _ K' tr)
theorem own_sel {args args' : Array Value} {C0 : String} {yv yy : MethodName} (w : (Cond.selects C0 yv yy).before args b = true) : (Cond.selects C0 yv yy).before args' b = true := mvT (State.Warmed39.refl b) w
theorem own_priv (K : Wk p l e R s m args below meth c Z a0 EL n0 y bytes maxL ret b T h locs cells slots) {C0 : String} {n : Nat} {yy : MethodName} (hc0 : C0 = yy.cls) (wi : (Cond.instantiable C0 n).before a0 Z = true) (wim : (Cond.instanceMethod yy).before a0 Z = true) (wpr : (Cond.privateMethod yy).before a0 Z = true) (hy : yy.cls ≠ "java/lang/invoke/MethodHandle" ∧ yy.cls ≠ "java/lang/invoke/VarHandle") : (Cond.selects yy.cls yy yy).before a0 b = true := by
  subst hc0
  have q : (Cond.instantiable yy.cls n).before a0 b = true := mvT K.hZ wi
  obtain ⟨c, k, h1, h2, h3, h4, -⟩ := Cond.instantiable_spec q
  simp only [Bool.or_eq_false_iff] at h4
  exact selects_self_of_private h1 h2 h4.1 (Cond.privateMethod_at (mvP K.hZ wpr (args := #[]))) (mvT K.hZ wim) hy
theorem k_private (K : Wk p l e R s m args below meth c Z a0 EL n0 y bytes maxL ret b T h locs cells slots) {i : Nat} {yy : MethodName} {yb : ByteArray} {yml : Nat} {yret : Option FieldType} {rm : Room} {SP : List Addr} {Q : Option Value → Heap → (Addr → Prop) → Prop} {ps : List FieldType} {r : Option FieldType} (argsL rest : List Value) (W : Nat) {a : Addr} {C0 : String} (wl : (Cond.methodLink y.cls i yy).before a0 Z = true) (wi : (Cond.instanceMethod yy).before a0 Z = true) (wse : (Cond.selects yy.cls yy yy).before a0 b = true) (wpr : (Cond.privateMethod yy).before a0 Z = true) (wz : (Cond.initialized yy.cls).before a0 Z = true) (wc : (Cond.code yy yb yml yret).before a0 Z = true) (E : Exa Z h a C0) (hy : yy.cls ≠ "java/lang/invoke/MethodHandle" ∧ yy.cls ≠ "java/lang/invoke/VarHandle") (hpd : parseMethodDescriptor yy.desc = some ⟨ps, r⟩) (C : Ct l Z EL n0 yy yb yml yret rm (.ref a :: argsL).toArray h SP Q) (hd : decode bytes pc = .ok (.invokevirtual i, 3)) (hSP : ∀ x ∈ SP, x < h.size ∧ Sfe Z EL b.vm h x) (hp : pc + 3 = pc') (hsz : Ls.size = maxL) (hlen : argsL.length = ps.length) (hst : st = argsL.reverse ++ .ref a :: rest) (hW : (rest.map fun v => v.category).sum ≤ W) (hfr : rm.frames + 1 ≤ R.frames) (hlo : W + (yml + 11) + rm.locals ≤ R.locals) (hce : cells + rm.cells ≤ R.cells) (hsl : slots + rm.slots ≤ R.slots) (k : ∀ b' T' h' locs' v, Wk p l e R s m args below meth c Z a0 EL n0 y bytes maxL ret b' T' h' locs' (cells + rm.cells) (slots + rm.slots) → (∀ x, x < h.size → Sfe Z EL b.vm h x → Sfe Z EL b'.vm h' x) → Q v h' (Sfe Z EL b'.vm h') → Goes p.tables e below P (T'.setTop (mkF m pc' Ls (v.toList ++ rest)))) : Goes p.tables e below P (T.setTop (mkF m pc Ls st)) := by
  subst hp
  obtain ⟨cq, qa, qb⟩ := E.cell
  obtain ⟨⟨vm0, k0, eb, g1, g2⟩, g3, g4⟩ := K.bs
  subst eb
  obtain ⟨v, vm1, ⟨T', L', c', n'⟩, -, X', hS', hsz', ⟨Lc, ⟨hF, hO', hQ⟩, l', y', z', hCH⟩, q⟩ := K.X.privateBackS K.hx (y := yy) K.hown (mvT K.hZ wl) (mvT K.hZ wi) (own_sel wse) (Cond.privateMethod_at (mvP K.hZ wpr (args := #[]))) (mvT K.hZ wc) hy (own_back (s := s) (vm0 := vm0) (W := W) C K.hZ wc wz hfr hlo g4 g3.1 hSP) (g := mkF m pc Ls st) rfl (hsz.trans K.hml.symm) (Steps.refl _) (a := a) (by rw [K.eT]; exact qa) qb (argsL := argsL) (rest := rest) (lenOf hpd hlen) hst (by show 2 * 0 + _ ≤ _; rw [Nat.mul_zero, Nat.zero_add]; exact hW) (hb K.hby hd) (fun _ _ => ⟨rfl, K.eT, hce, hsl⟩)
  dsimp only [Pt.U, Pt.locs, Pt.cells, Pt.slots] at X' l' y' z' q hQ hCH hS' hsz' hO'
  subst l' y' z'
  exact go (fun _ z => q.trans z) (k _ _ _ _ _ (wk_called K (b0 := (s.setVm vm0)) rfl X' hS' hsz' hCH hF hO') (fun x hx z => CHr.safe hCH hx z) hQ)
theorem k_privateP (K : Wk p l e R s m args below meth c Z a0 EL n0 y bytes maxL ret b T h locs cells slots) {i : Nat} {yy : MethodName} {yb : ByteArray} {yml : Nat} {yret : Option FieldType} {rm : Room} {SP : List Addr} {ps : List FieldType} {r : Option FieldType} (argsL rest : List Value) (W : Nat) {a : Addr} {C0 : String} (wl : (Cond.methodLink y.cls i yy).before a0 Z = true) (wi : (Cond.instanceMethod yy).before a0 Z = true) (wse : (Cond.selects yy.cls yy yy).before a0 b = true) (wpr : (Cond.privateMethod yy).before a0 Z = true) (wz : (Cond.initialized yy.cls).before a0 Z = true) (wc : (Cond.code yy yb yml yret).before a0 Z = true) (E : Exa Z h a C0) (hy : yy.cls ≠ "java/lang/invoke/MethodHandle" ∧ yy.cls ≠ "java/lang/invoke/VarHandle") (hpd : parseMethodDescriptor yy.desc = some ⟨ps, r⟩) {vv : Option Value} (C : Ct l Z EL n0 yy yb yml yret rm (.ref a :: argsL).toArray h SP (Pu vv h)) (hd : decode bytes pc = .ok (.invokevirtual i, 3)) (hSP : ∀ x ∈ SP, x < h.size ∧ Sfe Z EL b.vm h x) (hp : pc + 3 = pc') (hsz : Ls.size = maxL) (hlen : argsL.length = ps.length) (hst : st = argsL.reverse ++ .ref a :: rest) (hW : (rest.map fun v => v.category).sum ≤ W) (hfr : rm.frames + 1 ≤ R.frames) (hlo : W + (yml + 11) + rm.locals ≤ R.locals) (hce : cells + rm.cells ≤ R.cells) (hsl : slots + rm.slots ≤ R.slots) (k : ∀ b' T' locs', Wk p l e R s m args below meth c Z a0 EL n0 y bytes maxL ret b' T' h locs' (cells + rm.cells) (slots + rm.slots) → (∀ x, x < h.size → Sfe Z EL b.vm h x → Sfe Z EL b'.vm h x) → Goes p.tables e below P (T'.setTop (mkF m pc' Ls (vv.toList ++ rest)))) : Goes p.tables e below P (T.setTop (mkF m pc Ls st)) := k_private K argsL rest W wl wi wse wpr wz wc E hy hpd C hd hSP hp hsz hlen hst hW hfr hlo hce hsl (fun b' T' h' locs' v K' tr q => by obtain ⟨rfl, rfl⟩ := q; exact k _ _ _ K' tr)
theorem k_interface (K : Wk p l e R s m args below meth c Z a0 EL n0 y bytes maxL ret b T h locs cells slots) {i : Nat} {yy : MethodName} {yb : ByteArray} {yml : Nat} {yret : Option FieldType} {rm : Room} {SP : List Addr} {Q : Option Value → Heap → (Addr → Prop) → Prop} {ps : List FieldType} {r : Option FieldType} (argsL rest : List Value) (W : Nat) {a : Addr} {C0 : String} {yv : MethodName} {cnt : Nat} (wl : (Cond.methodLink y.cls i yv).before a0 Z = true) (wd : (Cond.declares yv).before a0 Z = true) (wf : (Cond.interfaceMethod yv.cls yv.cls yv.name yv.desc).before args b = true) (wse : (Cond.selects C0 yv yy).before a0 Z = true) (wi : (Cond.instanceMethod yy).before a0 Z = true) (wpu : (Cond.publicMethod yy).before a0 Z = true) (wun : (Cond.unhidden C0 yv.name yv.desc).before a0 Z = true) (wca : (Cond.castable C0 yv.cls).before a0 Z = true) (wz : (Cond.initialized yy.cls).before a0 Z = true) (wc : (Cond.code yy yb yml yret).before a0 Z = true) (hvd : yv.desc = yy.desc) (hyv : yv.cls ≠ "java/lang/invoke/MethodHandle" ∧ yv.cls ≠ "java/lang/invoke/VarHandle") (E : Exa Z h a C0) (hy : yy.cls ≠ "java/lang/invoke/MethodHandle" ∧ yy.cls ≠ "java/lang/invoke/VarHandle") (hpd : parseMethodDescriptor yy.desc = some ⟨ps, r⟩) (C : Ct l Z EL n0 yy yb yml yret rm (.ref a :: argsL).toArray h SP Q) (hd : decode bytes pc = .ok (.invokeinterface i cnt, 5)) (hSP : ∀ x ∈ SP, x < h.size ∧ Sfe Z EL b.vm h x) (hp : pc + 5 = pc') (hsz : Ls.size = maxL) (hlen : argsL.length = ps.length) (hst : st = argsL.reverse ++ .ref a :: rest) (hW : (rest.map fun v => v.category).sum ≤ W) (hfr : rm.frames + 1 ≤ R.frames) (hlo : W + (yml + 11) + rm.locals ≤ R.locals) (hce : cells + rm.cells ≤ R.cells) (hsl : slots + rm.slots ≤ R.slots) (k : ∀ b' T' h' locs' v, Wk p l e R s m args below meth c Z a0 EL n0 y bytes maxL ret b' T' h' locs' (cells + rm.cells) (slots + rm.slots) → (∀ x, x < h.size → Sfe Z EL b.vm h x → Sfe Z EL b'.vm h' x) → Q v h' (Sfe Z EL b'.vm h') → Goes p.tables e below P (T'.setTop (mkF m pc' Ls (v.toList ++ rest)))) : Goes p.tables e below P (T.setTop (mkF m pc Ls st)) := by
  subst hp
  obtain ⟨cq, kq, qa, qb, qc⟩ := isOf K.hZ K.eT E
  obtain ⟨⟨vm0, k0, eb, g1, g2⟩, g3, g4⟩ := K.bs
  subst eb
  obtain ⟨v, vm1, ⟨T', L', c', n'⟩, -, X', hS', hsz', ⟨Lc, ⟨hF, hO', hQ⟩, l', y', z', hCH⟩, q⟩ := K.X.interfaceBackS K.hx (xi := yv) (y := yy) K.hown (mvT K.hZ wl) (mvT K.hZ wd) wf (mvT K.hZ wse) (mvT K.hZ wi) (mvT K.hZ wpu) (mvT K.hZ wun) (mvT K.hZ wca) hyv (own_back (s := s) (vm0 := vm0) (W := W) C K.hZ wc wz hfr hlo g4 g3.1 hSP) qa qb qc (g := mkF m pc Ls st) rfl (hsz.trans K.hml.symm) (Steps.refl _) (argsL := argsL) (rest := rest) (lenOf (hvd ▸ hpd) hlen) hst (by show 2 * 0 + _ ≤ _; rw [Nat.mul_zero, Nat.zero_add]; exact hW) (hb K.hby hd) (fun _ _ => ⟨rfl, K.eT, hce, hsl⟩)
  dsimp only [Pt.U, Pt.locs, Pt.cells, Pt.slots] at X' l' y' z' q hQ hCH hS' hsz' hO'
  subst l' y' z'
  exact go (fun _ z => q.trans z) (k _ _ _ _ _ (wk_called K (b0 := (s.setVm vm0)) rfl X' hS' hsz' hCH hF hO') (fun x hx z => CHr.safe hCH hx z) hQ)
theorem k_interfaceP (K : Wk p l e R s m args below meth c Z a0 EL n0 y bytes maxL ret b T h locs cells slots) {i : Nat} {yy : MethodName} {yb : ByteArray} {yml : Nat} {yret : Option FieldType} {rm : Room} {SP : List Addr} {ps : List FieldType} {r : Option FieldType} (argsL rest : List Value) (W : Nat) {a : Addr} {C0 : String} {yv : MethodName} {cnt : Nat} (wl : (Cond.methodLink y.cls i yv).before a0 Z = true) (wd : (Cond.declares yv).before a0 Z = true) (wf : (Cond.interfaceMethod yv.cls yv.cls yv.name yv.desc).before args b = true) (wse : (Cond.selects C0 yv yy).before a0 Z = true) (wi : (Cond.instanceMethod yy).before a0 Z = true) (wpu : (Cond.publicMethod yy).before a0 Z = true) (wun : (Cond.unhidden C0 yv.name yv.desc).before a0 Z = true) (wca : (Cond.castable C0 yv.cls).before a0 Z = true) (wz : (Cond.initialized yy.cls).before a0 Z = true) (wc : (Cond.code yy yb yml yret).before a0 Z = true) (hvd : yv.desc = yy.desc) (hyv : yv.cls ≠ "java/lang/invoke/MethodHandle" ∧ yv.cls ≠ "java/lang/invoke/VarHandle") (E : Exa Z h a C0) (hy : yy.cls ≠ "java/lang/invoke/MethodHandle" ∧ yy.cls ≠ "java/lang/invoke/VarHandle") (hpd : parseMethodDescriptor yy.desc = some ⟨ps, r⟩) {vv : Option Value} (C : Ct l Z EL n0 yy yb yml yret rm (.ref a :: argsL).toArray h SP (Pu vv h)) (hd : decode bytes pc = .ok (.invokeinterface i cnt, 5)) (hSP : ∀ x ∈ SP, x < h.size ∧ Sfe Z EL b.vm h x) (hp : pc + 5 = pc') (hsz : Ls.size = maxL) (hlen : argsL.length = ps.length) (hst : st = argsL.reverse ++ .ref a :: rest) (hW : (rest.map fun v => v.category).sum ≤ W) (hfr : rm.frames + 1 ≤ R.frames) (hlo : W + (yml + 11) + rm.locals ≤ R.locals) (hce : cells + rm.cells ≤ R.cells) (hsl : slots + rm.slots ≤ R.slots) (k : ∀ b' T' locs', Wk p l e R s m args below meth c Z a0 EL n0 y bytes maxL ret b' T' h locs' (cells + rm.cells) (slots + rm.slots) → (∀ x, x < h.size → Sfe Z EL b.vm h x → Sfe Z EL b'.vm h x) → Goes p.tables e below P (T'.setTop (mkF m pc' Ls (vv.toList ++ rest)))) : Goes p.tables e below P (T.setTop (mkF m pc Ls st)) := k_interface K argsL rest W wl wd wf wse wi wpu wun wca wz wc hvd hyv E hy hpd C hd hSP hp hsz hlen hst hW hfr hlo hce hsl (fun b' T' h' locs' v K' tr q => by obtain ⟨rfl, rfl⟩ := q; exact k _ _ _ K' tr)
theorem k_initO (K : Wk p l e R s m args below meth c Z a0 EL n0 y bytes maxL ret b T h locs cells slots) {i : Nat} {a : Addr} (wl : (Cond.methodLink y.cls i Lib.objectInit).before a0 Z = true) (wi : (Cond.instanceMethod Lib.objectInit).before a0 Z = true) (wc : (Cond.code Lib.objectInit ⟨#[0xb1]⟩ 1 none).before a0 Z = true) (hd : decode bytes pc = .ok (.invokespecial i, 3)) (hp : pc + 3 = pc') (hsz : Ls.size = maxL) (hfr : 1 ≤ R.frames) (W : Nat) (hW : (st.map fun v => v.category).sum ≤ W) (hlo : W + 12 ≤ R.locals) (k : ∀ T', Wk p l e R s m args below meth c Z a0 EL n0 y bytes maxL ret b T' h locs cells slots → Goes p.tables e below P (T'.setTop (mkF m pc' Ls st))) : Goes p.tables e below P (T.setTop (mkF m pc Ls (.ref a :: st))) := by
  subst hp
  obtain ⟨T', X', e', q⟩ := initO K.X K.hx K.hZ K.hown wl wi wc K.eT (g := mkF m pc Ls (.ref a :: st)) rfl (hsz.trans K.hml.symm) rfl (hb K.hby hd) hfr (W := W) (by show 2 * 0 + _ ≤ _; rw [Nat.mul_zero, Nat.zero_add]; exact hW) hlo
  exact go q (k T' (K.move X' e' K.fr K.old K.bs))
theorem k_ldcS (K : Wk p l e R s m args below meth c Z a0 EL n0 y bytes maxL ret b T h locs cells slots) {i : Nat} {text : String} {vs : List Value} {z : Int32} (wd : (Cond.stringLink y.cls i text).before a0 Z = true) (wS : ∀ a ∈ Bundle.stringAtoms, a.before a0 Z = true) (hmem : (y.cls, i) ∈ EL) (ht : (∀ c ∈ text.toList, c.toNat < 256) ∧ text.toList.map (fun c => Value.int (Jvm.Lit.byteI c.toNat.toUInt16)) = vs) (hz : ¬ z < 0) (hl : z.toNatClampNeg = vs.length) (n : Nat) (hn : 4 * text.toList.length ≤ n) (hbig : n ≤ 536870912) (hd : decode bytes pc = .ok (.ldc i, 2)) (hp : pc + 2 = pc') (hce : cells + 2 ≤ R.cells) (hsl : slots + (n + 4) ≤ R.slots) (k : ∀ b' T' h' a d kd, Wk p l e R s m args below meth c Z a0 EL n0 y bytes maxL ret b' T' h' locs (cells + 2) (slots + (n + 4)) → Ext h h' → (∀ x, x < h.size → Sfe Z EL b.vm h x → Sfe Z EL b'.vm h' x) → Exa Z h' a "java/lang/String" → Fld Z h' a "java/lang/String" "coder" "B" (.int 0) → Fld Z h' a "java/lang/String" "value" "[B" (.ref d) → Arv Z h' d kd .byte z vs (.int 0) → (∀ x, Sfe Z EL b'.vm h' x → x ≠ a ∧ x ≠ d) → Goes p.tables e below P (T'.setTop (mkF m pc' Ls (.ref a :: st)))) : Goes p.tables e below P (T.setTop (mkF m pc Ls st)) := by
  subst hp
  obtain ⟨⟨vm0, k0, eb, g1, g2⟩, g3, g4⟩ := K.bs
  subst eb
  obtain ⟨a, T', h', k1, d, kd, X', e', E', hS', hk1, hW, hf, A1, A2, A3, A4, -, -, hCr, -, hne, q⟩ := ldcCH K.X K.hx K.hZ K.hown wd wS K.eT g1 g2 g4 hmem g3.1 ht hz hl (g := mkF m pc Ls st) rfl (hb K.hby hd) hn hbig hce hsl
  exact go q (k (s.setVm T'.vm) T' h' a d kd ⟨X', e', K.fr, K.hx, hW, hf, K.hby, K.hml, K.hret, K.hlk, K.hnm, K.old.ext E', ⟨⟨T'.vm, k1, rfl, hS', hk1⟩, g3.trans hCr, g4⟩⟩ E' (fun x hx z => CHr.safe hCr hx z) A1 A2 A3 A4 hne)
theorem k_ldcO (K : Wk p l e R s m args below meth c Z a0 EL n0 y bytes maxL ret b T h locs cells slots) {i : Nat} {text : String} (wd : (Cond.stringLink y.cls i text).before a0 Z = true) (wS : ∀ a ∈ Bundle.stringAtoms, a.before a0 Z = true) (n : Nat) (hn : 4 * text.toList.length ≤ n) (hbig : n ≤ 536870912) (hd : decode bytes pc = .ok (.ldc i, 2)) (hp : pc + 2 = pc') (hce : cells + 2 ≤ R.cells) (hsl : slots + (n + 4) ≤ R.slots) (k : ∀ b' T' h' a, Wk p l e R s m args below meth c Z a0 EL n0 y bytes maxL ret b' T' h' locs (cells + 2) (slots + (n + 4)) → Ext h h' → (∀ x, x < h.size → Sfe Z EL b.vm h x → Sfe Z EL b'.vm h' x) → Goes p.tables e below P (T'.setTop (mkF m pc' Ls (.ref a :: st)))) : Goes p.tables e below P (T.setTop (mkF m pc Ls st)) := by
  subst hp
  obtain ⟨⟨vm0, k0, eb, g1, g2⟩, g3, g4⟩ := K.bs
  subst eb
  obtain ⟨a, T', h', k1, X', e', E', hS', hk1, hW, hf, hCr, -, q⟩ := ldcOH K.X K.hx K.hZ K.hown wd wS K.eT g1 g2 g4 g3.1 (g := mkF m pc Ls st) rfl (hb K.hby hd) hn hbig hce hsl
  exact go q (k (s.setVm T'.vm) T' h' a ⟨X', e', K.fr, K.hx, hW, hf, K.hby, K.hml, K.hret, K.hlk, K.hnm, K.old.ext E', ⟨⟨T'.vm, k1, rfl, hS', hk1⟩, g3.trans hCr, g4⟩⟩ E' (fun x hx z => CHr.safe hCr hx z))
end Own
abbrev Tb (a0 : Array Value) (Z : State) : Prop := ∀ d ∈ tables_1, d.before a0 Z = true
def EL0 : List (String × Nat) := consts_1
theorem own_n0 {Z : State} {n0 : Nat} {h : Heap} (O : Old Z n0 h) : n0 ≤ h.size := O.1 ▸ O.2.1
theorem own_ne {x a : Addr} {h : Heap} (q : x < h.size) (g : a = h.size) : x ≠ a := fun e => by rw [e, g] at q; exact Nat.lt_irrefl _ q
theorem own_ne2 {x a : Addr} {h : Heap} (q : x < h.size) (g : h.size ≤ a) : x ≠ a := Nat.ne_of_lt (Nat.lt_of_lt_of_le q g)
theorem own_old {Z : State} {n0 : Nat} {h : Heap} {a : Addr} (O : Old Z n0 h) (g : a = h.size) : n0 ≤ a := g ▸ own_n0 O
def Str (Z : State) (h : Heap) (a b : Addr) (k : ClassId) (cd z : Int32) (vs : List Value) : Prop := Exa Z h a "java/lang/String" ∧ Fld Z h a "java/lang/String" "coder" "B" (.int cd) ∧ Fld Z h a "java/lang/String" "value" "[B" (.ref b) ∧ Arv Z h b k .byte z vs (.int 0)
section StrFacts
variable {Z : State} {h h' : Heap} {a b x : Addr} {k : ClassId} {cd z : Int32} {vs : List Value} {sl : Nat} {v : Value} {ws : List Addr}
theorem Str.ext (S : Str Z h a b k cd z vs) (E : Ext h h') : Str Z h' a b k cd z vs := ⟨S.1.ext E, S.2.1.ext E, S.2.2.1.ext E, S.2.2.2.ext E⟩
theorem Str.keep (S : Str Z h a b k cd z vs) (K : Keep h h' ws) (q1 : a ∉ ws) (q2 : b ∉ ws) : Str Z h' a b k cd z vs := ⟨S.1.keep K, S.2.1.keep K q1, S.2.2.1.keep K q1, S.2.2.2.keep K q2⟩
theorem Str.other (S : Str Z h a b k cd z vs) (W : Wr h h' x sl v) (q1 : a ≠ x) (q2 : b ≠ x) : Str Z h' a b k cd z vs := ⟨S.1.wr W, S.2.1.other W (Or.inl q1), S.2.2.1.other W (Or.inl q1), S.2.2.2.other W q2⟩
theorem Str.lt (S : Str Z h a b k cd z vs) : a < h.size := S.1.lt
theorem Str.blt (S : Str Z h a b k cd z vs) : b < h.size := S.2.2.2.lt
end StrFacts
theorem own_i32 {a b : Int32} : a < b ↔ a.toInt < b.toInt := Int32.lt_iff_toInt_lt
theorem own_i32e {a b : Int32} (h : a.toInt = b.toInt) : a = b := Int32.toInt_inj.mp h
theorem own_0 : (0 : Int32).toInt = 0 := by decide
theorem own_1 : (1 : Int32).toInt = 1 := by decide
theorem own_255 : (255 : Int32).toInt = 255 := by decide
theorem own_add1 {i : Int32} {n : Nat} (h : i.toInt = n) (hn : n < 2147483647) : (i + 1).toInt = (n + 1 : Nat) := by
  rw [XT.add32 (by rw [h, own_1]; constructor <;> omega), h, own_1]; omega
theorem own_clamp {i : Int32} {n : Nat} (h : i.toInt = n) : i.toNatClampNeg = n := by rw [Int32.toNatClampNeg, h]; rfl
theorem own_in {i z : Int32} {n m : Nat} (h : i.toInt = n) (hz : z.toInt = m) (q : n < m) : ¬ i < 0 ∧ i < z := by
  rw [own_i32, own_i32, h, hz, own_0]; omega
def byteV (c : Int32) : Value := .int c.toInt8.toInt32
def preN : List Int32 → Nat
  | [] => 0
  | c :: t => if (255 : Int32) < c then 0 else preN t + 1
def fillL (cs : List Int32) (i : Nat) : List Value := (cs.take i).map byteV ++ List.replicate (cs.length - i) (.int 0)
theorem fillL_len (cs : List Int32) (i : Nat) (h : i ≤ cs.length) : (fillL cs i).length = cs.length := by simp [fillL]; omega
theorem fillL_zero (cs : List Int32) : fillL cs 0 = List.replicate cs.length (.int 0) := by simp [fillL]
theorem fillL_set (cs : List Int32) (i : Nat) (h : i < cs.length) : (fillL cs i).set i (byteV cs[i]) = fillL cs (i + 1) := by
  apply List.ext_getElem?
  intro j
  have e1 : (List.take i (List.map byteV cs)).length = i := by simp; omega
  simp only [fillL, List.getElem?_set, List.map_take, List.getElem?_append, List.length_take, List.length_map, List.getElem?_take, List.getElem?_map, List.getElem?_replicate, List.length_append, List.length_replicate]
  rcases Nat.lt_trichotomy j i with q | q | q
  · simp [show ¬ i = j by omega, show j < i by omega, show j < i + 1 by omega, show j < cs.length by omega, show i < cs.length by omega, Nat.min_eq_left (show i ≤ cs.length by omega), Nat.min_eq_left (show i + 1 ≤ cs.length by omega)]
  · subst q; simp [h, Nat.min_eq_left (show j ≤ cs.length by omega), Nat.min_eq_left (show j + 1 ≤ cs.length by omega)]; omega
  · simp [show ¬ i = j by omega, show ¬ j < i by omega, show ¬ j < i + 1 by omega, Nat.min_eq_left (show i ≤ cs.length by omega), Nat.min_eq_left (show i + 1 ≤ cs.length by omega), show ¬ j < i from by omega]
    congr 1
    apply propext; omega
theorem preN_le : ∀ cs : List Int32, preN cs ≤ cs.length
  | [] => Nat.le_refl _
  | c :: t => by unfold preN; split <;> simp; exact preN_le t
theorem preN_at : ∀ (cs : List Int32) (i : Nat) (h : i < cs.length), (∀ j (hj : j < i), ¬ (255 : Int32) < cs[j]) → (255 : Int32) < cs[i] → preN cs = i
  | c :: t, 0, h, _, q => by unfold preN; exact if_pos q
  | c :: t, i + 1, h, hl, q => by
    unfold preN
    have h0 : ¬ (255 : Int32) < c := hl 0 (by omega)
    rw [if_neg h0, preN_at t i (by simpa using h) (fun j hj => hl (j + 1) (by omega)) q]
theorem preN_all : ∀ (cs : List Int32), (∀ j (hj : j < cs.length), ¬ (255 : Int32) < cs[j]) → preN cs = cs.length
  | [], _ => rfl
  | c :: t, h => by
    have h0 : ¬ (255 : Int32) < c := h 0 (by simp)
    unfold preN; rw [if_neg h0, preN_all t fun j hj => h (j + 1) (by simpa using hj)]; rfl
theorem own_byte (c : Int32) : nar .byte c.toInt8.toInt32 = c.toInt8.toInt32 := by simp [nar]
theorem own_getD (cs : List Int32) (i : Nat) (h : i < cs.length) : (cs.map Value.int).getD i (.int 0) = .int cs[i] := by simp [List.getD_eq_getElem?_getD, h]
theorem fld_uniq {Z : State} {h : Heap} {a : Addr} {C n d : String} {v w : Value} (F : Fld Z h a C n d v) (G : Fld Z h a C n d w) : v = w := Classical.byContradiction fun q => F.ne G q rfl
theorem arv_uniq {Z : State} {h : Heap} {b : Addr} {k k' : ClassId} {ty ty' : FieldType} {z z' : Int32} {xs ys : List Int32} {dv dv' : Value} (F : Arv Z h b k ty z (xs.map Value.int) dv) (G : Arv Z h b k' ty' z' (ys.map Value.int) dv') (hz : z.toInt = xs.length) (hz' : z'.toInt = ys.length) : xs = ys := by
  obtain ⟨c, A, -, S, -, H, -⟩ := F
  obtain ⟨c', A', -, S', -, H', -⟩ := G
  cases A.1.symm.trans A'.1
  rw [own_clamp hz] at S
  rw [own_clamp hz'] at S'
  have hl : xs.length = ys.length := S.symm.trans S'
  apply List.ext_getElem hl
  intro i h1 h2
  have e1 := H i (by rw [S]; exact h1)
  have e2 := H' i (by rw [S]; exact h1)
  rw [e1] at e2
  simpa [List.getD_eq_getElem?_getD, h1, h2] using e2
theorem str_uniq {Z : State} {h : Heap} {a b b' : Addr} {k k' : ClassId} {cd cd' z z' : Int32} {xs ys : List Int32} (S : Str Z h a b k cd z (xs.map Value.int)) (S' : Str Z h a b' k' cd' z' (ys.map Value.int)) (hz : z.toInt = xs.length) (hz' : z'.toInt = ys.length) : xs = ys := by
  have e := fld_uniq S.2.2.1 S'.2.2.1
  cases e
  exact arv_uniq S.2.2.2 S'.2.2.2 hz hz'
theorem own_getI (xs : List Int32) (i : Nat) (h : i < xs.length) : (xs.map Value.int).getD i (.int 0) = .int xs[i] := by simp [List.getD_eq_getElem?_getD, h]
theorem d_jdk_43_method_13_code_0 : decode jdk_43_method_13_code 0 = .ok (.aload_n 0, 1) := by decide +kernel
theorem d_jdk_43_method_13_code_1 : decode jdk_43_method_13_code 1 = .ok (.arraylength, 1) := by decide +kernel
theorem d_jdk_43_method_13_code_2 : decode jdk_43_method_13_code 2 = .ok (.aload_n 1, 1) := by decide +kernel
theorem d_jdk_43_method_13_code_3 : decode jdk_43_method_13_code 3 = .ok (.arraylength, 1) := by decide +kernel
theorem d_jdk_43_method_13_code_4 : decode jdk_43_method_13_code 4 = .ok (.if_icmp .ne 30, 3) := by decide +kernel
theorem d_jdk_43_method_13_code_34 : decode jdk_43_method_13_code 34 = .ok (.iconst 0, 1) := by decide +kernel
theorem d_jdk_43_method_13_code_35 : decode jdk_43_method_13_code 35 = .ok (.ireturn, 1) := by decide +kernel
theorem d_jdk_43_method_13_code_7 : decode jdk_43_method_13_code 7 = .ok (.iconst 0, 1) := by decide +kernel
theorem d_jdk_43_method_13_code_8 : decode jdk_43_method_13_code 8 = .ok (.istore_n 2, 1) := by decide +kernel
theorem d_jdk_43_method_13_code_9 : decode jdk_43_method_13_code 9 = .ok (.iload_n 2, 1) := by decide +kernel
theorem d_jdk_43_method_13_code_10 : decode jdk_43_method_13_code 10 = .ok (.aload_n 0, 1) := by decide +kernel
theorem d_jdk_43_method_13_code_11 : decode jdk_43_method_13_code 11 = .ok (.arraylength, 1) := by decide +kernel
theorem d_jdk_43_method_13_code_12 : decode jdk_43_method_13_code 12 = .ok (.if_icmp .ge 20, 3) := by decide +kernel
theorem d_jdk_43_method_13_code_32 : decode jdk_43_method_13_code 32 = .ok (.iconst 1, 1) := by decide +kernel
theorem d_jdk_43_method_13_code_33 : decode jdk_43_method_13_code 33 = .ok (.ireturn, 1) := by decide +kernel
theorem d_jdk_43_method_13_code_15 : decode jdk_43_method_13_code 15 = .ok (.aload_n 0, 1) := by decide +kernel
theorem d_jdk_43_method_13_code_16 : decode jdk_43_method_13_code 16 = .ok (.iload_n 2, 1) := by decide +kernel
theorem d_jdk_43_method_13_code_17 : decode jdk_43_method_13_code 17 = .ok (.baload, 1) := by decide +kernel
theorem d_jdk_43_method_13_code_18 : decode jdk_43_method_13_code 18 = .ok (.aload_n 1, 1) := by decide +kernel
theorem d_jdk_43_method_13_code_19 : decode jdk_43_method_13_code 19 = .ok (.iload_n 2, 1) := by decide +kernel
theorem d_jdk_43_method_13_code_20 : decode jdk_43_method_13_code 20 = .ok (.baload, 1) := by decide +kernel
theorem d_jdk_43_method_13_code_21 : decode jdk_43_method_13_code 21 = .ok (.if_icmp .eq 5, 3) := by decide +kernel
theorem d_jdk_43_method_13_code_26 : decode jdk_43_method_13_code 26 = .ok (.iinc 2 1, 3) := by decide +kernel
theorem d_jdk_43_method_13_code_29 : decode jdk_43_method_13_code 29 = .ok (.goto (-20), 3) := by decide +kernel
theorem d_jdk_43_method_13_code_24 : decode jdk_43_method_13_code 24 = .ok (.iconst 0, 1) := by decide +kernel
theorem d_jdk_43_method_13_code_25 : decode jdk_43_method_13_code 25 = .ok (.ireturn, 1) := by decide +kernel
theorem pl_java_lang_StringLatin1 : plainName "java/lang/StringLatin1" = true := by first | (simp [plainName, overriddenIn]; done) | decide +kernel
set_option maxRecDepth 65536 in
set_option maxHeartbeats 40000000 in
theorem c_l1equals (l : Launch) (Z : State) (a0 : Array Value) (hw : Tb a0 Z) (hEW : EW Z a0 EL0) (n0 : Nat) (u v : Addr) (ku kv : ClassId) (zu zv : Int32) (xs ys : List Int32) (h0 : Heap) (O : Old Z n0 h0) (hu : zu.toInt = xs.length) (hv : zv.toInt = ys.length) (hb : xs.length ≤ 4000) (V_u : Arv Z h0 u ku .byte zu (xs.map Value.int) (.int 0)) (V_v : Arv Z h0 v kv .byte zv (ys.map Value.int) (.int 0)) :
    Ct l Z EL0 n0 (⟨"java/lang/StringLatin1", "equals", "([B[B)Z"⟩ : MethodName) jdk_43_method_13_code 3 (some .boolean) ({ frames := 0, cells := 0, slots := 0, locals := 0 } : Room) #[(.ref u), (.ref v)] h0 [] (Pu (some (.int (if xs = ys then 1 else 0))) h0) := by
  refine Ct.of (a0 := a0) #[.val (.ref u), .val (.ref v), .unset] hEW O (plainFor_of_name pl_java_lang_StringLatin1) (fun m => by first | (simp [entryFrame, mkF, argsToLocals, Value.category]; done) | rfl) ?_
  intro p_ e_ s_ m_ below_ meth_ c_ b_ T_ K hSP
  refine k_aloadN K d_jdk_43_method_13_code_0 (pc' := 1) rfl rfl rfl ?_
  refine k_len K V_u d_jdk_43_method_13_code_1 (pc' := 2) rfl ?_
  refine k_aloadN K d_jdk_43_method_13_code_2 (pc' := 3) rfl rfl rfl ?_
  refine k_len K V_v d_jdk_43_method_13_code_3 (pc' := 4) rfl ?_
  refine k_icmp_ne K d_jdk_43_method_13_code_4 (by decide) (pc' := 34) (pc2 := 7) (by decide) rfl (fun hc4 => ?_) (fun hc4 => ?_)
  · refine k_iconst K (0 : Int32) d_jdk_43_method_13_code_34 (pc' := 35) rfl rfl ?_
    exact k_nret K d_jdk_43_method_13_code_35 rfl (by simp) rfl (fun sf ht => ⟨by rw [if_neg fun q => hc4 (own_i32e (by rw [hu, hv, q]))], rfl⟩) (by decide) (by decide)
  · have hlen : xs.length = ys.length := by have q := congrArg Int32.toInt hc4; rw [hu, hv] at q; omega
    refine k_iconst K (0 : Int32) d_jdk_43_method_13_code_7 (pc' := 8) rfl rfl ?_
    refine k_istoreN K d_jdk_43_method_13_code_8 (pc' := 9) (L' := #[.val (.ref u), .val (.ref v), .val (.int (0 : Int32))]) rfl rfl ?_
    have LOOP : ∀ (k : Nat) (i : Int32) (j : Nat) (hj : i.toInt = j) (hk : j + k = xs.length) (hs : ∀ x (hx : x < j), xs[x] = ys[x]) (bl Tl : State) (hl : Heap) (Ll : List Loc), Wk p_ l e_ ({ frames := 0, cells := 0, slots := 0, locals := 0 } : Room) s_ m_ #[(.ref u), (.ref v)] below_ meth_ c_ Z a0 EL0 n0 (⟨"java/lang/StringLatin1", "equals", "([B[B)Z"⟩ : MethodName) jdk_43_method_13_code 3 (some .boolean) bl Tl hl Ll 0 0 → (hl = h0) → Goes p_.tables e_ below_ (FinW Z EL0 s_ n0 ({ frames := 0, cells := 0, slots := 0, locals := 0 } : Room) (Pu (some (.int (if xs = ys then 1 else 0))) h0)) (Tl.setTop (mkF m_ 9 #[.val (.ref u), .val (.ref v), .val (.int i)] [])) := by
      intro k
      induction k with
      | zero =>
        intro i j hj hk hs bl Tl hl Ll Kl ehl
        subst ehl
        refine k_iloadN Kl d_jdk_43_method_13_code_9 (pc' := 10) rfl rfl ?_
        refine k_aloadN Kl d_jdk_43_method_13_code_10 (pc' := 11) rfl rfl rfl ?_
        refine k_len Kl V_u d_jdk_43_method_13_code_11 (pc' := 12) rfl ?_
        refine k_icmp_ge Kl d_jdk_43_method_13_code_12 (by decide) (pc' := 32) (pc2 := 15) (by decide) rfl (fun hc12 => ?_) (fun q => absurd q (by rw [own_i32, hj, hu]; omega))
        refine k_iconst Kl (1 : Int32) d_jdk_43_method_13_code_32 (pc' := 33) rfl rfl ?_
        exact k_nret Kl d_jdk_43_method_13_code_33 rfl (by simp) rfl (fun sf ht => ⟨by rw [if_pos (List.ext_getElem hlen fun x h1 h2 => hs x (by omega))], rfl⟩) (by decide) (by decide)
      | succ k ih =>
        intro i j hj hk hs bl Tl hl Ll Kl ehl
        subst ehl
        have hjl : j < xs.length := by omega
        refine k_iloadN Kl d_jdk_43_method_13_code_9 (pc' := 10) rfl rfl ?_
        refine k_aloadN Kl d_jdk_43_method_13_code_10 (pc' := 11) rfl rfl rfl ?_
        refine k_len Kl V_u d_jdk_43_method_13_code_11 (pc' := 12) rfl ?_
        refine k_icmp_ge Kl d_jdk_43_method_13_code_12 (by decide) (pc' := 32) (pc2 := 15) (by decide) rfl (fun q => absurd (by rw [own_i32, hj, hu]; omega) q) (fun hc12 => ?_)
        refine k_aloadN Kl d_jdk_43_method_13_code_15 (pc' := 16) rfl rfl rfl ?_
        refine k_iloadN Kl d_jdk_43_method_13_code_16 (pc' := 17) rfl rfl ?_
        refine k_baload Kl (j := i) V_u (own_in hj hu hjl) (by rw [own_clamp hj]; exact own_getI xs j hjl) d_jdk_43_method_13_code_17 (pc' := 18) rfl ?_
        refine k_aloadN Kl d_jdk_43_method_13_code_18 (pc' := 19) rfl rfl rfl ?_
        refine k_iloadN Kl d_jdk_43_method_13_code_19 (pc' := 20) rfl rfl ?_
        refine k_baload Kl (j := i) V_v (own_in hj hv (by omega)) (by rw [own_clamp hj]; exact own_getI ys j (by omega)) d_jdk_43_method_13_code_20 (pc' := 21) rfl ?_
        refine k_icmp_eq Kl d_jdk_43_method_13_code_21 (by decide) (pc' := 26) (pc2 := 24) (by decide) rfl (fun hc21 => ?_) (fun hc21 => ?_)
        · refine k_iinc Kl (1 : Int32) d_jdk_43_method_13_code_26 (pc' := 29) (L' := #[.val (.ref u), .val (.ref v), .val (.int (i + (1 : Int32)))]) rfl rfl rfl rfl ?_
          refine k_goto Kl d_jdk_43_method_13_code_29 (by decide) (pc' := 9) (by decide) ?_
          exact ih (i + 1) (j + 1) (own_add1 hj (by omega)) (by omega) (fun x hx => by
            rcases Nat.lt_or_ge x j with q | q
            · exact hs x q
            · have e1 : x = j := by omega
              subst e1; exact hc21) _ _ _ _ Kl rfl
        · refine k_iconst Kl (0 : Int32) d_jdk_43_method_13_code_24 (pc' := 25) rfl rfl ?_
          exact k_nret Kl d_jdk_43_method_13_code_25 rfl (by simp) rfl (fun sf ht => ⟨by rw [if_neg fun q => hc21 (by simp only [q])], rfl⟩) (by decide) (by decide)
    exact LOOP xs.length (0 : Int32) 0 rfl (by omega) (fun x hx => absurd hx (Nat.not_lt_zero _)) _ _ _ _ K rfl
theorem d_jdk_42_method_66_code_0 : decode jdk_42_method_66_code 0 = .ok (.aload_n 0, 1) := by decide +kernel
theorem d_jdk_42_method_66_code_1 : decode jdk_42_method_66_code 1 = .ok (.aload_n 1, 1) := by decide +kernel
theorem d_jdk_42_method_66_code_2 : decode jdk_42_method_66_code 2 = .ok (.if_acmp .ne 5, 3) := by decide +kernel
theorem d_jdk_42_method_66_code_5 : decode jdk_42_method_66_code 5 = .ok (.iconst 1, 1) := by decide +kernel
theorem d_jdk_42_method_66_code_6 : decode jdk_42_method_66_code 6 = .ok (.ireturn, 1) := by decide +kernel
theorem d_jdk_42_method_66_code_7 : decode jdk_42_method_66_code 7 = .ok (.aload_n 1, 1) := by decide +kernel
theorem d_jdk_42_method_66_code_8 : decode jdk_42_method_66_code 8 = .ok (.instanceof 10, 3) := by decide +kernel
theorem w125 {Z : State} {a0 : Array Value} (hw : Tb a0 Z) : (Jvm.Cond.classLink "java/lang/String" (10 : Nat) "java/lang/String").before a0 Z = true := hw _ (List.mem_of_getElem? (i := 125) rfl)
theorem d_jdk_42_method_66_code_11 : decode jdk_42_method_66_code 11 = .ok (.ifCond .eq 43, 3) := by decide +kernel
theorem d_jdk_42_method_66_code_14 : decode jdk_42_method_66_code 14 = .ok (.aload_n 1, 1) := by decide +kernel
theorem d_jdk_42_method_66_code_15 : decode jdk_42_method_66_code 15 = .ok (.checkcast 10, 3) := by decide +kernel
theorem d_jdk_42_method_66_code_18 : decode jdk_42_method_66_code 18 = .ok (.astore_n 2, 1) := by decide +kernel
theorem d_jdk_42_method_66_code_19 : decode jdk_42_method_66_code 19 = .ok (.getstatic 38, 3) := by decide +kernel
theorem w126 {Z : State} {a0 : Array Value} (hw : Tb a0 Z) : (Jvm.Cond.fieldLink "java/lang/String" (38 : Nat) "java/lang/String" "COMPACT_STRINGS" "Z").before a0 Z = true := hw _ (List.mem_of_getElem? (i := 126) rfl)
theorem d_jdk_42_method_66_code_22 : decode jdk_42_method_66_code 22 = .ok (.ifCond .eq 14, 3) := by decide +kernel
theorem d_jdk_42_method_66_code_25 : decode jdk_42_method_66_code 25 = .ok (.aload_n 0, 1) := by decide +kernel
theorem d_jdk_42_method_66_code_26 : decode jdk_42_method_66_code 26 = .ok (.getfield 15, 3) := by decide +kernel
theorem w127 {Z : State} {a0 : Array Value} (hw : Tb a0 Z) : (Jvm.Cond.fieldLink "java/lang/String" (15 : Nat) "java/lang/String" "coder" "B").before a0 Z = true := hw _ (List.mem_of_getElem? (i := 127) rfl)
theorem d_jdk_42_method_66_code_29 : decode jdk_42_method_66_code 29 = .ok (.aload_n 2, 1) := by decide +kernel
theorem d_jdk_42_method_66_code_30 : decode jdk_42_method_66_code 30 = .ok (.getfield 15, 3) := by decide +kernel
theorem d_jdk_42_method_66_code_33 : decode jdk_42_method_66_code 33 = .ok (.if_icmp .ne 21, 3) := by decide +kernel
theorem d_jdk_42_method_66_code_36 : decode jdk_42_method_66_code 36 = .ok (.aload_n 0, 1) := by decide +kernel
theorem d_jdk_42_method_66_code_37 : decode jdk_42_method_66_code 37 = .ok (.getfield 9, 3) := by decide +kernel
theorem w128 {Z : State} {a0 : Array Value} (hw : Tb a0 Z) : (Jvm.Cond.fieldLink "java/lang/String" (9 : Nat) "java/lang/String" "value" "[B").before a0 Z = true := hw _ (List.mem_of_getElem? (i := 128) rfl)
theorem d_jdk_42_method_66_code_40 : decode jdk_42_method_66_code 40 = .ok (.aload_n 2, 1) := by decide +kernel
theorem d_jdk_42_method_66_code_41 : decode jdk_42_method_66_code 41 = .ok (.getfield 9, 3) := by decide +kernel
theorem d_jdk_42_method_66_code_44 : decode jdk_42_method_66_code 44 = .ok (.invokestatic 541, 3) := by decide +kernel
theorem w129 {Z : State} {a0 : Array Value} (hw : Tb a0 Z) : (Jvm.Cond.methodLink "java/lang/String" (541 : Nat) ({ cls := "java/lang/StringLatin1", name := "equals", desc := "([B[B)Z" } : Jvm.MethodName)).before a0 Z = true := hw _ (List.mem_of_getElem? (i := 129) rfl)
theorem w131 {Z : State} {a0 : Array Value} (hw : Tb a0 Z) : (Jvm.Cond.initialized "java/lang/StringLatin1").before a0 Z = true := hw _ (List.mem_of_getElem? (i := 131) rfl)
theorem w132 {Z : State} {a0 : Array Value} (hw : Tb a0 Z) : (Jvm.Cond.code ({ cls := "java/lang/StringLatin1", name := "equals", desc := "([B[B)Z" } : Jvm.MethodName) jdk_43_method_13_code (3 : Nat) (Option.some Jvm.ClassFile.FieldType.boolean)).before a0 Z = true := hw _ (List.mem_of_getElem? (i := 132) rfl)
theorem w130 {Z : State} {a0 : Array Value} (hw : Tb a0 Z) : (Jvm.Cond.static ({ cls := "java/lang/StringLatin1", name := "equals", desc := "([B[B)Z" } : Jvm.MethodName)).before a0 Z = true := hw _ (List.mem_of_getElem? (i := 130) rfl)
theorem pd___B_B_Z_1990 : parseMethodDescriptor "([B[B)Z" = some ⟨[(.array .byte), (.array .byte)], some .boolean⟩ := by decide +kernel
theorem d_jdk_42_method_66_code_47 : decode jdk_42_method_66_code 47 = .ok (.ifCond .eq 7, 3) := by decide +kernel
theorem d_jdk_42_method_66_code_54 : decode jdk_42_method_66_code 54 = .ok (.iconst 0, 1) := by decide +kernel
theorem d_jdk_42_method_66_code_55 : decode jdk_42_method_66_code 55 = .ok (.ireturn, 1) := by decide +kernel
theorem d_jdk_42_method_66_code_50 : decode jdk_42_method_66_code 50 = .ok (.iconst 1, 1) := by decide +kernel
theorem d_jdk_42_method_66_code_51 : decode jdk_42_method_66_code 51 = .ok (.goto 4, 3) := by decide +kernel
theorem pl_java_lang_String : plainName "java/lang/String" = true := by first | (simp [plainName, overriddenIn]; done) | decide +kernel
set_option maxRecDepth 65536 in
set_option maxHeartbeats 40000000 in
theorem c_equals (l : Launch) (Z : State) (a0 : Array Value) (hw : Tb a0 Z) (hEW : EW Z a0 EL0) (n0 : Nat) (a a' : Addr) (b b' : Addr) (k k' : ClassId) (z z' : Int32) (xs ys : List Int32) (cs0 : Int32) (h0 : Heap) (O : Old Z n0 h0) (hz : z.toInt = xs.length) (hz' : z'.toInt = ys.length) (hb : xs.length ≤ 4000) (S : Str Z h0 a b k 0 z (xs.map Value.int)) (S' : Str Z h0 a' b' k' 0 z' (ys.map Value.int)) (SC : Sta Z Z.heap "java/lang/String" "COMPACT_STRINGS" "Z" (.int cs0)) (hcs : ¬ cs0 = 0) :
    Ct l Z EL0 n0 (⟨"java/lang/String", "equals", "(Ljava/lang/Object;)Z"⟩ : MethodName) jdk_42_method_66_code 3 (some .boolean) ({ frames := 1, cells := 0, slots := 0, locals := 14 } : Room) #[(.ref a), (.ref a')] h0 [] (Pu (some (.int (if xs = ys then 1 else 0))) h0) := by
  refine Ct.of (a0 := a0) #[.val (.ref a), .val (.ref a'), .unset] hEW O (plainFor_of_name pl_java_lang_String) (fun m => by first | (simp [entryFrame, mkF, argsToLocals, Value.category]; done) | rfl) ?_
  intro p_ e_ s_ m_ below_ meth_ c_ b_ T_ K hSP
  refine k_aloadN K d_jdk_42_method_66_code_0 (pc' := 1) rfl rfl rfl ?_
  refine k_aloadN K d_jdk_42_method_66_code_1 (pc' := 2) rfl rfl rfl ?_
  refine k_acmp_ne K rfl rfl d_jdk_42_method_66_code_2 (by decide) (pc' := 7) (pc2 := 5) (by decide) rfl (fun hc2 => ?_) (fun hc2 => ?_)
  · refine k_iconst K (1 : Int32) d_jdk_42_method_66_code_5 (pc' := 6) rfl rfl ?_
    have e1 : a = a' := Value.ref.inj hc2
    subst e1
    exact k_nret K d_jdk_42_method_66_code_6 rfl (by simp) rfl (fun sf ht => ⟨by rw [if_pos (str_uniq S S' hz hz')], rfl⟩) (by decide) (by decide)
  · refine k_aloadN K d_jdk_42_method_66_code_7 (pc' := 8) rfl rfl rfl ?_
    refine k_instY K (w125 hw) (Ins.self S'.1) d_jdk_42_method_66_code_8 (pc' := 11) rfl ?_
    intro T2 K2
    refine k_if_eq K2 d_jdk_42_method_66_code_11 (by decide) (pc' := 54) (pc2 := 14) (by decide) rfl (fun q => absurd q (by decide)) (fun hc11 => ?_)
    refine k_aloadN K2 d_jdk_42_method_66_code_14 (pc' := 15) rfl rfl rfl ?_
    refine k_castY K2 (w125 hw) (Ins.self S'.1) d_jdk_42_method_66_code_15 (pc' := 18) rfl ?_
    intro T3 K3
    refine k_astoreN K3 d_jdk_42_method_66_code_18 (pc' := 19) (L' := #[.val (.ref a), .val (.ref a'), .val (.ref a')]) rfl rfl rfl ?_
    refine k_getS K3 (w126 hw) Via.refl SC d_jdk_42_method_66_code_19 (pc' := 22) rfl ?_
    intro T4 K4
    refine k_if_eq K4 d_jdk_42_method_66_code_22 (by decide) (pc' := 36) (pc2 := 25) (by decide) rfl (fun q => absurd q hcs) (fun hc22 => ?_)
    refine k_aloadN K4 d_jdk_42_method_66_code_25 (pc' := 26) rfl rfl rfl ?_
    refine k_getF K4 (w127 hw) Via.refl S.2.1 d_jdk_42_method_66_code_26 (pc' := 29) rfl ?_
    intro T5 K5
    refine k_aloadN K5 d_jdk_42_method_66_code_29 (pc' := 30) rfl rfl rfl ?_
    refine k_getF K5 (w127 hw) Via.refl S'.2.1 d_jdk_42_method_66_code_30 (pc' := 33) rfl ?_
    intro T6 K6
    refine k_icmp_ne K6 d_jdk_42_method_66_code_33 (by decide) (pc' := 54) (pc2 := 36) (by decide) rfl (fun q => absurd (by decide) q) (fun hc33 => ?_)
    refine k_aloadN K6 d_jdk_42_method_66_code_36 (pc' := 37) rfl rfl rfl ?_
    refine k_getF K6 (w128 hw) Via.refl S.2.2.1 d_jdk_42_method_66_code_37 (pc' := 40) rfl ?_
    intro T7 K7
    refine k_aloadN K7 d_jdk_42_method_66_code_40 (pc' := 41) rfl rfl rfl ?_
    refine k_getF K7 (w128 hw) Via.refl S'.2.2.1 d_jdk_42_method_66_code_41 (pc' := 44) rfl ?_
    intro T8 K8
    refine k_staticP K8 [(.ref b), (.ref b')] [] 0 (w129 hw) (w130 hw) (w131 hw) (w132 hw) (by decide) pd___B_B_Z_1990 (c_l1equals l Z a0 hw hEW n0 b b' k k' z z' xs ys h0 K8.old hz hz' hb S.2.2.2 S'.2.2.2) d_jdk_42_method_66_code_44 nofun (pc' := 47) rfl rfl rfl rfl (Nat.le_of_eq rfl) (by decide) (by decide) (by decide) (by decide) ?_
    intro b9 T9 L9 K9 tr9
    show Goes p_.tables e_ below_ _ (T9.setTop (mkF m_ 47 #[.val (.ref a), .val (.ref a'), .val (.ref a')] [(.int (if xs = ys then 1 else 0))]))
    refine k_if_eq K9 d_jdk_42_method_66_code_47 (by decide) (pc' := 54) (pc2 := 50) (by decide) rfl (fun hc47 => ?_) (fun hc47 => ?_)
    · refine k_iconst K9 (0 : Int32) d_jdk_42_method_66_code_54 (pc' := 55) rfl rfl ?_
      have q1 : ¬ xs = ys := fun q => by rw [if_pos q] at hc47; exact absurd hc47 (by decide)
      exact k_nret K9 d_jdk_42_method_66_code_55 rfl (by simp) rfl (fun sf ht => ⟨by rw [if_neg q1], rfl⟩) (by decide) (by decide)
    · refine k_iconst K9 (1 : Int32) d_jdk_42_method_66_code_50 (pc' := 51) rfl rfl ?_
      refine k_goto K9 d_jdk_42_method_66_code_51 (by decide) (pc' := 55) (by decide) ?_
      have q1 : xs = ys := Classical.byContradiction fun q => hc47 (if_neg q)
      exact k_nret K9 d_jdk_42_method_66_code_55 rfl (by simp) rfl (fun sf ht => ⟨by rw [if_pos q1], rfl⟩) (by decide) (by decide)
theorem d_jdk_29_method_65_code_0 : decode jdk_29_method_65_code 0 = .ok (.iload_n 0, 1) := by decide +kernel
theorem d_jdk_29_method_65_code_1 : decode jdk_29_method_65_code 1 = .ok (.iload_n 1, 1) := by decide +kernel
theorem d_jdk_29_method_65_code_2 : decode jdk_29_method_65_code 2 = .ok (.if_icmp .lt 7, 3) := by decide +kernel
theorem d_jdk_29_method_65_code_9 : decode jdk_29_method_65_code 9 = .ok (.iload_n 1, 1) := by decide +kernel
theorem d_jdk_29_method_65_code_10 : decode jdk_29_method_65_code 10 = .ok (.ireturn, 1) := by decide +kernel
theorem d_jdk_29_method_65_code_5 : decode jdk_29_method_65_code 5 = .ok (.iload_n 0, 1) := by decide +kernel
theorem d_jdk_29_method_65_code_6 : decode jdk_29_method_65_code 6 = .ok (.goto 4, 3) := by decide +kernel
set_option maxRecDepth 65536 in
set_option maxHeartbeats 40000000 in
theorem c_max (l : Launch) (Z : State) (a0 : Array Value) (hw : Tb a0 Z) (hEW : EW Z a0 EL0) (n0 : Nat) (i j : Int32) (h0 : Heap) (O : Old Z n0 h0)  :
    Ct l Z EL0 n0 (⟨"java/lang/Math", "max", "(II)I"⟩ : MethodName) jdk_29_method_65_code 2 (some .int) ({ frames := 0, cells := 0, slots := 0, locals := 0 } : Room) #[(.int i), (.int j)] h0 [] (Pu (some (.int (if i < j then j else i))) h0) := by
  refine Ct.of (a0 := a0) #[.val (.int i), .val (.int j)] hEW O (Jvm.Free.JP.mathPlain rfl (by decide +kernel)) (fun m => by first | (simp [entryFrame, mkF, argsToLocals, Value.category]; done) | rfl) ?_
  intro p_ e_ s_ m_ below_ meth_ c_ b_ T_ K hSP
  refine k_iloadN K d_jdk_29_method_65_code_0 (pc' := 1) rfl rfl ?_
  refine k_iloadN K d_jdk_29_method_65_code_1 (pc' := 2) rfl rfl ?_
  refine k_icmp_lt K d_jdk_29_method_65_code_2 (by decide) (pc' := 9) (pc2 := 5) (by decide) rfl (fun hc2 => ?_) (fun hc2 => ?_)
  · refine k_iloadN K d_jdk_29_method_65_code_9 (pc' := 10) rfl rfl ?_
    exact k_iret K d_jdk_29_method_65_code_10 rfl (fun sf ht => ⟨by rw [if_pos hc2], rfl⟩) (by decide) (by decide)
  · refine k_iloadN K d_jdk_29_method_65_code_5 (pc' := 6) rfl rfl ?_
    refine k_goto K d_jdk_29_method_65_code_6 (by decide) (pc' := 10) (by decide) ?_
    exact k_iret K d_jdk_29_method_65_code_10 rfl (fun sf ht => ⟨by rw [if_neg hc2], rfl⟩) (by decide) (by decide)
theorem d_prog_5_method_4_code_0 : decode prog_5_method_4_code 0 = .ok (.aload_n 0, 1) := by decide +kernel
theorem d_prog_5_method_4_code_1 : decode prog_5_method_4_code 1 = .ok (.getfield 29, 3) := by decide +kernel
theorem w47 {Z : State} {a0 : Array Value} (hw : Tb a0 Z) : (Jvm.Cond.fieldLink "com/example/halfpower/halfpower/certificate/Language" (29 : Nat) "com/example/halfpower/halfpower/certificate/Language" "code" "Ljava/lang/String;").before a0 Z = true := hw _ (List.mem_of_getElem? (i := 47) rfl)
theorem d_prog_5_method_4_code_4 : decode prog_5_method_4_code 4 = .ok (.areturn, 1) := by decide +kernel
theorem pl_com_example_halfpower_halfpower_certificate_Language : plainName "com/example/halfpower/halfpower/certificate/Language" = true := by first | (simp [plainName, overriddenIn]; done) | decide +kernel
set_option maxRecDepth 65536 in
set_option maxHeartbeats 40000000 in
theorem c_code (l : Launch) (Z : State) (a0 : Array Value) (hw : Tb a0 Z) (hEW : EW Z a0 EL0) (n0 : Nat) (a v : Addr) (h0 : Heap) (O : Old Z n0 h0) (F : Fld Z h0 a "com/example/halfpower/halfpower/certificate/Language" "code" "Ljava/lang/String;" (.ref v)) :
    Ct l Z EL0 n0 (⟨"com/example/halfpower/halfpower/certificate/Language", "code", "()Ljava/lang/String;"⟩ : MethodName) prog_5_method_4_code 1 (some (.object "java/lang/String")) ({ frames := 0, cells := 0, slots := 0, locals := 0 } : Room) #[(.ref a)] h0 [] (Pu (some (.ref v)) h0) := by
  refine Ct.of (a0 := a0) #[.val (.ref a)] hEW O (plainFor_of_name pl_com_example_halfpower_halfpower_certificate_Language) (fun m => by first | (simp [entryFrame, mkF, argsToLocals, Value.category]; done) | rfl) ?_
  intro p_ e_ s_ m_ below_ meth_ c_ b_ T_ K hSP
  refine k_aloadN K d_prog_5_method_4_code_0 (pc' := 1) rfl rfl rfl ?_
  refine k_getF K (w47 hw) Via.refl F d_prog_5_method_4_code_1 (pc' := 4) rfl ?_
  intro T10 K10
  exact k_aret K10 d_prog_5_method_4_code_4 rfl rfl rfl (fun sf ht => ⟨rfl, rfl⟩) (by decide) (by decide)
theorem d_jdk_22_method_1_code_0 : decode jdk_22_method_1_code 0 = .ok (.aload_n 0, 1) := by decide +kernel
theorem d_jdk_22_method_1_code_1 : decode jdk_22_method_1_code 1 = .ok (.invokespecial 1, 3) := by decide +kernel
theorem w22 {Z : State} {a0 : Array Value} (hw : Tb a0 Z) : (Jvm.Cond.methodLink "java/util/AbstractCollection" (1 : Nat) ({ cls := "java/lang/Object", name := "<init>", desc := "()V" } : Jvm.MethodName)).before a0 Z = true := hw _ (List.mem_of_getElem? (i := 22) rfl)
theorem w23 {Z : State} {a0 : Array Value} (hw : Tb a0 Z) : (Jvm.Cond.instanceMethod ({ cls := "java/lang/Object", name := "<init>", desc := "()V" } : Jvm.MethodName)).before a0 Z = true := hw _ (List.mem_of_getElem? (i := 23) rfl)
theorem w24 {Z : State} {a0 : Array Value} (hw : Tb a0 Z) : (Jvm.Cond.code ({ cls := "java/lang/Object", name := "<init>", desc := "()V" } : Jvm.MethodName) object_method_1_code (1 : Nat) (Option.none : Option Jvm.ClassFile.FieldType)).before a0 Z = true := hw _ (List.mem_of_getElem? (i := 24) rfl)
theorem d_jdk_22_method_1_code_4 : decode jdk_22_method_1_code 4 = .ok (.return_, 1) := by decide +kernel
theorem pl_java_util_AbstractCollection : plainName "java/util/AbstractCollection" = true := by first | (simp [plainName, overriddenIn]; done) | decide +kernel
set_option maxRecDepth 65536 in
set_option maxHeartbeats 40000000 in
theorem c_acInit (l : Launch) (Z : State) (a0 : Array Value) (hw : Tb a0 Z) (hEW : EW Z a0 EL0) (n0 : Nat) (a : Addr) (h0 : Heap) (O : Old Z n0 h0)  :
    Ct l Z EL0 n0 (⟨"java/util/AbstractCollection", "<init>", "()V"⟩ : MethodName) jdk_22_method_1_code 1 none ({ frames := 1, cells := 0, slots := 0, locals := 12 } : Room) #[(.ref a)] h0 [] (Pu none h0) := by
  refine Ct.of (a0 := a0) #[.val (.ref a)] hEW O (plainFor_of_name pl_java_util_AbstractCollection) (fun m => by first | (simp [entryFrame, mkF, argsToLocals, Value.category]; done) | rfl) ?_
  intro p_ e_ s_ m_ below_ meth_ c_ b_ T_ K hSP
  refine k_aloadN K d_jdk_22_method_1_code_0 (pc' := 1) rfl rfl rfl ?_
  refine k_initO K (w22 hw) (w23 hw) (w24 hw) d_jdk_22_method_1_code_1 (pc' := 4) rfl rfl (by decide) 0 (Nat.le_of_eq rfl) (by decide) ?_
  intro T11 K11
  exact k_return K11 d_jdk_22_method_1_code_4 rfl (fun sf ht => ⟨rfl, rfl⟩) (by decide) (by decide)
theorem d_jdk_39_method_1_code_0 : decode jdk_39_method_1_code 0 = .ok (.aload_n 0, 1) := by decide +kernel
theorem d_jdk_39_method_1_code_1 : decode jdk_39_method_1_code 1 = .ok (.invokespecial 1, 3) := by decide +kernel
theorem w16 {Z : State} {a0 : Array Value} (hw : Tb a0 Z) : (Jvm.Cond.methodLink "java/util/AbstractList" (1 : Nat) ({ cls := "java/util/AbstractCollection", name := "<init>", desc := "()V" } : Jvm.MethodName)).before a0 Z = true := hw _ (List.mem_of_getElem? (i := 16) rfl)
theorem w20 {Z : State} {a0 : Array Value} (hw : Tb a0 Z) : (Jvm.Cond.initialized "java/util/AbstractCollection").before a0 Z = true := hw _ (List.mem_of_getElem? (i := 20) rfl)
theorem w21 {Z : State} {a0 : Array Value} (hw : Tb a0 Z) : (Jvm.Cond.code ({ cls := "java/util/AbstractCollection", name := "<init>", desc := "()V" } : Jvm.MethodName) jdk_22_method_1_code (1 : Nat) (Option.none : Option Jvm.ClassFile.FieldType)).before a0 Z = true := hw _ (List.mem_of_getElem? (i := 21) rfl)
theorem w17 {Z : State} {a0 : Array Value} (hw : Tb a0 Z) : (Jvm.Cond.instanceMethod ({ cls := "java/util/AbstractCollection", name := "<init>", desc := "()V" } : Jvm.MethodName)).before a0 Z = true := hw _ (List.mem_of_getElem? (i := 17) rfl)
theorem pd___V_380 : parseMethodDescriptor "()V" = some ⟨[], none⟩ := by decide +kernel
theorem d_jdk_39_method_1_code_4 : decode jdk_39_method_1_code 4 = .ok (.aload_n 0, 1) := by decide +kernel
theorem d_jdk_39_method_1_code_5 : decode jdk_39_method_1_code 5 = .ok (.iconst 0, 1) := by decide +kernel
theorem d_jdk_39_method_1_code_6 : decode jdk_39_method_1_code 6 = .ok (.putfield 7, 3) := by decide +kernel
theorem w25 {Z : State} {a0 : Array Value} (hw : Tb a0 Z) : (Jvm.Cond.fieldLink "java/util/AbstractList" (7 : Nat) "java/util/AbstractList" "modCount" "I").before a0 Z = true := hw _ (List.mem_of_getElem? (i := 25) rfl)
theorem w26 {Z : State} {a0 : Array Value} (hw : Tb a0 Z) : (Jvm.Cond.lays "java/util/ArrayList" "java/util/AbstractList" "modCount" "I").before a0 Z = true := hw _ (List.mem_of_getElem? (i := 26) rfl)
theorem w5 {Z : State} {a0 : Array Value} (hw : Tb a0 Z) : (Jvm.Cond.instantiable "java/util/ArrayList" (3 : Nat)).before a0 Z = true := hw _ (List.mem_of_getElem? (i := 5) rfl)
theorem d_jdk_39_method_1_code_9 : decode jdk_39_method_1_code 9 = .ok (.return_, 1) := by decide +kernel
theorem pl_java_util_AbstractList : plainName "java/util/AbstractList" = true := by first | (simp [plainName, overriddenIn]; done) | decide +kernel
set_option maxRecDepth 65536 in
set_option maxHeartbeats 40000000 in
theorem c_alInit0 (l : Launch) (Z : State) (a0 : Array Value) (hw : Tb a0 Z) (hEW : EW Z a0 EL0) (n0 : Nat) (a : Addr) (u1 : Value) (h0 : Heap) (O : Old Z n0 h0) (X_a : Exa Z h0 a "java/util/ArrayList") (F_a_modCount : Fld Z h0 a "java/util/AbstractList" "modCount" "I" u1) (ga_a : n0 ≤ a) :
    Ct l Z EL0 n0 (⟨"java/util/AbstractList", "<init>", "()V"⟩ : MethodName) jdk_39_method_1_code 1 none ({ frames := 2, cells := 0, slots := 0, locals := 24 } : Room) #[(.ref a)] h0 [a] (fun v h sf => v = none ∧ Keep h0 h [a] ∧ Wr h0 h a (Jvm.RoadKit.slotOf Z "java/util/AbstractList" "modCount" "I") (.int 0) ∧ Fld Z h a "java/util/AbstractList" "modCount" "I" (.int 0)) := by
  refine Ct.of (a0 := a0) #[.val (.ref a)] hEW O (plainFor_of_name pl_java_util_AbstractList) (fun m => by first | (simp [entryFrame, mkF, argsToLocals, Value.category]; done) | rfl) ?_
  intro p_ e_ s_ m_ below_ meth_ c_ b_ T_ K hSP
  have KP := Keep.refl h0 [a]
  have sf_a := hSP a (by simp)
  refine k_aloadN K d_jdk_39_method_1_code_0 (pc' := 1) rfl rfl rfl ?_
  refine k_specialP K [] [] 0 (w16 hw) (w17 hw) (w20 hw) (w21 hw) rfl rfl (by decide) pd___V_380 (c_acInit l Z a0 hw hEW n0 a h0 K.old ) d_jdk_39_method_1_code_1 nofun (pc' := 4) rfl rfl rfl rfl (Nat.le_of_eq rfl) (by decide) (by decide) (by decide) (by decide) ?_
  intro b12 T12 L12 K12 tr12
  show Goes p_.tables e_ below_ _ (T12.setTop (mkF m_ 4 #[.val (.ref a)] []))
  replace sf_a := tr12 a X_a.lt sf_a
  refine k_aloadN K12 d_jdk_39_method_1_code_4 (pc' := 5) rfl rfl rfl ?_
  refine k_iconst K12 (0 : Int32) d_jdk_39_method_1_code_5 (pc' := 6) rfl rfl ?_
  refine k_putF K12 (w25 hw) Via.refl F_a_modCount X_a (Or.inl (w26 hw)) (w5 hw) (ty := .int) (by decide) rfl rfl ga_a sf_a d_jdk_39_method_1_code_6 (pc' := 9) rfl ?_
  intro T13 h13 K13 W13 tr13
  have F13 := F_a_modCount.same W13
  replace sf_a := tr13 a X_a.lt sf_a
  replace X_a := X_a.wr W13
  replace KP := KP.wr W13 (Or.inl (by simp))
  replace F_a_modCount := F13
  exact k_return K13 d_jdk_39_method_1_code_9 rfl (fun sf ht => ⟨rfl, KP, W13, F_a_modCount⟩) (by decide) (by decide)
theorem d_jdk_38_method_2_code_0 : decode jdk_38_method_2_code 0 = .ok (.aload_n 0, 1) := by decide +kernel
theorem d_jdk_38_method_2_code_1 : decode jdk_38_method_2_code 1 = .ok (.invokespecial 1, 3) := by decide +kernel
theorem w10 {Z : State} {a0 : Array Value} (hw : Tb a0 Z) : (Jvm.Cond.methodLink "java/util/ArrayList" (1 : Nat) ({ cls := "java/util/AbstractList", name := "<init>", desc := "()V" } : Jvm.MethodName)).before a0 Z = true := hw _ (List.mem_of_getElem? (i := 10) rfl)
theorem w14 {Z : State} {a0 : Array Value} (hw : Tb a0 Z) : (Jvm.Cond.initialized "java/util/AbstractList").before a0 Z = true := hw _ (List.mem_of_getElem? (i := 14) rfl)
theorem w15 {Z : State} {a0 : Array Value} (hw : Tb a0 Z) : (Jvm.Cond.code ({ cls := "java/util/AbstractList", name := "<init>", desc := "()V" } : Jvm.MethodName) jdk_39_method_1_code (1 : Nat) (Option.none : Option Jvm.ClassFile.FieldType)).before a0 Z = true := hw _ (List.mem_of_getElem? (i := 15) rfl)
theorem w11 {Z : State} {a0 : Array Value} (hw : Tb a0 Z) : (Jvm.Cond.instanceMethod ({ cls := "java/util/AbstractList", name := "<init>", desc := "()V" } : Jvm.MethodName)).before a0 Z = true := hw _ (List.mem_of_getElem? (i := 11) rfl)
theorem w29 {Z : State} {a0 : Array Value} (hw : Tb a0 Z) : (Jvm.Cond.lays "java/util/ArrayList" "java/util/ArrayList" "elementData" "[Ljava/lang/Object;").before a0 Z = true := hw _ (List.mem_of_getElem? (i := 29) rfl)
theorem w57 {Z : State} {a0 : Array Value} (hw : Tb a0 Z) : (Jvm.Cond.lays "java/util/ArrayList" "java/util/ArrayList" "size" "I").before a0 Z = true := hw _ (List.mem_of_getElem? (i := 57) rfl)
theorem d_jdk_38_method_2_code_4 : decode jdk_38_method_2_code 4 = .ok (.aload_n 0, 1) := by decide +kernel
theorem d_jdk_38_method_2_code_5 : decode jdk_38_method_2_code 5 = .ok (.getstatic 39, 3) := by decide +kernel
theorem w27 {Z : State} {a0 : Array Value} (hw : Tb a0 Z) : (Jvm.Cond.fieldLink "java/util/ArrayList" (39 : Nat) "java/util/ArrayList" "DEFAULTCAPACITY_EMPTY_ELEMENTDATA" "[Ljava/lang/Object;").before a0 Z = true := hw _ (List.mem_of_getElem? (i := 27) rfl)
theorem d_jdk_38_method_2_code_8 : decode jdk_38_method_2_code 8 = .ok (.putfield 9, 3) := by decide +kernel
theorem w28 {Z : State} {a0 : Array Value} (hw : Tb a0 Z) : (Jvm.Cond.fieldLink "java/util/ArrayList" (9 : Nat) "java/util/ArrayList" "elementData" "[Ljava/lang/Object;").before a0 Z = true := hw _ (List.mem_of_getElem? (i := 28) rfl)
theorem d_jdk_38_method_2_code_11 : decode jdk_38_method_2_code 11 = .ok (.return_, 1) := by decide +kernel
theorem pl_java_util_ArrayList : plainName "java/util/ArrayList" = true := by first | (simp [plainName, overriddenIn]; done) | decide +kernel
set_option maxRecDepth 65536 in
set_option maxHeartbeats 40000000 in
theorem c_alInit (l : Launch) (Z : State) (a0 : Array Value) (hw : Tb a0 Z) (hEW : EW Z a0 EL0) (n0 : Nat) (a de : Addr) (u1 u2 : Value) (h0 : Heap) (O : Old Z n0 h0) (X_a : Exa Z h0 a "java/util/ArrayList") (F_a_modCount : Fld Z h0 a "java/util/AbstractList" "modCount" "I" u1) (F_a_elementData : Fld Z h0 a "java/util/ArrayList" "elementData" "[Ljava/lang/Object;" u2) (F_a_size : Fld Z h0 a "java/util/ArrayList" "size" "I" (.int 0)) (ga_a : n0 ≤ a) (SD0 : Sta Z Z.heap "java/util/ArrayList" "DEFAULTCAPACITY_EMPTY_ELEMENTDATA" "[Ljava/lang/Object;" (.ref de)) :
    Ct l Z EL0 n0 (⟨"java/util/ArrayList", "<init>", "()V"⟩ : MethodName) jdk_38_method_2_code 1 none ({ frames := 3, cells := 0, slots := 0, locals := 36 } : Room) #[(.ref a)] h0 [a] (fun v h sf => v = none ∧ Keep h0 h [a] ∧ Exa Z h a "java/util/ArrayList" ∧ Fld Z h a "java/util/AbstractList" "modCount" "I" (.int 0) ∧ Fld Z h a "java/util/ArrayList" "elementData" "[Ljava/lang/Object;" (.ref de) ∧ Fld Z h a "java/util/ArrayList" "size" "I" (.int 0)) := by
  refine Ct.of (a0 := a0) #[.val (.ref a)] hEW O (plainFor_of_name pl_java_util_ArrayList) (fun m => by first | (simp [entryFrame, mkF, argsToLocals, Value.category]; done) | rfl) ?_
  intro p_ e_ s_ m_ below_ meth_ c_ b_ T_ K hSP
  have KP := Keep.refl h0 [a]
  have sf_a := hSP a (by simp)
  refine k_aloadN K d_jdk_38_method_2_code_0 (pc' := 1) rfl rfl rfl ?_
  refine k_special K [] [] 0 (w10 hw) (w11 hw) (w14 hw) (w15 hw) rfl rfl (by decide) pd___V_380 (c_alInit0 l Z a0 hw hEW n0 a u1 h0 K.old X_a F_a_modCount ga_a) d_jdk_38_method_2_code_1 (fun x hx => by cases List.mem_singleton.mp hx; exact ⟨X_a.lt, sf_a⟩) (pc' := 4) rfl rfl rfl rfl (Nat.le_of_eq rfl) (by decide) (by decide) (by decide) (by decide) ?_
  intro b14 T14 h14 L14 v14 K14 tr14 q14
  obtain ⟨rfl, -, W1, F1⟩ := q14
  replace sf_a := tr14 a X_a.lt sf_a
  replace X_a := X_a.wr W1
  replace F_a_elementData := F_a_elementData.other W1 (Or.inr (slot_ne (Or.inl (w29 hw)) (Or.inl (w26 hw)) (by decide) (t := (.array (.object "java/lang/Object"))) (t' := .int) (by decide) (by decide)))
  replace F_a_size := F_a_size.other W1 (Or.inr (slot_ne (Or.inl (w57 hw)) (Or.inl (w26 hw)) (by decide) (t := .int) (t' := .int) (by decide) (by decide)))
  replace KP := KP.wr W1 (Or.inl (by simp))
  replace F_a_modCount := F1
  show Goes p_.tables e_ below_ _ (T14.setTop (mkF m_ 4 #[.val (.ref a)] []))
  refine k_aloadN K14 d_jdk_38_method_2_code_4 (pc' := 5) rfl rfl rfl ?_
  refine k_getS K14 (w27 hw) Via.refl SD0 d_jdk_38_method_2_code_5 (pc' := 8) rfl ?_
  intro T15 K15
  refine k_putF K15 (w28 hw) Via.refl F_a_elementData X_a (Or.inl (w29 hw)) (w5 hw) (ty := (.array (.object "java/lang/Object"))) (by decide) rfl rfl ga_a sf_a d_jdk_38_method_2_code_8 (pc' := 11) rfl ?_
  intro T16 h16 K16 W16 tr16
  have F16 := F_a_elementData.same W16
  replace sf_a := tr16 a X_a.lt sf_a
  replace X_a := X_a.wr W16
  replace F_a_modCount := F_a_modCount.other W16 (Or.inr (slot_ne (Or.inl (w26 hw)) (Or.inl (w29 hw)) (by decide) (t := .int) (t' := (.array (.object "java/lang/Object"))) (by decide) (by decide)))
  replace F_a_size := F_a_size.other W16 (Or.inr (slot_ne (Or.inl (w57 hw)) (Or.inl (w29 hw)) (by decide) (t := .int) (t' := (.array (.object "java/lang/Object"))) (by decide) (by decide)))
  replace KP := KP.wr W16 (Or.inl (by simp))
  replace F_a_elementData := F16
  exact k_return K16 d_jdk_38_method_2_code_11 rfl (fun sf ht => ⟨rfl, KP, X_a, F_a_modCount, F_a_elementData, F_a_size⟩) (by decide) (by decide)
theorem d_prog_5_method_1_code_0 : decode prog_5_method_1_code 0 = .ok (.getstatic 10, 3) := by decide +kernel
theorem w33 {Z : State} {a0 : Array Value} (hw : Tb a0 Z) : (Jvm.Cond.fieldLink "com/example/halfpower/halfpower/certificate/Language" (10 : Nat) "com/example/halfpower/halfpower/certificate/Language" "$VALUES" "[Lcom/example/halfpower/halfpower/certificate/Language;").before a0 Z = true := hw _ (List.mem_of_getElem? (i := 33) rfl)
theorem d_prog_5_method_1_code_3 : decode prog_5_method_1_code 3 = .ok (.invokevirtual 14, 3) := by decide +kernel
theorem w35 {Z : State} {a0 : Array Value} (hw : Tb a0 Z) : (Jvm.Cond.methodLink "com/example/halfpower/halfpower/certificate/Language" (14 : Nat) ({ cls := "[Lcom/example/halfpower/halfpower/certificate/Language;", name := "clone", desc := "()Ljava/lang/Object;" } : Jvm.MethodName)).before a0 Z = true := hw _ (List.mem_of_getElem? (i := 35) rfl)
theorem w36 {Z : State} {a0 : Array Value} (hw : Tb a0 Z) : (Jvm.Cond.sameMethod "[Lcom/example/halfpower/halfpower/certificate/Language;" "java/lang/Object" "clone" "()Ljava/lang/Object;").before a0 Z = true := hw _ (List.mem_of_getElem? (i := 36) rfl)
theorem w40 {Z : State} {a0 : Array Value} (hw : Tb a0 Z) : (Jvm.Cond.native ({ cls := "java/lang/Object", name := "clone", desc := "()Ljava/lang/Object;" } : Jvm.MethodName)).before a0 Z = true := hw _ (List.mem_of_getElem? (i := 40) rfl)
theorem w38 {Z : State} {a0 : Array Value} (hw : Tb a0 Z) : (Jvm.Cond.instanceMethod ({ cls := "java/lang/Object", name := "clone", desc := "()Ljava/lang/Object;" } : Jvm.MethodName)).before a0 Z = true := hw _ (List.mem_of_getElem? (i := 38) rfl)
theorem w39 {Z : State} {a0 : Array Value} (hw : Tb a0 Z) : (Jvm.Cond.selects "[Lcom/example/halfpower/halfpower/certificate/Language;" ({ cls := "[Lcom/example/halfpower/halfpower/certificate/Language;", name := "clone", desc := "()Ljava/lang/Object;" } : Jvm.MethodName) ({ cls := "java/lang/Object", name := "clone", desc := "()Ljava/lang/Object;" } : Jvm.MethodName)).before a0 Z = true := hw _ (List.mem_of_getElem? (i := 39) rfl)
theorem w41 {Z : State} {a0 : Array Value} (hw : Tb a0 Z) : (Jvm.Cond.castable "[Lcom/example/halfpower/halfpower/certificate/Language;" "java/lang/Cloneable").before a0 Z = true := hw _ (List.mem_of_getElem? (i := 41) rfl)
theorem d_prog_5_method_1_code_6 : decode prog_5_method_1_code 6 = .ok (.checkcast 15, 3) := by decide +kernel
theorem w45 {Z : State} {a0 : Array Value} (hw : Tb a0 Z) : (Jvm.Cond.classLink "com/example/halfpower/halfpower/certificate/Language" (15 : Nat) "[Lcom/example/halfpower/halfpower/certificate/Language;").before a0 Z = true := hw _ (List.mem_of_getElem? (i := 45) rfl)
theorem d_prog_5_method_1_code_9 : decode prog_5_method_1_code 9 = .ok (.areturn, 1) := by decide +kernel
set_option maxRecDepth 65536 in
set_option maxHeartbeats 40000000 in
theorem c_values (l : Launch) (Z : State) (a0 : Array Value) (hw : Tb a0 Z) (hEW : EW Z a0 EL0) (n0 : Nat) (va en ch : Addr) (kv : ClassId) (h0 : Heap) (O : Old Z n0 h0) (SV : Sta Z Z.heap "com/example/halfpower/halfpower/certificate/Language" "$VALUES" "[Lcom/example/halfpower/halfpower/certificate/Language;" (.ref va)) (VV : Arv Z Z.heap va kv (.object "com/example/halfpower/halfpower/certificate/Language") 2 [.ref en, .ref ch] .null) (XV : Exa Z Z.heap va "[Lcom/example/halfpower/halfpower/certificate/Language;") (hfit : Fit Z) :
    Ct l Z EL0 n0 (⟨"com/example/halfpower/halfpower/certificate/Language", "values", "()[Lcom/example/halfpower/halfpower/certificate/Language;"⟩ : MethodName) prog_5_method_1_code 0 (some (.array (.object "com/example/halfpower/halfpower/certificate/Language"))) ({ frames := 1, cells := 1, slots := 2, locals := 14 } : Room) #[] h0 [] (fun v h sf => ∃ d, v = some (.ref d) ∧ h0.size ≤ d ∧ Keep h0 h [] ∧ Arv Z h d kv (.object "com/example/halfpower/halfpower/certificate/Language") 2 [.ref en, .ref ch] .null) := by
  refine Ct.of (a0 := a0) #[] hEW O (plainFor_of_name pl_com_example_halfpower_halfpower_certificate_Language) (fun m => by first | (simp [entryFrame, mkF, argsToLocals, Value.category]; done) | rfl) ?_
  intro p_ e_ s_ m_ below_ meth_ c_ b_ T_ K hSP
  have KP := Keep.refl h0 []
  refine k_getS K (w33 hw) Via.refl SV d_prog_5_method_1_code_0 (pc' := 3) rfl ?_
  intro T17 K17
  refine k_clone K17 (w35 hw) (w36 hw) (w40 hw) (w38 hw) (w39 hw) (w41 hw) VV XV hfit d_prog_5_method_1_code_3 (pc' := 6) rfl rfl (by decide) 0 (Nat.le_of_eq rfl) (by decide) (cap := 2) (by decide) (by decide) (by decide) ?_
  intro T18 h18 a18 g18 K18 E18 tr18 sf_a18 V_a18 X_a18
  have ga_a18 : n0 ≤ a18 := own_old K17.old g18
  have sz_a18 : h0.size ≤ a18 := g18 ▸ KP.1
  replace KP := KP.ext E18
  refine k_castY K18 (w45 hw) (Ins.self X_a18) d_prog_5_method_1_code_6 (pc' := 9) rfl ?_
  intro T19 K19
  exact k_aret K19 d_prog_5_method_1_code_9 rfl rfl rfl (fun sf ht => ⟨a18, rfl, sz_a18, KP, V_a18⟩) (by decide) (by decide)
theorem d_jdk_38_method_6_code_0 : decode jdk_38_method_6_code 0 = .ok (.aload_n 0, 1) := by decide +kernel
theorem d_jdk_38_method_6_code_1 : decode jdk_38_method_6_code 1 = .ok (.getfield 9, 3) := by decide +kernel
theorem d_jdk_38_method_6_code_4 : decode jdk_38_method_6_code 4 = .ok (.arraylength, 1) := by decide +kernel
theorem d_jdk_38_method_6_code_5 : decode jdk_38_method_6_code 5 = .ok (.istore_n 2, 1) := by decide +kernel
theorem d_jdk_38_method_6_code_6 : decode jdk_38_method_6_code 6 = .ok (.iload_n 2, 1) := by decide +kernel
theorem d_jdk_38_method_6_code_7 : decode jdk_38_method_6_code 7 = .ok (.ifCond .gt 13, 3) := by decide +kernel
theorem d_jdk_38_method_6_code_10 : decode jdk_38_method_6_code 10 = .ok (.aload_n 0, 1) := by decide +kernel
theorem d_jdk_38_method_6_code_11 : decode jdk_38_method_6_code 11 = .ok (.getfield 9, 3) := by decide +kernel
theorem d_jdk_38_method_6_code_14 : decode jdk_38_method_6_code 14 = .ok (.getstatic 39, 3) := by decide +kernel
theorem d_jdk_38_method_6_code_17 : decode jdk_38_method_6_code 17 = .ok (.if_acmp .eq 28, 3) := by decide +kernel
theorem d_jdk_38_method_6_code_45 : decode jdk_38_method_6_code 45 = .ok (.aload_n 0, 1) := by decide +kernel
theorem d_jdk_38_method_6_code_46 : decode jdk_38_method_6_code 46 = .ok (.bipush 10, 2) := by decide +kernel
theorem d_jdk_38_method_6_code_48 : decode jdk_38_method_6_code 48 = .ok (.iload_n 1, 1) := by decide +kernel
theorem d_jdk_38_method_6_code_49 : decode jdk_38_method_6_code 49 = .ok (.invokestatic 79, 3) := by decide +kernel
theorem w73 {Z : State} {a0 : Array Value} (hw : Tb a0 Z) : (Jvm.Cond.methodLink "java/util/ArrayList" (79 : Nat) ({ cls := "java/lang/Math", name := "max", desc := "(II)I" } : Jvm.MethodName)).before a0 Z = true := hw _ (List.mem_of_getElem? (i := 73) rfl)
theorem w75 {Z : State} {a0 : Array Value} (hw : Tb a0 Z) : (Jvm.Cond.initialized "java/lang/Math").before a0 Z = true := hw _ (List.mem_of_getElem? (i := 75) rfl)
theorem w76 {Z : State} {a0 : Array Value} (hw : Tb a0 Z) : (Jvm.Cond.code ({ cls := "java/lang/Math", name := "max", desc := "(II)I" } : Jvm.MethodName) jdk_29_method_65_code (2 : Nat) (Option.some Jvm.ClassFile.FieldType.int)).before a0 Z = true := hw _ (List.mem_of_getElem? (i := 76) rfl)
theorem w74 {Z : State} {a0 : Array Value} (hw : Tb a0 Z) : (Jvm.Cond.static ({ cls := "java/lang/Math", name := "max", desc := "(II)I" } : Jvm.MethodName)).before a0 Z = true := hw _ (List.mem_of_getElem? (i := 74) rfl)
theorem pd__II_I_934 : parseMethodDescriptor "(II)I" = some ⟨[.int, .int], some .int⟩ := by decide +kernel
theorem d_jdk_38_method_6_code_52 : decode jdk_38_method_6_code 52 = .ok (.anewarray 7, 3) := by decide +kernel
theorem w77 {Z : State} {a0 : Array Value} (hw : Tb a0 Z) : (Jvm.Cond.classLink "java/util/ArrayList" (7 : Nat) "java/lang/Object").before a0 Z = true := hw _ (List.mem_of_getElem? (i := 77) rfl)
theorem w78 {Z : State} {a0 : Array Value} (hw : Tb a0 Z) : (Jvm.Cond.arrayOver (Jvm.ClassFile.FieldType.object "java/lang/Object")).before a0 Z = true := hw _ (List.mem_of_getElem? (i := 78) rfl)
theorem d_jdk_38_method_6_code_55 : decode jdk_38_method_6_code 55 = .ok (.dup_x1, 1) := by decide +kernel
theorem d_jdk_38_method_6_code_56 : decode jdk_38_method_6_code 56 = .ok (.putfield 9, 3) := by decide +kernel
theorem d_jdk_38_method_6_code_59 : decode jdk_38_method_6_code 59 = .ok (.areturn, 1) := by decide +kernel
set_option maxRecDepth 65536 in
set_option maxHeartbeats 40000000 in
theorem c_grow1 (l : Launch) (Z : State) (a0 : Array Value) (hw : Tb a0 Z) (hEW : EW Z a0 EL0) (n0 : Nat) (a de : Addr) (kde : ClassId) (mc : Int32) (h0 : Heap) (O : Old Z n0 h0) (X_a : Exa Z h0 a "java/util/ArrayList") (F_a_modCount : Fld Z h0 a "java/util/AbstractList" "modCount" "I" (.int mc)) (F_a_elementData : Fld Z h0 a "java/util/ArrayList" "elementData" "[Ljava/lang/Object;" (.ref de)) (F_a_size : Fld Z h0 a "java/util/ArrayList" "size" "I" (.int 0)) (ga_a : n0 ≤ a) (SD0 : Sta Z Z.heap "java/util/ArrayList" "DEFAULTCAPACITY_EMPTY_ELEMENTDATA" "[Ljava/lang/Object;" (.ref de)) (VD : Arv Z Z.heap de kde (.object "java/lang/Object") 0 [] .null) :
    Ct l Z EL0 n0 (⟨"java/util/ArrayList", "grow", "(I)[Ljava/lang/Object;"⟩ : MethodName) jdk_38_method_6_code 4 (some (.array (.object "java/lang/Object"))) ({ frames := 1, cells := 1, slots := 10, locals := 14 } : Room) #[(.ref a), (.int (1 : Int32))] h0 [a] (fun v h sf => ∃ d kd, v = some (.ref d) ∧ h0.size ≤ d ∧ Keep h0 h [a] ∧ Exa Z h a "java/util/ArrayList" ∧ Fld Z h a "java/util/AbstractList" "modCount" "I" (.int mc) ∧ Fld Z h a "java/util/ArrayList" "elementData" "[Ljava/lang/Object;" (.ref d) ∧ Fld Z h a "java/util/ArrayList" "size" "I" (.int 0) ∧ Arv Z h d kd (.object "java/lang/Object") 10 [.null, .null, .null, .null, .null, .null, .null, .null, .null, .null] .null ∧ Ovr Z kd "java/lang/Object" ∧ sf d) := by
  refine Ct.of (a0 := a0) #[.val (.ref a), .val (.int (1 : Int32)), .unset, .unset] hEW O (plainFor_of_name pl_java_util_ArrayList) (fun m => by first | (simp [entryFrame, mkF, argsToLocals, Value.category]; done) | rfl) ?_
  intro p_ e_ s_ m_ below_ meth_ c_ b_ T_ K hSP
  have KP := Keep.refl h0 [a]
  have sf_a := hSP a (by simp)
  refine k_aloadN K d_jdk_38_method_6_code_0 (pc' := 1) rfl rfl rfl ?_
  refine k_getF K (w28 hw) Via.refl F_a_elementData d_jdk_38_method_6_code_1 (pc' := 4) rfl ?_
  intro T20 K20
  refine k_len K20 (VD.ext K20.old.2) d_jdk_38_method_6_code_4 (pc' := 5) rfl ?_
  refine k_istoreN K20 d_jdk_38_method_6_code_5 (pc' := 6) (L' := #[.val (.ref a), .val (.int (1 : Int32)), .val (.int (0 : Int32)), .unset]) rfl rfl ?_
  refine k_iloadN K20 d_jdk_38_method_6_code_6 (pc' := 7) rfl rfl ?_
  refine k_if_gt K20 d_jdk_38_method_6_code_7 (by decide) (pc' := 20) (pc2 := 10) (by decide) rfl (fun q => absurd q (by decide)) (fun hc7 => ?_)
  refine k_aloadN K20 d_jdk_38_method_6_code_10 (pc' := 11) rfl rfl rfl ?_
  refine k_getF K20 (w28 hw) Via.refl F_a_elementData d_jdk_38_method_6_code_11 (pc' := 14) rfl ?_
  intro T21 K21
  refine k_getS K21 (w27 hw) Via.refl SD0 d_jdk_38_method_6_code_14 (pc' := 17) rfl ?_
  intro T22 K22
  refine k_acmp_eq K22 rfl rfl d_jdk_38_method_6_code_17 (by decide) (pc' := 45) (pc2 := 20) (by decide) rfl (fun hc17 => ?_) (fun q => absurd rfl q)
  refine k_aloadN K22 d_jdk_38_method_6_code_45 (pc' := 46) rfl rfl rfl ?_
  refine k_bipush K22 (10 : Int32) d_jdk_38_method_6_code_46 (pc' := 48) rfl rfl ?_
  refine k_iloadN K22 d_jdk_38_method_6_code_48 (pc' := 49) rfl rfl ?_
  refine k_staticP K22 [(.int (10 : Int32)), (.int (1 : Int32))] [(.ref a)] 1 (w73 hw) (w74 hw) (w75 hw) (w76 hw) (by decide) pd__II_I_934 (c_max l Z a0 hw hEW n0 10 1 h0 K22.old ) d_jdk_38_method_6_code_49 nofun (pc' := 52) rfl rfl rfl rfl (Nat.le_of_eq rfl) (by decide) (by decide) (by decide) (by decide) ?_
  intro b23 T23 L23 K23 tr23
  show Goes p_.tables e_ below_ _ (T23.setTop (mkF m_ 52 #[.val (.ref a), .val (.int (1 : Int32)), .val (.int (0 : Int32)), .unset] [(.int (if (10 : Int32) < 1 then 1 else 10)), (.ref a)]))
  replace sf_a := tr23 a X_a.lt sf_a
  rw [if_neg (by decide : ¬ (10 : Int32) < 1)]
  refine k_anewarray K23 (z := (10 : Int32)) (w77 hw) (w78 hw) (by decide) (cap := 10) (by decide) (by decide) d_jdk_38_method_6_code_52 (pc' := 55) rfl (by decide) (by decide) ?_
  intro T24 h24 a24 ka24 g24 K24 E24 tr24 sf_a24 V_a24 O_a24
  have ga_a24 : n0 ≤ a24 := own_old K23.old g24
  have sz_a24 : h0.size ≤ a24 := g24 ▸ KP.1
  have ne_a_a24 : a ≠ a24 := own_ne X_a.lt g24
  replace sf_a := tr24 a X_a.lt sf_a
  replace X_a := X_a.ext E24
  replace F_a_modCount := F_a_modCount.ext E24
  replace F_a_elementData := F_a_elementData.ext E24
  replace F_a_size := F_a_size.ext E24
  replace KP := KP.ext E24
  replace V_a24 : Arv Z h24 a24 ka24 (.object "java/lang/Object") (10 : Int32) [.null, .null, .null, .null, .null, .null, .null, .null, .null, .null] .null := V_a24.pad (pad_rep [] .null 10)
  refine k_dup_x1 K24 d_jdk_38_method_6_code_55 (pc' := 56) rfl rfl rfl ?_
  refine k_putF K24 (w28 hw) Via.refl F_a_elementData X_a (Or.inl (w29 hw)) (w5 hw) (ty := (.array (.object "java/lang/Object"))) (by decide) rfl rfl ga_a sf_a d_jdk_38_method_6_code_56 (pc' := 59) rfl ?_
  intro T25 h25 K25 W25 tr25
  have F25 := F_a_elementData.same W25
  replace sf_a := tr25 a X_a.lt sf_a
  replace sf_a24 := tr25 a24 V_a24.lt sf_a24
  replace X_a := X_a.wr W25
  replace F_a_modCount := F_a_modCount.other W25 (Or.inr (slot_ne (Or.inl (w26 hw)) (Or.inl (w29 hw)) (by decide) (t := .int) (t' := (.array (.object "java/lang/Object"))) (by decide) (by decide)))
  replace F_a_size := F_a_size.other W25 (Or.inr (slot_ne (Or.inl (w57 hw)) (Or.inl (w29 hw)) (by decide) (t := .int) (t' := (.array (.object "java/lang/Object"))) (by decide) (by decide)))
  replace V_a24 := V_a24.other W25 (Ne.symm ne_a_a24)
  replace KP := KP.wr W25 (Or.inl (by simp))
  replace F_a_elementData := F25
  exact k_aret K25 d_jdk_38_method_6_code_59 rfl rfl rfl (fun sf ht => ⟨a24, ka24, rfl, sz_a24, KP, X_a, F_a_modCount, F_a_elementData, F_a_size, V_a24, O_a24, ht _ V_a24.lt sf_a24⟩) (by decide) (by decide)
theorem d_jdk_38_method_7_code_0 : decode jdk_38_method_7_code 0 = .ok (.aload_n 0, 1) := by decide +kernel
theorem d_jdk_38_method_7_code_1 : decode jdk_38_method_7_code 1 = .ok (.aload_n 0, 1) := by decide +kernel
theorem d_jdk_38_method_7_code_2 : decode jdk_38_method_7_code 2 = .ok (.getfield 48, 3) := by decide +kernel
theorem w56 {Z : State} {a0 : Array Value} (hw : Tb a0 Z) : (Jvm.Cond.fieldLink "java/util/ArrayList" (48 : Nat) "java/util/ArrayList" "size" "I").before a0 Z = true := hw _ (List.mem_of_getElem? (i := 56) rfl)
theorem d_jdk_38_method_7_code_5 : decode jdk_38_method_7_code 5 = .ok (.iconst 1, 1) := by decide +kernel
theorem d_jdk_38_method_7_code_6 : decode jdk_38_method_7_code 6 = .ok (.iadd, 1) := by decide +kernel
theorem d_jdk_38_method_7_code_7 : decode jdk_38_method_7_code 7 = .ok (.invokevirtual 69, 3) := by decide +kernel
theorem w68 {Z : State} {a0 : Array Value} (hw : Tb a0 Z) : (Jvm.Cond.methodLink "java/util/ArrayList" (69 : Nat) ({ cls := "java/util/ArrayList", name := "grow", desc := "(I)[Ljava/lang/Object;" } : Jvm.MethodName)).before a0 Z = true := hw _ (List.mem_of_getElem? (i := 68) rfl)
theorem w6 {Z : State} {a0 : Array Value} (hw : Tb a0 Z) : (Jvm.Cond.initialized "java/util/ArrayList").before a0 Z = true := hw _ (List.mem_of_getElem? (i := 6) rfl)
theorem w72 {Z : State} {a0 : Array Value} (hw : Tb a0 Z) : (Jvm.Cond.code ({ cls := "java/util/ArrayList", name := "grow", desc := "(I)[Ljava/lang/Object;" } : Jvm.MethodName) jdk_38_method_6_code (4 : Nat) (Option.some (Jvm.ClassFile.FieldType.array (Jvm.ClassFile.FieldType.object "java/lang/Object")))).before a0 Z = true := hw _ (List.mem_of_getElem? (i := 72) rfl)
theorem w70 {Z : State} {a0 : Array Value} (hw : Tb a0 Z) : (Jvm.Cond.privateMethod ({ cls := "java/util/ArrayList", name := "grow", desc := "(I)[Ljava/lang/Object;" } : Jvm.MethodName)).before a0 Z = true := hw _ (List.mem_of_getElem? (i := 70) rfl)
theorem w69 {Z : State} {a0 : Array Value} (hw : Tb a0 Z) : (Jvm.Cond.instanceMethod ({ cls := "java/util/ArrayList", name := "grow", desc := "(I)[Ljava/lang/Object;" } : Jvm.MethodName)).before a0 Z = true := hw _ (List.mem_of_getElem? (i := 69) rfl)
theorem w71 {Z : State} {a0 : Array Value} (hw : Tb a0 Z) : (Jvm.Cond.selects "java/util/ArrayList" ({ cls := "java/util/ArrayList", name := "grow", desc := "(I)[Ljava/lang/Object;" } : Jvm.MethodName) ({ cls := "java/util/ArrayList", name := "grow", desc := "(I)[Ljava/lang/Object;" } : Jvm.MethodName)).before a0 Z = true := hw _ (List.mem_of_getElem? (i := 71) rfl)
theorem pd__I__Ljava_lang_Object__3109 : parseMethodDescriptor "(I)[Ljava/lang/Object;" = some ⟨[.int], some (.array (.object "java/lang/Object"))⟩ := by decide +kernel
theorem d_jdk_38_method_7_code_10 : decode jdk_38_method_7_code 10 = .ok (.areturn, 1) := by decide +kernel
set_option maxRecDepth 65536 in
set_option maxHeartbeats 40000000 in
theorem c_grow0 (l : Launch) (Z : State) (a0 : Array Value) (hw : Tb a0 Z) (hEW : EW Z a0 EL0) (n0 : Nat) (a de : Addr) (kde : ClassId) (mc : Int32) (h0 : Heap) (O : Old Z n0 h0) (X_a : Exa Z h0 a "java/util/ArrayList") (F_a_modCount : Fld Z h0 a "java/util/AbstractList" "modCount" "I" (.int mc)) (F_a_elementData : Fld Z h0 a "java/util/ArrayList" "elementData" "[Ljava/lang/Object;" (.ref de)) (F_a_size : Fld Z h0 a "java/util/ArrayList" "size" "I" (.int 0)) (ga_a : n0 ≤ a) (SD0 : Sta Z Z.heap "java/util/ArrayList" "DEFAULTCAPACITY_EMPTY_ELEMENTDATA" "[Ljava/lang/Object;" (.ref de)) (VD : Arv Z Z.heap de kde (.object "java/lang/Object") 0 [] .null) :
    Ct l Z EL0 n0 (⟨"java/util/ArrayList", "grow", "()[Ljava/lang/Object;"⟩ : MethodName) jdk_38_method_7_code 1 (some (.array (.object "java/lang/Object"))) ({ frames := 2, cells := 1, slots := 10, locals := 29 } : Room) #[(.ref a)] h0 [a] (fun v h sf => ∃ d kd, v = some (.ref d) ∧ h0.size ≤ d ∧ Keep h0 h [a] ∧ Exa Z h a "java/util/ArrayList" ∧ Fld Z h a "java/util/AbstractList" "modCount" "I" (.int mc) ∧ Fld Z h a "java/util/ArrayList" "elementData" "[Ljava/lang/Object;" (.ref d) ∧ Fld Z h a "java/util/ArrayList" "size" "I" (.int 0) ∧ Arv Z h d kd (.object "java/lang/Object") 10 [.null, .null, .null, .null, .null, .null, .null, .null, .null, .null] .null ∧ Ovr Z kd "java/lang/Object" ∧ sf d) := by
  refine Ct.of (a0 := a0) #[.val (.ref a)] hEW O (plainFor_of_name pl_java_util_ArrayList) (fun m => by first | (simp [entryFrame, mkF, argsToLocals, Value.category]; done) | rfl) ?_
  intro p_ e_ s_ m_ below_ meth_ c_ b_ T_ K hSP
  have KP := Keep.refl h0 [a]
  have sf_a := hSP a (by simp)
  refine k_aloadN K d_jdk_38_method_7_code_0 (pc' := 1) rfl rfl rfl ?_
  refine k_aloadN K d_jdk_38_method_7_code_1 (pc' := 2) rfl rfl rfl ?_
  refine k_getF K (w56 hw) Via.refl F_a_size d_jdk_38_method_7_code_2 (pc' := 5) rfl ?_
  intro T26 K26
  refine k_iconst K26 (1 : Int32) d_jdk_38_method_7_code_5 (pc' := 6) rfl rfl ?_
  refine k_iadd K26 d_jdk_38_method_7_code_6 (pc' := 7) rfl ?_
  rw [show (0 : Int32) + 1 = 1 by decide]
  refine k_private K26 [(.int (1 : Int32))] [] 0 (w68 hw) (w69 hw) (mvT K26.hZ (w71 hw)) (w70 hw) (w6 hw) (w72 hw) X_a (by decide) pd__I__Ljava_lang_Object__3109 (c_grow1 l Z a0 hw hEW n0 a de kde mc h0 K26.old X_a F_a_modCount F_a_elementData F_a_size ga_a SD0 VD) d_jdk_38_method_7_code_7 (fun x hx => by cases List.mem_singleton.mp hx; exact ⟨X_a.lt, sf_a⟩) (pc' := 10) rfl rfl rfl rfl (Nat.le_of_eq rfl) (by decide) (by decide) (by decide) (by decide) ?_
  intro b27 T27 h27 L27 v27 K27 tr27 q27
  obtain ⟨d, kd, rfl, hd, KQ, q1, q2, q3, q4, q5, q6, q7⟩ := q27
  show Goes p_.tables e_ below_ _ (T27.setTop (mkF m_ 10 #[.val (.ref a)] [(.ref d)]))
  exact k_aret K27 d_jdk_38_method_7_code_10 rfl rfl rfl (fun sf ht => ⟨d, kd, rfl, hd, KQ, q1, q2, q3, q4, q5, q6, ht _ q5.lt q7⟩) (by decide) (by decide)
theorem w79 {Z : State} {a0 : Array Value} (hw : Tb a0 Z) : (Jvm.Cond.castable "java/lang/String" "java/lang/Object").before a0 Z = true := hw _ (List.mem_of_getElem? (i := 79) rfl)
theorem own_sto {Z : State} {h : Heap} {d x : Addr} {kd : ClassId} {ty : FieldType} {z : Int32} {vs : List Value} {dv : Value} {C : String} (V : Arv Z h d kd ty z vs dv) (O : Ovr Z kd C) (I : Ins Z h x C true) : Sto Z h d (.ref x) := by
  obtain ⟨c, A, q, -⟩ := V
  exact Sto.ofV A q O I
theorem d_jdk_38_method_24_code_0 : decode jdk_38_method_24_code 0 = .ok (.iload_n 3, 1) := by decide +kernel
theorem d_jdk_38_method_24_code_1 : decode jdk_38_method_24_code 1 = .ok (.aload_n 2, 1) := by decide +kernel
theorem d_jdk_38_method_24_code_2 : decode jdk_38_method_24_code 2 = .ok (.arraylength, 1) := by decide +kernel
theorem d_jdk_38_method_24_code_3 : decode jdk_38_method_24_code 3 = .ok (.if_icmp .ne 8, 3) := by decide +kernel
theorem d_jdk_38_method_24_code_6 : decode jdk_38_method_24_code 6 = .ok (.aload_n 0, 1) := by decide +kernel
theorem d_jdk_38_method_24_code_7 : decode jdk_38_method_24_code 7 = .ok (.invokevirtual 129, 3) := by decide +kernel
theorem w63 {Z : State} {a0 : Array Value} (hw : Tb a0 Z) : (Jvm.Cond.methodLink "java/util/ArrayList" (129 : Nat) ({ cls := "java/util/ArrayList", name := "grow", desc := "()[Ljava/lang/Object;" } : Jvm.MethodName)).before a0 Z = true := hw _ (List.mem_of_getElem? (i := 63) rfl)
theorem w67 {Z : State} {a0 : Array Value} (hw : Tb a0 Z) : (Jvm.Cond.code ({ cls := "java/util/ArrayList", name := "grow", desc := "()[Ljava/lang/Object;" } : Jvm.MethodName) jdk_38_method_7_code (1 : Nat) (Option.some (Jvm.ClassFile.FieldType.array (Jvm.ClassFile.FieldType.object "java/lang/Object")))).before a0 Z = true := hw _ (List.mem_of_getElem? (i := 67) rfl)
theorem w65 {Z : State} {a0 : Array Value} (hw : Tb a0 Z) : (Jvm.Cond.privateMethod ({ cls := "java/util/ArrayList", name := "grow", desc := "()[Ljava/lang/Object;" } : Jvm.MethodName)).before a0 Z = true := hw _ (List.mem_of_getElem? (i := 65) rfl)
theorem w64 {Z : State} {a0 : Array Value} (hw : Tb a0 Z) : (Jvm.Cond.instanceMethod ({ cls := "java/util/ArrayList", name := "grow", desc := "()[Ljava/lang/Object;" } : Jvm.MethodName)).before a0 Z = true := hw _ (List.mem_of_getElem? (i := 64) rfl)
theorem w66 {Z : State} {a0 : Array Value} (hw : Tb a0 Z) : (Jvm.Cond.selects "java/util/ArrayList" ({ cls := "java/util/ArrayList", name := "grow", desc := "()[Ljava/lang/Object;" } : Jvm.MethodName) ({ cls := "java/util/ArrayList", name := "grow", desc := "()[Ljava/lang/Object;" } : Jvm.MethodName)).before a0 Z = true := hw _ (List.mem_of_getElem? (i := 66) rfl)
theorem pd____Ljava_lang_Object__1167 : parseMethodDescriptor "()[Ljava/lang/Object;" = some ⟨[], some (.array (.object "java/lang/Object"))⟩ := by decide +kernel
theorem d_jdk_38_method_24_code_10 : decode jdk_38_method_24_code 10 = .ok (.astore_n 2, 1) := by decide +kernel
theorem d_jdk_38_method_24_code_11 : decode jdk_38_method_24_code 11 = .ok (.aload_n 2, 1) := by decide +kernel
theorem d_jdk_38_method_24_code_12 : decode jdk_38_method_24_code 12 = .ok (.iload_n 3, 1) := by decide +kernel
theorem d_jdk_38_method_24_code_13 : decode jdk_38_method_24_code 13 = .ok (.aload_n 1, 1) := by decide +kernel
theorem d_jdk_38_method_24_code_14 : decode jdk_38_method_24_code 14 = .ok (.aastore, 1) := by decide +kernel
theorem d_jdk_38_method_24_code_15 : decode jdk_38_method_24_code 15 = .ok (.aload_n 0, 1) := by decide +kernel
theorem d_jdk_38_method_24_code_16 : decode jdk_38_method_24_code 16 = .ok (.iload_n 3, 1) := by decide +kernel
theorem d_jdk_38_method_24_code_17 : decode jdk_38_method_24_code 17 = .ok (.iconst 1, 1) := by decide +kernel
theorem d_jdk_38_method_24_code_18 : decode jdk_38_method_24_code 18 = .ok (.iadd, 1) := by decide +kernel
theorem d_jdk_38_method_24_code_19 : decode jdk_38_method_24_code 19 = .ok (.putfield 48, 3) := by decide +kernel
theorem d_jdk_38_method_24_code_22 : decode jdk_38_method_24_code 22 = .ok (.return_, 1) := by decide +kernel
set_option maxRecDepth 65536 in
set_option maxHeartbeats 40000000 in
theorem c_add3a (l : Launch) (Z : State) (a0 : Array Value) (hw : Tb a0 Z) (hEW : EW Z a0 EL0) (n0 : Nat) (a de : Addr) (kde : ClassId) (mc : Int32) (x : Addr) (h0 : Heap) (O : Old Z n0 h0) (X_a : Exa Z h0 a "java/util/ArrayList") (F_a_modCount : Fld Z h0 a "java/util/AbstractList" "modCount" "I" (.int mc)) (F_a_elementData : Fld Z h0 a "java/util/ArrayList" "elementData" "[Ljava/lang/Object;" (.ref de)) (F_a_size : Fld Z h0 a "java/util/ArrayList" "size" "I" (.int 0)) (ga_a : n0 ≤ a) (SD0 : Sta Z Z.heap "java/util/ArrayList" "DEFAULTCAPACITY_EMPTY_ELEMENTDATA" "[Ljava/lang/Object;" (.ref de)) (VD : Arv Z Z.heap de kde (.object "java/lang/Object") 0 [] .null) (Ix : Exa Z Z.heap x "java/lang/String") :
    Ct l Z EL0 n0 (⟨"java/util/ArrayList", "add", "(Ljava/lang/Object;[Ljava/lang/Object;I)V"⟩ : MethodName) jdk_38_method_24_code 4 none ({ frames := 3, cells := 1, slots := 10, locals := 41 } : Room) #[(.ref a), (.ref x), (.ref de), (.int (0 : Int32))] h0 [a] (fun v h sf => v = none ∧ ∃ d kd, h0.size ≤ d ∧ Keep h0 h [a] ∧ Exa Z h a "java/util/ArrayList" ∧ Fld Z h a "java/util/AbstractList" "modCount" "I" (.int mc) ∧ Fld Z h a "java/util/ArrayList" "elementData" "[Ljava/lang/Object;" (.ref d) ∧ Fld Z h a "java/util/ArrayList" "size" "I" (.int 1) ∧ Arv Z h d kd (.object "java/lang/Object") 10 [.ref x, .null, .null, .null, .null, .null, .null, .null, .null, .null] .null ∧ Ovr Z kd "java/lang/Object" ∧ sf d) := by
  refine Ct.of (a0 := a0) #[.val (.ref a), .val (.ref x), .val (.ref de), .val (.int (0 : Int32))] hEW O (plainFor_of_name pl_java_util_ArrayList) (fun m => by first | (simp [entryFrame, mkF, argsToLocals, Value.category]; done) | rfl) ?_
  intro p_ e_ s_ m_ below_ meth_ c_ b_ T_ K hSP
  have KP := Keep.refl h0 [a]
  have sf_a := hSP a (by simp)
  refine k_iloadN K d_jdk_38_method_24_code_0 (pc' := 1) rfl rfl ?_
  refine k_aloadN K d_jdk_38_method_24_code_1 (pc' := 2) rfl rfl rfl ?_
  refine k_len K (VD.ext K.old.2) d_jdk_38_method_24_code_2 (pc' := 3) rfl ?_
  refine k_icmp_ne K d_jdk_38_method_24_code_3 (by decide) (pc' := 11) (pc2 := 6) (by decide) rfl (fun q => absurd (by decide) q) (fun hc3 => ?_)
  refine k_aloadN K d_jdk_38_method_24_code_6 (pc' := 7) rfl rfl rfl ?_
  refine k_private K [] [] 0 (w63 hw) (w64 hw) (mvT K.hZ (w66 hw)) (w65 hw) (w6 hw) (w67 hw) X_a (by decide) pd____Ljava_lang_Object__1167 (c_grow0 l Z a0 hw hEW n0 a de kde mc h0 K.old X_a F_a_modCount F_a_elementData F_a_size ga_a SD0 VD) d_jdk_38_method_24_code_7 (fun x hx => by cases List.mem_singleton.mp hx; exact ⟨X_a.lt, sf_a⟩) (pc' := 10) rfl rfl rfl rfl (Nat.le_of_eq rfl) (by decide) (by decide) (by decide) (by decide) ?_
  intro b28 T28 h28 L28 v28 K28 tr28 q28
  obtain ⟨d, kd, rfl, hd, KQ, q1, q2, q3, q4, V_d, O_d, sf_d⟩ := q28
  have ga_d : n0 ≤ d := Nat.le_trans (own_n0 K.old) hd
  have sz_d : h0.size ≤ d := Nat.le_trans KP.1 hd
  have ne_a_d : a ≠ d := own_ne2 X_a.lt hd
  replace sf_a := tr28 a X_a.lt sf_a
  replace KP := KP.trans KQ (allS (Or.inl (by simp)) all0)
  replace X_a := q1
  replace F_a_modCount := q2
  replace F_a_elementData := q3
  replace F_a_size := q4
  show Goes p_.tables e_ below_ _ (T28.setTop (mkF m_ 10 #[.val (.ref a), .val (.ref x), .val (.ref de), .val (.int (0 : Int32))] [(.ref d)]))
  refine k_astoreN K28 d_jdk_38_method_24_code_10 (pc' := 11) (L' := #[.val (.ref a), .val (.ref x), .val (.ref d), .val (.int (0 : Int32))]) rfl rfl rfl ?_
  refine k_aloadN K28 d_jdk_38_method_24_code_11 (pc' := 12) rfl rfl rfl ?_
  refine k_iloadN K28 d_jdk_38_method_24_code_12 (pc' := 13) rfl rfl ?_
  refine k_aloadN K28 d_jdk_38_method_24_code_13 (pc' := 14) rfl rfl rfl ?_
  refine k_aastore K28 (j := (0 : Int32)) V_d rfl (own_sto V_d O_d (Ins.of_exa (Ix.ext K28.old.2) (w79 hw))) rfl ⟨by decide, by decide⟩ (Nat.le_of_ble_eq_true rfl) ga_d sf_d d_jdk_38_method_24_code_14 (pc' := 15) rfl ?_
  intro T29 h29 K29 W29 tr29 V29
  replace sf_a := tr29 a X_a.lt sf_a
  replace sf_d := tr29 d V_d.lt sf_d
  replace X_a := X_a.wr W29
  replace F_a_modCount := F_a_modCount.other W29 (Or.inl ne_a_d)
  replace F_a_elementData := F_a_elementData.other W29 (Or.inl ne_a_d)
  replace F_a_size := F_a_size.other W29 (Or.inl ne_a_d)
  replace KP := KP.wr W29 (Or.inr sz_d)
  replace V_d := V29
  refine k_aloadN K29 d_jdk_38_method_24_code_15 (pc' := 16) rfl rfl rfl ?_
  refine k_iloadN K29 d_jdk_38_method_24_code_16 (pc' := 17) rfl rfl ?_
  refine k_iconst K29 (1 : Int32) d_jdk_38_method_24_code_17 (pc' := 18) rfl rfl ?_
  refine k_iadd K29 d_jdk_38_method_24_code_18 (pc' := 19) rfl ?_
  rw [show (0 : Int32) + 1 = 1 by decide]
  refine k_putF K29 (w56 hw) Via.refl F_a_size X_a (Or.inl (w57 hw)) (w5 hw) (ty := .int) (by decide) rfl rfl ga_a sf_a d_jdk_38_method_24_code_19 (pc' := 22) rfl ?_
  intro T30 h30 K30 W30 tr30
  have F30 := F_a_size.same W30
  replace sf_a := tr30 a X_a.lt sf_a
  replace sf_d := tr30 d V_d.lt sf_d
  replace X_a := X_a.wr W30
  replace F_a_modCount := F_a_modCount.other W30 (Or.inr (slot_ne (Or.inl (w26 hw)) (Or.inl (w57 hw)) (by decide) (t := .int) (t' := .int) (by decide) (by decide)))
  replace F_a_elementData := F_a_elementData.other W30 (Or.inr (slot_ne (Or.inl (w29 hw)) (Or.inl (w57 hw)) (by decide) (t := (.array (.object "java/lang/Object"))) (t' := .int) (by decide) (by decide)))
  replace V_d := V_d.other W30 (Ne.symm ne_a_d)
  replace KP := KP.wr W30 (Or.inl (by simp))
  replace F_a_size := F30
  exact k_return K30 d_jdk_38_method_24_code_22 rfl (fun sf ht => ⟨rfl, d, kd, sz_d, KP, X_a, F_a_modCount, F_a_elementData, F_a_size, V_d, O_d, ht _ V_d.lt sf_d⟩) (by decide) (by decide)
theorem d_jdk_38_method_25_code_0 : decode jdk_38_method_25_code 0 = .ok (.aload_n 0, 1) := by decide +kernel
theorem d_jdk_38_method_25_code_1 : decode jdk_38_method_25_code 1 = .ok (.dup, 1) := by decide +kernel
theorem d_jdk_38_method_25_code_2 : decode jdk_38_method_25_code 2 = .ok (.getfield 63, 3) := by decide +kernel
theorem w54 {Z : State} {a0 : Array Value} (hw : Tb a0 Z) : (Jvm.Cond.fieldLink "java/util/ArrayList" (63 : Nat) "java/util/ArrayList" "modCount" "I").before a0 Z = true := hw _ (List.mem_of_getElem? (i := 54) rfl)
theorem w55 {Z : State} {a0 : Array Value} (hw : Tb a0 Z) : (Jvm.Cond.sameField "java/util/ArrayList" "java/util/AbstractList" "modCount" "I").before a0 Z = true := hw _ (List.mem_of_getElem? (i := 55) rfl)
theorem d_jdk_38_method_25_code_5 : decode jdk_38_method_25_code 5 = .ok (.iconst 1, 1) := by decide +kernel
theorem d_jdk_38_method_25_code_6 : decode jdk_38_method_25_code 6 = .ok (.iadd, 1) := by decide +kernel
theorem d_jdk_38_method_25_code_7 : decode jdk_38_method_25_code 7 = .ok (.putfield 63, 3) := by decide +kernel
theorem d_jdk_38_method_25_code_10 : decode jdk_38_method_25_code 10 = .ok (.aload_n 0, 1) := by decide +kernel
theorem d_jdk_38_method_25_code_11 : decode jdk_38_method_25_code 11 = .ok (.aload_n 1, 1) := by decide +kernel
theorem d_jdk_38_method_25_code_12 : decode jdk_38_method_25_code 12 = .ok (.aload_n 0, 1) := by decide +kernel
theorem d_jdk_38_method_25_code_13 : decode jdk_38_method_25_code 13 = .ok (.getfield 9, 3) := by decide +kernel
theorem d_jdk_38_method_25_code_16 : decode jdk_38_method_25_code 16 = .ok (.aload_n 0, 1) := by decide +kernel
theorem d_jdk_38_method_25_code_17 : decode jdk_38_method_25_code 17 = .ok (.getfield 48, 3) := by decide +kernel
theorem d_jdk_38_method_25_code_20 : decode jdk_38_method_25_code 20 = .ok (.invokevirtual 131, 3) := by decide +kernel
theorem w58 {Z : State} {a0 : Array Value} (hw : Tb a0 Z) : (Jvm.Cond.methodLink "java/util/ArrayList" (131 : Nat) ({ cls := "java/util/ArrayList", name := "add", desc := "(Ljava/lang/Object;[Ljava/lang/Object;I)V" } : Jvm.MethodName)).before a0 Z = true := hw _ (List.mem_of_getElem? (i := 58) rfl)
theorem w62 {Z : State} {a0 : Array Value} (hw : Tb a0 Z) : (Jvm.Cond.code ({ cls := "java/util/ArrayList", name := "add", desc := "(Ljava/lang/Object;[Ljava/lang/Object;I)V" } : Jvm.MethodName) jdk_38_method_24_code (4 : Nat) (Option.none : Option Jvm.ClassFile.FieldType)).before a0 Z = true := hw _ (List.mem_of_getElem? (i := 62) rfl)
theorem w60 {Z : State} {a0 : Array Value} (hw : Tb a0 Z) : (Jvm.Cond.privateMethod ({ cls := "java/util/ArrayList", name := "add", desc := "(Ljava/lang/Object;[Ljava/lang/Object;I)V" } : Jvm.MethodName)).before a0 Z = true := hw _ (List.mem_of_getElem? (i := 60) rfl)
theorem w59 {Z : State} {a0 : Array Value} (hw : Tb a0 Z) : (Jvm.Cond.instanceMethod ({ cls := "java/util/ArrayList", name := "add", desc := "(Ljava/lang/Object;[Ljava/lang/Object;I)V" } : Jvm.MethodName)).before a0 Z = true := hw _ (List.mem_of_getElem? (i := 59) rfl)
theorem w61 {Z : State} {a0 : Array Value} (hw : Tb a0 Z) : (Jvm.Cond.selects "java/util/ArrayList" ({ cls := "java/util/ArrayList", name := "add", desc := "(Ljava/lang/Object;[Ljava/lang/Object;I)V" } : Jvm.MethodName) ({ cls := "java/util/ArrayList", name := "add", desc := "(Ljava/lang/Object;[Ljava/lang/Object;I)V" } : Jvm.MethodName)).before a0 Z = true := hw _ (List.mem_of_getElem? (i := 61) rfl)
theorem pd__Ljava_lang_Object__Ljava_lang_Object_I_V_6458 : parseMethodDescriptor "(Ljava/lang/Object;[Ljava/lang/Object;I)V" = some ⟨[(.object "java/lang/Object"), (.array (.object "java/lang/Object")), .int], none⟩ := by decide +kernel
theorem d_jdk_38_method_25_code_23 : decode jdk_38_method_25_code 23 = .ok (.iconst 1, 1) := by decide +kernel
theorem d_jdk_38_method_25_code_24 : decode jdk_38_method_25_code 24 = .ok (.ireturn, 1) := by decide +kernel
set_option maxRecDepth 65536 in
set_option maxHeartbeats 40000000 in
theorem c_add_a (l : Launch) (Z : State) (a0 : Array Value) (hw : Tb a0 Z) (hEW : EW Z a0 EL0) (n0 : Nat) (a de : Addr) (kde : ClassId) (mc : Int32) (x : Addr) (h0 : Heap) (O : Old Z n0 h0) (X_a : Exa Z h0 a "java/util/ArrayList") (F_a_modCount : Fld Z h0 a "java/util/AbstractList" "modCount" "I" (.int mc)) (F_a_elementData : Fld Z h0 a "java/util/ArrayList" "elementData" "[Ljava/lang/Object;" (.ref de)) (F_a_size : Fld Z h0 a "java/util/ArrayList" "size" "I" (.int 0)) (ga_a : n0 ≤ a) (SD0 : Sta Z Z.heap "java/util/ArrayList" "DEFAULTCAPACITY_EMPTY_ELEMENTDATA" "[Ljava/lang/Object;" (.ref de)) (VD : Arv Z Z.heap de kde (.object "java/lang/Object") 0 [] .null) (Ix : Exa Z Z.heap x "java/lang/String") :
    Ct l Z EL0 n0 (⟨"java/util/ArrayList", "add", "(Ljava/lang/Object;)Z"⟩ : MethodName) jdk_38_method_25_code 2 (some .boolean) ({ frames := 4, cells := 1, slots := 10, locals := 56 } : Room) #[(.ref a), (.ref x)] h0 [a] (fun v h sf => v = some (.int 1) ∧ ∃ d kd, h0.size ≤ d ∧ Keep h0 h [a] ∧ Exa Z h a "java/util/ArrayList" ∧ Fld Z h a "java/util/AbstractList" "modCount" "I" (.int (mc + 1)) ∧ Fld Z h a "java/util/ArrayList" "elementData" "[Ljava/lang/Object;" (.ref d) ∧ Fld Z h a "java/util/ArrayList" "size" "I" (.int 1) ∧ Arv Z h d kd (.object "java/lang/Object") 10 [.ref x, .null, .null, .null, .null, .null, .null, .null, .null, .null] .null ∧ Ovr Z kd "java/lang/Object" ∧ sf d) := by
  refine Ct.of (a0 := a0) #[.val (.ref a), .val (.ref x)] hEW O (plainFor_of_name pl_java_util_ArrayList) (fun m => by first | (simp [entryFrame, mkF, argsToLocals, Value.category]; done) | rfl) ?_
  intro p_ e_ s_ m_ below_ meth_ c_ b_ T_ K hSP
  have KP := Keep.refl h0 [a]
  have sf_a := hSP a (by simp)
  refine k_aloadN K d_jdk_38_method_25_code_0 (pc' := 1) rfl rfl rfl ?_
  refine k_dup K d_jdk_38_method_25_code_1 (pc' := 2) rfl rfl ?_
  refine k_getF K (w54 hw) (Via.of (w55 hw)) F_a_modCount d_jdk_38_method_25_code_2 (pc' := 5) rfl ?_
  intro T31 K31
  refine k_iconst K31 (1 : Int32) d_jdk_38_method_25_code_5 (pc' := 6) rfl rfl ?_
  refine k_iadd K31 d_jdk_38_method_25_code_6 (pc' := 7) rfl ?_
  refine k_putF K31 (w54 hw) (Via.of (w55 hw)) F_a_modCount X_a (Or.inl (w26 hw)) (w5 hw) (ty := .int) (by decide) rfl rfl ga_a sf_a d_jdk_38_method_25_code_7 (pc' := 10) rfl ?_
  intro T32 h32 K32 W32 tr32
  have F32 := F_a_modCount.same W32
  replace sf_a := tr32 a X_a.lt sf_a
  replace X_a := X_a.wr W32
  replace F_a_elementData := F_a_elementData.other W32 (Or.inr (slot_ne (Or.inl (w29 hw)) (Or.inl (w26 hw)) (by decide) (t := (.array (.object "java/lang/Object"))) (t' := .int) (by decide) (by decide)))
  replace F_a_size := F_a_size.other W32 (Or.inr (slot_ne (Or.inl (w57 hw)) (Or.inl (w26 hw)) (by decide) (t := .int) (t' := .int) (by decide) (by decide)))
  replace KP := KP.wr W32 (Or.inl (by simp))
  replace F_a_modCount := F32
  refine k_aloadN K32 d_jdk_38_method_25_code_10 (pc' := 11) rfl rfl rfl ?_
  refine k_aloadN K32 d_jdk_38_method_25_code_11 (pc' := 12) rfl rfl rfl ?_
  refine k_aloadN K32 d_jdk_38_method_25_code_12 (pc' := 13) rfl rfl rfl ?_
  refine k_getF K32 (w28 hw) Via.refl F_a_elementData d_jdk_38_method_25_code_13 (pc' := 16) rfl ?_
  intro T33 K33
  refine k_aloadN K33 d_jdk_38_method_25_code_16 (pc' := 17) rfl rfl rfl ?_
  refine k_getF K33 (w56 hw) Via.refl F_a_size d_jdk_38_method_25_code_17 (pc' := 20) rfl ?_
  intro T34 K34
  refine k_private K34 [(.ref x), (.ref de), (.int (0 : Int32))] [] 0 (w58 hw) (w59 hw) (mvT K34.hZ (w61 hw)) (w60 hw) (w6 hw) (w62 hw) X_a (by decide) pd__Ljava_lang_Object__Ljava_lang_Object_I_V_6458 (c_add3a l Z a0 hw hEW n0 a de kde (mc + 1) x h32 K34.old X_a F_a_modCount F_a_elementData F_a_size ga_a SD0 VD Ix) d_jdk_38_method_25_code_20 (fun x hx => by cases List.mem_singleton.mp hx; exact ⟨X_a.lt, sf_a⟩) (pc' := 23) rfl rfl rfl rfl (Nat.le_of_eq rfl) (by decide) (by decide) (by decide) (by decide) ?_
  intro b35 T35 h35 L35 v35 K35 tr35 q35
  obtain ⟨rfl, d, kd, hd, KQ, q1, q2, q3, q4, V_d, O_d, sf_d⟩ := q35
  have KK := KP.trans KQ (allS (Or.inl (by simp)) all0)
  show Goes p_.tables e_ below_ _ (T35.setTop (mkF m_ 23 #[.val (.ref a), .val (.ref x)] []))
  refine k_iconst K35 (1 : Int32) d_jdk_38_method_25_code_23 (pc' := 24) rfl rfl ?_
  exact k_nret K35 d_jdk_38_method_25_code_24 rfl (by simp) rfl (fun sf ht => ⟨rfl, d, kd, Nat.le_trans KP.1 hd, KK, q1, q2, q3, q4, V_d, O_d, ht _ V_d.lt sf_d⟩) (by decide) (by decide)
set_option maxRecDepth 65536 in
set_option maxHeartbeats 40000000 in
theorem c_add3b (l : Launch) (Z : State) (a0 : Array Value) (hw : Tb a0 Z) (hEW : EW Z a0 EL0) (n0 : Nat) (a d : Addr) (kd : ClassId) (mc : Int32) (x x2 : Addr) (h0 : Heap) (O : Old Z n0 h0) (X_a : Exa Z h0 a "java/util/ArrayList") (F_a_modCount : Fld Z h0 a "java/util/AbstractList" "modCount" "I" (.int mc)) (F_a_elementData : Fld Z h0 a "java/util/ArrayList" "elementData" "[Ljava/lang/Object;" (.ref d)) (F_a_size : Fld Z h0 a "java/util/ArrayList" "size" "I" (.int 1)) (ga_a : n0 ≤ a) (ga_d : n0 ≤ d) (ne_a_d : a ≠ d) (V_d : Arv Z h0 d kd (.object "java/lang/Object") 10 [.ref x, .null, .null, .null, .null, .null, .null, .null, .null, .null] .null) (O_d : Ovr Z kd "java/lang/Object") (Ix : Exa Z Z.heap x2 "java/lang/String") :
    Ct l Z EL0 n0 (⟨"java/util/ArrayList", "add", "(Ljava/lang/Object;[Ljava/lang/Object;I)V"⟩ : MethodName) jdk_38_method_24_code 4 none ({ frames := 0, cells := 0, slots := 0, locals := 0 } : Room) #[(.ref a), (.ref x2), (.ref d), (.int (1 : Int32))] h0 [a, d] (fun v h sf => v = none ∧ Keep h0 h [a, d] ∧ Exa Z h a "java/util/ArrayList" ∧ Fld Z h a "java/util/AbstractList" "modCount" "I" (.int mc) ∧ Fld Z h a "java/util/ArrayList" "elementData" "[Ljava/lang/Object;" (.ref d) ∧ Fld Z h a "java/util/ArrayList" "size" "I" (.int 2) ∧ Arv Z h d kd (.object "java/lang/Object") 10 [.ref x, .ref x2, .null, .null, .null, .null, .null, .null, .null, .null] .null) := by
  refine Ct.of (a0 := a0) #[.val (.ref a), .val (.ref x2), .val (.ref d), .val (.int (1 : Int32))] hEW O (plainFor_of_name pl_java_util_ArrayList) (fun m => by first | (simp [entryFrame, mkF, argsToLocals, Value.category]; done) | rfl) ?_
  intro p_ e_ s_ m_ below_ meth_ c_ b_ T_ K hSP
  have KP := Keep.refl h0 [a, d]
  have sf_a := hSP a (by simp)
  have sf_d := hSP d (by simp)
  refine k_iloadN K d_jdk_38_method_24_code_0 (pc' := 1) rfl rfl ?_
  refine k_aloadN K d_jdk_38_method_24_code_1 (pc' := 2) rfl rfl rfl ?_
  refine k_len K V_d d_jdk_38_method_24_code_2 (pc' := 3) rfl ?_
  refine k_icmp_ne K d_jdk_38_method_24_code_3 (by decide) (pc' := 11) (pc2 := 6) (by decide) rfl (fun hc3 => ?_) (fun q => absurd q (by decide))
  refine k_aloadN K d_jdk_38_method_24_code_11 (pc' := 12) rfl rfl rfl ?_
  refine k_iloadN K d_jdk_38_method_24_code_12 (pc' := 13) rfl rfl ?_
  refine k_aloadN K d_jdk_38_method_24_code_13 (pc' := 14) rfl rfl rfl ?_
  refine k_aastore K (j := (1 : Int32)) V_d rfl (own_sto V_d O_d (Ins.of_exa (Ix.ext K.old.2) (w79 hw))) rfl ⟨by decide, by decide⟩ (Nat.le_of_ble_eq_true rfl) ga_d sf_d d_jdk_38_method_24_code_14 (pc' := 15) rfl ?_
  intro T36 h36 K36 W36 tr36 V36
  replace sf_a := tr36 a X_a.lt sf_a
  replace sf_d := tr36 d V_d.lt sf_d
  replace X_a := X_a.wr W36
  replace F_a_modCount := F_a_modCount.other W36 (Or.inl ne_a_d)
  replace F_a_elementData := F_a_elementData.other W36 (Or.inl ne_a_d)
  replace F_a_size := F_a_size.other W36 (Or.inl ne_a_d)
  replace KP := KP.wr W36 (Or.inl (by simp))
  replace V_d := V36
  refine k_aloadN K36 d_jdk_38_method_24_code_15 (pc' := 16) rfl rfl rfl ?_
  refine k_iloadN K36 d_jdk_38_method_24_code_16 (pc' := 17) rfl rfl ?_
  refine k_iconst K36 (1 : Int32) d_jdk_38_method_24_code_17 (pc' := 18) rfl rfl ?_
  refine k_iadd K36 d_jdk_38_method_24_code_18 (pc' := 19) rfl ?_
  rw [show (1 : Int32) + 1 = 2 by decide]
  refine k_putF K36 (w56 hw) Via.refl F_a_size X_a (Or.inl (w57 hw)) (w5 hw) (ty := .int) (by decide) rfl rfl ga_a sf_a d_jdk_38_method_24_code_19 (pc' := 22) rfl ?_
  intro T37 h37 K37 W37 tr37
  have F37 := F_a_size.same W37
  replace sf_a := tr37 a X_a.lt sf_a
  replace sf_d := tr37 d V_d.lt sf_d
  replace X_a := X_a.wr W37
  replace F_a_modCount := F_a_modCount.other W37 (Or.inr (slot_ne (Or.inl (w26 hw)) (Or.inl (w57 hw)) (by decide) (t := .int) (t' := .int) (by decide) (by decide)))
  replace F_a_elementData := F_a_elementData.other W37 (Or.inr (slot_ne (Or.inl (w29 hw)) (Or.inl (w57 hw)) (by decide) (t := (.array (.object "java/lang/Object"))) (t' := .int) (by decide) (by decide)))
  replace V_d := V_d.other W37 (Ne.symm ne_a_d)
  replace KP := KP.wr W37 (Or.inl (by simp))
  replace F_a_size := F37
  exact k_return K37 d_jdk_38_method_24_code_22 rfl (fun sf ht => ⟨rfl, KP, X_a, F_a_modCount, F_a_elementData, F_a_size, V_d⟩) (by decide) (by decide)
set_option maxRecDepth 65536 in
set_option maxHeartbeats 40000000 in
theorem c_add_b (l : Launch) (Z : State) (a0 : Array Value) (hw : Tb a0 Z) (hEW : EW Z a0 EL0) (n0 : Nat) (a d : Addr) (kd : ClassId) (mc : Int32) (x x2 : Addr) (h0 : Heap) (O : Old Z n0 h0) (X_a : Exa Z h0 a "java/util/ArrayList") (F_a_modCount : Fld Z h0 a "java/util/AbstractList" "modCount" "I" (.int mc)) (F_a_elementData : Fld Z h0 a "java/util/ArrayList" "elementData" "[Ljava/lang/Object;" (.ref d)) (F_a_size : Fld Z h0 a "java/util/ArrayList" "size" "I" (.int 1)) (ga_a : n0 ≤ a) (ga_d : n0 ≤ d) (ne_a_d : a ≠ d) (V_d : Arv Z h0 d kd (.object "java/lang/Object") 10 [.ref x, .null, .null, .null, .null, .null, .null, .null, .null, .null] .null) (O_d : Ovr Z kd "java/lang/Object") (Ix : Exa Z Z.heap x2 "java/lang/String") :
    Ct l Z EL0 n0 (⟨"java/util/ArrayList", "add", "(Ljava/lang/Object;)Z"⟩ : MethodName) jdk_38_method_25_code 2 (some .boolean) ({ frames := 1, cells := 0, slots := 0, locals := 15 } : Room) #[(.ref a), (.ref x2)] h0 [a, d] (fun v h sf => v = some (.int 1) ∧ Keep h0 h [a, d] ∧ Exa Z h a "java/util/ArrayList" ∧ Fld Z h a "java/util/AbstractList" "modCount" "I" (.int (mc + 1)) ∧ Fld Z h a "java/util/ArrayList" "elementData" "[Ljava/lang/Object;" (.ref d) ∧ Fld Z h a "java/util/ArrayList" "size" "I" (.int 2) ∧ Arv Z h d kd (.object "java/lang/Object") 10 [.ref x, .ref x2, .null, .null, .null, .null, .null, .null, .null, .null] .null) := by
  refine Ct.of (a0 := a0) #[.val (.ref a), .val (.ref x2)] hEW O (plainFor_of_name pl_java_util_ArrayList) (fun m => by first | (simp [entryFrame, mkF, argsToLocals, Value.category]; done) | rfl) ?_
  intro p_ e_ s_ m_ below_ meth_ c_ b_ T_ K hSP
  have KP := Keep.refl h0 [a, d]
  have sf_a := hSP a (by simp)
  have sf_d := hSP d (by simp)
  refine k_aloadN K d_jdk_38_method_25_code_0 (pc' := 1) rfl rfl rfl ?_
  refine k_dup K d_jdk_38_method_25_code_1 (pc' := 2) rfl rfl ?_
  refine k_getF K (w54 hw) (Via.of (w55 hw)) F_a_modCount d_jdk_38_method_25_code_2 (pc' := 5) rfl ?_
  intro T38 K38
  refine k_iconst K38 (1 : Int32) d_jdk_38_method_25_code_5 (pc' := 6) rfl rfl ?_
  refine k_iadd K38 d_jdk_38_method_25_code_6 (pc' := 7) rfl ?_
  refine k_putF K38 (w54 hw) (Via.of (w55 hw)) F_a_modCount X_a (Or.inl (w26 hw)) (w5 hw) (ty := .int) (by decide) rfl rfl ga_a sf_a d_jdk_38_method_25_code_7 (pc' := 10) rfl ?_
  intro T39 h39 K39 W39 tr39
  have F39 := F_a_modCount.same W39
  replace sf_a := tr39 a X_a.lt sf_a
  replace sf_d := tr39 d V_d.lt sf_d
  replace X_a := X_a.wr W39
  replace F_a_elementData := F_a_elementData.other W39 (Or.inr (slot_ne (Or.inl (w29 hw)) (Or.inl (w26 hw)) (by decide) (t := (.array (.object "java/lang/Object"))) (t' := .int) (by decide) (by decide)))
  replace F_a_size := F_a_size.other W39 (Or.inr (slot_ne (Or.inl (w57 hw)) (Or.inl (w26 hw)) (by decide) (t := .int) (t' := .int) (by decide) (by decide)))
  replace V_d := V_d.other W39 (Ne.symm ne_a_d)
  replace KP := KP.wr W39 (Or.inl (by simp))
  replace F_a_modCount := F39
  refine k_aloadN K39 d_jdk_38_method_25_code_10 (pc' := 11) rfl rfl rfl ?_
  refine k_aloadN K39 d_jdk_38_method_25_code_11 (pc' := 12) rfl rfl rfl ?_
  refine k_aloadN K39 d_jdk_38_method_25_code_12 (pc' := 13) rfl rfl rfl ?_
  refine k_getF K39 (w28 hw) Via.refl F_a_elementData d_jdk_38_method_25_code_13 (pc' := 16) rfl ?_
  intro T40 K40
  refine k_aloadN K40 d_jdk_38_method_25_code_16 (pc' := 17) rfl rfl rfl ?_
  refine k_getF K40 (w56 hw) Via.refl F_a_size d_jdk_38_method_25_code_17 (pc' := 20) rfl ?_
  intro T41 K41
  refine k_private K41 [(.ref x2), (.ref d), (.int (1 : Int32))] [] 0 (w58 hw) (w59 hw) (mvT K41.hZ (w61 hw)) (w60 hw) (w6 hw) (w62 hw) X_a (by decide) pd__Ljava_lang_Object__Ljava_lang_Object_I_V_6458 (c_add3b l Z a0 hw hEW n0 a d kd (mc + 1) x x2 h39 K41.old X_a F_a_modCount F_a_elementData F_a_size ga_a ga_d ne_a_d V_d O_d Ix) d_jdk_38_method_25_code_20 (fun x hx => by
    simp only [List.mem_cons, List.not_mem_nil, or_false] at hx
    rcases hx with rfl | rfl
    · exact ⟨X_a.lt, sf_a⟩
    · exact ⟨V_d.lt, sf_d⟩) (pc' := 23) rfl rfl rfl rfl (Nat.le_of_eq rfl) (by decide) (by decide) (by decide) (by decide) ?_
  intro b42 T42 h42 L42 v42 K42 tr42 q42
  obtain ⟨rfl, KQ, q1, q2, q3, q4, V2⟩ := q42
  have KK := KP.trans KQ (allS (Or.inl (by simp)) (allS (Or.inl (by simp)) all0))
  show Goes p_.tables e_ below_ _ (T42.setTop (mkF m_ 23 #[.val (.ref a), .val (.ref x2)] []))
  refine k_iconst K42 (1 : Int32) d_jdk_38_method_25_code_23 (pc' := 24) rfl rfl ?_
  exact k_nret K42 d_jdk_38_method_25_code_24 rfl (by simp) rfl (fun sf ht => ⟨rfl, KK, q1, q2, q3, q4, V2⟩) (by decide) (by decide)
theorem d_prog_5_method_7_code_0 : decode prog_5_method_7_code 0 = .ok (.new 56, 3) := by decide +kernel
theorem w4 {Z : State} {a0 : Array Value} (hw : Tb a0 Z) : (Jvm.Cond.classLink "com/example/halfpower/halfpower/certificate/Language" (56 : Nat) "java/util/ArrayList").before a0 Z = true := hw _ (List.mem_of_getElem? (i := 4) rfl)
theorem d_prog_5_method_7_code_3 : decode prog_5_method_7_code 3 = .ok (.dup, 1) := by decide +kernel
theorem d_prog_5_method_7_code_4 : decode prog_5_method_7_code 4 = .ok (.invokespecial 58, 3) := by decide +kernel
theorem w7 {Z : State} {a0 : Array Value} (hw : Tb a0 Z) : (Jvm.Cond.methodLink "com/example/halfpower/halfpower/certificate/Language" (58 : Nat) ({ cls := "java/util/ArrayList", name := "<init>", desc := "()V" } : Jvm.MethodName)).before a0 Z = true := hw _ (List.mem_of_getElem? (i := 7) rfl)
theorem w9 {Z : State} {a0 : Array Value} (hw : Tb a0 Z) : (Jvm.Cond.code ({ cls := "java/util/ArrayList", name := "<init>", desc := "()V" } : Jvm.MethodName) jdk_38_method_2_code (1 : Nat) (Option.none : Option Jvm.ClassFile.FieldType)).before a0 Z = true := hw _ (List.mem_of_getElem? (i := 9) rfl)
theorem w8 {Z : State} {a0 : Array Value} (hw : Tb a0 Z) : (Jvm.Cond.instanceMethod ({ cls := "java/util/ArrayList", name := "<init>", desc := "()V" } : Jvm.MethodName)).before a0 Z = true := hw _ (List.mem_of_getElem? (i := 8) rfl)
theorem d_prog_5_method_7_code_7 : decode prog_5_method_7_code 7 = .ok (.astore_n 0, 1) := by decide +kernel
theorem d_prog_5_method_7_code_8 : decode prog_5_method_7_code 8 = .ok (.invokestatic 36, 3) := by decide +kernel
theorem w30 {Z : State} {a0 : Array Value} (hw : Tb a0 Z) : (Jvm.Cond.methodLink "com/example/halfpower/halfpower/certificate/Language" (36 : Nat) ({ cls := "com/example/halfpower/halfpower/certificate/Language", name := "values", desc := "()[Lcom/example/halfpower/halfpower/certificate/Language;" } : Jvm.MethodName)).before a0 Z = true := hw _ (List.mem_of_getElem? (i := 30) rfl)
theorem w2 {Z : State} {a0 : Array Value} (hw : Tb a0 Z) : (Jvm.Cond.initialized "com/example/halfpower/halfpower/certificate/Language").before a0 Z = true := hw _ (List.mem_of_getElem? (i := 2) rfl)
theorem w32 {Z : State} {a0 : Array Value} (hw : Tb a0 Z) : (Jvm.Cond.code ({ cls := "com/example/halfpower/halfpower/certificate/Language", name := "values", desc := "()[Lcom/example/halfpower/halfpower/certificate/Language;" } : Jvm.MethodName) prog_5_method_1_code (0 : Nat) (Option.some (Jvm.ClassFile.FieldType.array (Jvm.ClassFile.FieldType.object "com/example/halfpower/halfpower/certificate/Language")))).before a0 Z = true := hw _ (List.mem_of_getElem? (i := 32) rfl)
theorem w31 {Z : State} {a0 : Array Value} (hw : Tb a0 Z) : (Jvm.Cond.static ({ cls := "com/example/halfpower/halfpower/certificate/Language", name := "values", desc := "()[Lcom/example/halfpower/halfpower/certificate/Language;" } : Jvm.MethodName)).before a0 Z = true := hw _ (List.mem_of_getElem? (i := 31) rfl)
theorem pd____Lcom_example_halfpower_halfpower_certificate_Language__2980 : parseMethodDescriptor "()[Lcom/example/halfpower/halfpower/certificate/Language;" = some ⟨[], some (.array (.object "com/example/halfpower/halfpower/certificate/Language"))⟩ := by decide +kernel
theorem d_prog_5_method_7_code_11 : decode prog_5_method_7_code 11 = .ok (.astore_n 1, 1) := by decide +kernel
theorem d_prog_5_method_7_code_12 : decode prog_5_method_7_code 12 = .ok (.aload_n 1, 1) := by decide +kernel
theorem d_prog_5_method_7_code_13 : decode prog_5_method_7_code 13 = .ok (.arraylength, 1) := by decide +kernel
theorem d_prog_5_method_7_code_14 : decode prog_5_method_7_code 14 = .ok (.istore_n 2, 1) := by decide +kernel
theorem d_prog_5_method_7_code_15 : decode prog_5_method_7_code 15 = .ok (.iconst 0, 1) := by decide +kernel
theorem d_prog_5_method_7_code_16 : decode prog_5_method_7_code 16 = .ok (.istore_n 3, 1) := by decide +kernel
theorem d_prog_5_method_7_code_17 : decode prog_5_method_7_code 17 = .ok (.iload_n 3, 1) := by decide +kernel
theorem d_prog_5_method_7_code_18 : decode prog_5_method_7_code 18 = .ok (.iload_n 2, 1) := by decide +kernel
theorem d_prog_5_method_7_code_19 : decode prog_5_method_7_code 19 = .ok (.if_icmp .ge 24, 3) := by decide +kernel
theorem d_prog_5_method_7_code_22 : decode prog_5_method_7_code 22 = .ok (.aload_n 1, 1) := by decide +kernel
theorem d_prog_5_method_7_code_23 : decode prog_5_method_7_code 23 = .ok (.iload_n 3, 1) := by decide +kernel
theorem d_prog_5_method_7_code_24 : decode prog_5_method_7_code 24 = .ok (.aaload, 1) := by decide +kernel
theorem d_prog_5_method_7_code_25 : decode prog_5_method_7_code 25 = .ok (.astore 4, 2) := by decide +kernel
theorem d_prog_5_method_7_code_27 : decode prog_5_method_7_code 27 = .ok (.aload_n 0, 1) := by decide +kernel
theorem d_prog_5_method_7_code_28 : decode prog_5_method_7_code 28 = .ok (.aload 4, 2) := by decide +kernel
theorem d_prog_5_method_7_code_30 : decode prog_5_method_7_code 30 = .ok (.getfield 29, 3) := by decide +kernel
theorem d_prog_5_method_7_code_33 : decode prog_5_method_7_code 33 = .ok (.invokevirtual 61, 3) := by decide +kernel
theorem w49 {Z : State} {a0 : Array Value} (hw : Tb a0 Z) : (Jvm.Cond.methodLink "com/example/halfpower/halfpower/certificate/Language" (61 : Nat) ({ cls := "java/util/ArrayList", name := "add", desc := "(Ljava/lang/Object;)Z" } : Jvm.MethodName)).before a0 Z = true := hw _ (List.mem_of_getElem? (i := 49) rfl)
theorem w53 {Z : State} {a0 : Array Value} (hw : Tb a0 Z) : (Jvm.Cond.code ({ cls := "java/util/ArrayList", name := "add", desc := "(Ljava/lang/Object;)Z" } : Jvm.MethodName) jdk_38_method_25_code (2 : Nat) (Option.some Jvm.ClassFile.FieldType.boolean)).before a0 Z = true := hw _ (List.mem_of_getElem? (i := 53) rfl)
theorem w52 {Z : State} {a0 : Array Value} (hw : Tb a0 Z) : (Jvm.Cond.selects "java/util/ArrayList" ({ cls := "java/util/ArrayList", name := "add", desc := "(Ljava/lang/Object;)Z" } : Jvm.MethodName) ({ cls := "java/util/ArrayList", name := "add", desc := "(Ljava/lang/Object;)Z" } : Jvm.MethodName)).before a0 Z = true := hw _ (List.mem_of_getElem? (i := 52) rfl)
theorem w50 {Z : State} {a0 : Array Value} (hw : Tb a0 Z) : (Jvm.Cond.declares ({ cls := "java/util/ArrayList", name := "add", desc := "(Ljava/lang/Object;)Z" } : Jvm.MethodName)).before a0 Z = true := hw _ (List.mem_of_getElem? (i := 50) rfl)
theorem w51 {Z : State} {a0 : Array Value} (hw : Tb a0 Z) : (Jvm.Cond.instanceMethod ({ cls := "java/util/ArrayList", name := "add", desc := "(Ljava/lang/Object;)Z" } : Jvm.MethodName)).before a0 Z = true := hw _ (List.mem_of_getElem? (i := 51) rfl)
theorem pd__Ljava_lang_Object__Z_194 : parseMethodDescriptor "(Ljava/lang/Object;)Z" = some ⟨[(.object "java/lang/Object")], some .boolean⟩ := by decide +kernel
theorem d_prog_5_method_7_code_36 : decode prog_5_method_7_code 36 = .ok (.pop, 1) := by decide +kernel
theorem d_prog_5_method_7_code_37 : decode prog_5_method_7_code 37 = .ok (.iinc 3 1, 3) := by decide +kernel
theorem d_prog_5_method_7_code_40 : decode prog_5_method_7_code 40 = .ok (.goto (-23), 3) := by decide +kernel
theorem d_prog_5_method_7_code_43 : decode prog_5_method_7_code 43 = .ok (.aload_n 0, 1) := by decide +kernel
theorem d_prog_5_method_7_code_44 : decode prog_5_method_7_code 44 = .ok (.areturn, 1) := by decide +kernel
set_option maxRecDepth 65536 in
set_option maxHeartbeats 40000000 in
theorem c_codes (l : Launch) (Z : State) (a0 : Array Value) (hw : Tb a0 Z) (hEW : EW Z a0 EL0) (n0 : Nat) (va en ch de ec cc : Addr) (kv kde : ClassId) (h0 : Heap) (O : Old Z n0 h0) (SV : Sta Z Z.heap "com/example/halfpower/halfpower/certificate/Language" "$VALUES" "[Lcom/example/halfpower/halfpower/certificate/Language;" (.ref va)) (VV : Arv Z Z.heap va kv (.object "com/example/halfpower/halfpower/certificate/Language") 2 [.ref en, .ref ch] .null) (XV : Exa Z Z.heap va "[Lcom/example/halfpower/halfpower/certificate/Language;") (hfit : Fit Z) (SD0 : Sta Z Z.heap "java/util/ArrayList" "DEFAULTCAPACITY_EMPTY_ELEMENTDATA" "[Ljava/lang/Object;" (.ref de)) (VD : Arv Z Z.heap de kde (.object "java/lang/Object") 0 [] .null) (Fe : Fld Z Z.heap en "com/example/halfpower/halfpower/certificate/Language" "code" "Ljava/lang/String;" (.ref ec)) (Fc : Fld Z Z.heap ch "com/example/halfpower/halfpower/certificate/Language" "code" "Ljava/lang/String;" (.ref cc)) (Xec : Exa Z Z.heap ec "java/lang/String") (Xcc : Exa Z Z.heap cc "java/lang/String") :
    Ct l Z EL0 n0 (⟨"com/example/halfpower/halfpower/certificate/Language", "codes", "()Ljava/util/List;"⟩ : MethodName) prog_5_method_7_code 5 (some (.object "java/util/List")) ({ frames := 5, cells := 3, slots := 15, locals := 69 } : Room) #[] h0 [] (fun v h sf => ∃ a d kd, v = some (.ref a) ∧ Exa Z h a "java/util/ArrayList" ∧ Fld Z h a "java/util/ArrayList" "elementData" "[Ljava/lang/Object;" (.ref d) ∧ Fld Z h a "java/util/ArrayList" "size" "I" (.int 2) ∧ Arv Z h d kd (.object "java/lang/Object") 10 [.ref ec, .ref cc, .null, .null, .null, .null, .null, .null, .null, .null] .null) := by
  refine Ct.of (a0 := a0) #[.unset, .unset, .unset, .unset, .unset] hEW O (plainFor_of_name pl_com_example_halfpower_halfpower_certificate_Language) (fun m => by first | (simp [entryFrame, mkF, argsToLocals, Value.category]; done) | rfl) ?_
  intro p_ e_ s_ m_ below_ meth_ c_ b_ T_ K hSP
  refine k_new K (w4 hw) (w5 hw) (w6 hw) d_prog_5_method_7_code_0 (pc' := 3) rfl (by decide) (by decide) ?_
  intro T43 h43 a43 g43 K43 E43 tr43 sf_a43 X_a43 D43 U43
  have ga_a43 : n0 ≤ a43 := own_old K.old g43
  have F_a43_modCount : Fld Z h43 a43 "java/util/AbstractList" "modCount" "I" (.int (0 : Int32)) := D43 (Or.inl (w26 hw)) (ty := .int) (by decide)
  have F_a43_elementData : Fld Z h43 a43 "java/util/ArrayList" "elementData" "[Ljava/lang/Object;" .null := D43 (Or.inl (w29 hw)) (ty := (.array (.object "java/lang/Object"))) (by decide)
  have F_a43_size : Fld Z h43 a43 "java/util/ArrayList" "size" "I" (.int (0 : Int32)) := D43 (Or.inl (w57 hw)) (ty := .int) (by decide)
  refine k_dup K43 d_prog_5_method_7_code_3 (pc' := 4) rfl rfl ?_
  refine k_special K43 [] [(.ref a43)] 1 (w7 hw) (w8 hw) (w6 hw) (w9 hw) rfl rfl (by decide) pd___V_380 (c_alInit l Z a0 hw hEW n0 a43 de _ _ h43 K43.old X_a43 F_a43_modCount F_a43_elementData F_a43_size ga_a43 SD0) d_prog_5_method_7_code_4 (fun x hx => by cases List.mem_singleton.mp hx; exact ⟨X_a43.lt, sf_a43⟩) (pc' := 7) rfl rfl rfl rfl (Nat.le_of_eq rfl) (by decide) (by decide) (by decide) (by decide) ?_
  intro b44 T44 h44 L44 v44 K44 tr44 q44
  obtain ⟨rfl, KQ, q1, q2, q3, q4⟩ := q44
  replace sf_a43 := tr44 a43 X_a43.lt sf_a43
  replace X_a43 := q1
  replace F_a43_modCount := q2
  replace F_a43_elementData := q3
  replace F_a43_size := q4
  show Goes p_.tables e_ below_ _ (T44.setTop (mkF m_ 7 #[.unset, .unset, .unset, .unset, .unset] [(.ref a43)]))
  refine k_astoreN K44 d_prog_5_method_7_code_7 (pc' := 8) (L' := #[.val (.ref a43), .unset, .unset, .unset, .unset]) rfl rfl rfl ?_
  refine k_static K44 [] [] 0 (w30 hw) (w31 hw) (w2 hw) (w32 hw) (by decide) pd____Lcom_example_halfpower_halfpower_certificate_Language__2980 (c_values l Z a0 hw hEW n0 va en ch kv h44 K44.old SV VV XV hfit) d_prog_5_method_7_code_8 nofun (pc' := 11) rfl rfl rfl rfl (Nat.le_of_eq rfl) (by decide) (by decide) (by decide) (by decide) ?_
  intro b45 T45 h45 L45 v45 K45 tr45 q45
  obtain ⟨vv, rfl, hvv, KQ2, V_vv⟩ := q45
  have ga_vv : n0 ≤ vv := Nat.le_trans (own_n0 K44.old) hvv
  have ne_a43_vv : a43 ≠ vv := own_ne2 X_a43.lt hvv
  replace sf_a43 := tr45 a43 X_a43.lt sf_a43
  replace X_a43 := X_a43.keep KQ2
  replace F_a43_modCount := F_a43_modCount.keep KQ2 nin0
  replace F_a43_elementData := F_a43_elementData.keep KQ2 nin0
  replace F_a43_size := F_a43_size.keep KQ2 nin0
  show Goes p_.tables e_ below_ _ (T45.setTop (mkF m_ 11 #[.val (.ref a43), .unset, .unset, .unset, .unset] [(.ref vv)]))
  refine k_astoreN K45 d_prog_5_method_7_code_11 (pc' := 12) (L' := #[.val (.ref a43), .val (.ref vv), .unset, .unset, .unset]) rfl rfl rfl ?_
  refine k_aloadN K45 d_prog_5_method_7_code_12 (pc' := 13) rfl rfl rfl ?_
  refine k_len K45 V_vv d_prog_5_method_7_code_13 (pc' := 14) rfl ?_
  refine k_istoreN K45 d_prog_5_method_7_code_14 (pc' := 15) (L' := #[.val (.ref a43), .val (.ref vv), .val (.int (2 : Int32)), .unset, .unset]) rfl rfl ?_
  refine k_iconst K45 (0 : Int32) d_prog_5_method_7_code_15 (pc' := 16) rfl rfl ?_
  refine k_istoreN K45 d_prog_5_method_7_code_16 (pc' := 17) (L' := #[.val (.ref a43), .val (.ref vv), .val (.int (2 : Int32)), .val (.int (0 : Int32)), .unset]) rfl rfl ?_
  refine k_iloadN K45 d_prog_5_method_7_code_17 (pc' := 18) rfl rfl ?_
  refine k_iloadN K45 d_prog_5_method_7_code_18 (pc' := 19) rfl rfl ?_
  refine k_icmp_ge K45 d_prog_5_method_7_code_19 (by decide) (pc' := 43) (pc2 := 22) (by decide) rfl (fun q => absurd (by decide) q) (fun hc19 => ?_)
  refine k_aloadN K45 d_prog_5_method_7_code_22 (pc' := 23) rfl rfl rfl ?_
  refine k_iloadN K45 d_prog_5_method_7_code_23 (pc' := 24) rfl rfl ?_
  refine k_aaload K45 (j := (0 : Int32)) V_vv rfl ⟨by decide, by decide⟩ rfl d_prog_5_method_7_code_24 (pc' := 25) rfl ?_
  refine k_astore K45 d_prog_5_method_7_code_25 (pc' := 27) (L' := #[.val (.ref a43), .val (.ref vv), .val (.int (2 : Int32)), .val (.int (0 : Int32)), .val (.ref en)]) rfl rfl rfl ?_
  refine k_aloadN K45 d_prog_5_method_7_code_27 (pc' := 28) rfl rfl rfl ?_
  refine k_aload K45 d_prog_5_method_7_code_28 (pc' := 30) rfl rfl rfl ?_
  refine k_getF K45 (w47 hw) Via.refl (Fe.ext K45.old.2) d_prog_5_method_7_code_30 (pc' := 33) rfl ?_
  intro T46 K46
  refine k_virtual K46 [(.ref ec)] [] 0 (w49 hw) (w50 hw) (w51 hw) (w52 hw) (w6 hw) (w53 hw) (notFace_of_selects (args := #[]) (mvT K46.hZ (w52 hw))) rfl (by decide) X_a43 (by decide) pd__Ljava_lang_Object__Z_194 (c_add_a l Z a0 hw hEW n0 a43 de kde 0 ec h45 K46.old X_a43 F_a43_modCount F_a43_elementData F_a43_size ga_a43 SD0 VD Xec) d_prog_5_method_7_code_33 (fun x hx => by cases List.mem_singleton.mp hx; exact ⟨X_a43.lt, sf_a43⟩) (pc' := 36) rfl rfl rfl rfl (Nat.le_of_eq rfl) (by decide) (by decide) (by decide) (by decide) ?_
  intro b47 T47 h47 L47 v47 K47 tr47 q47
  obtain ⟨rfl, d, kd, hd, KQ3, q1, q2, q3, q4, V_d, O_d, sf_d⟩ := q47
  have ga_d : n0 ≤ d := Nat.le_trans (own_n0 K46.old) hd
  have ne_a43_d : a43 ≠ d := own_ne2 X_a43.lt hd
  have ne_vv_d : vv ≠ d := own_ne2 V_vv.lt hd
  replace sf_a43 := tr47 a43 X_a43.lt sf_a43
  replace V_vv := V_vv.keep KQ3 (ninS (Ne.symm ne_a43_vv) nin0)
  replace X_a43 := q1
  replace F_a43_modCount := q2
  replace F_a43_elementData := q3
  replace F_a43_size := q4
  show Goes p_.tables e_ below_ _ (T47.setTop (mkF m_ 36 #[.val (.ref a43), .val (.ref vv), .val (.int (2 : Int32)), .val (.int (0 : Int32)), .val (.ref en)] [(.int (1 : Int32))]))
  refine k_pop K47 d_prog_5_method_7_code_36 (pc' := 37) rfl rfl ?_
  refine k_iinc K47 (1 : Int32) d_prog_5_method_7_code_37 (pc' := 40) (L' := #[.val (.ref a43), .val (.ref vv), .val (.int (2 : Int32)), .val (.int ((0 : Int32) + (1 : Int32))), .val (.ref en)]) rfl rfl rfl rfl ?_
  refine k_goto K47 d_prog_5_method_7_code_40 (by decide) (pc' := 17) (by decide) ?_
  rw [show (0 : Int32) + 1 = 1 by decide]
  refine k_iloadN K47 d_prog_5_method_7_code_17 (pc' := 18) rfl rfl ?_
  refine k_iloadN K47 d_prog_5_method_7_code_18 (pc' := 19) rfl rfl ?_
  refine k_icmp_ge K47 d_prog_5_method_7_code_19 (by decide) (pc' := 43) (pc2 := 22) (by decide) rfl (fun q => absurd (by decide) q) (fun hc19 => ?_)
  refine k_aloadN K47 d_prog_5_method_7_code_22 (pc' := 23) rfl rfl rfl ?_
  refine k_iloadN K47 d_prog_5_method_7_code_23 (pc' := 24) rfl rfl ?_
  refine k_aaload K47 (j := (1 : Int32)) V_vv rfl ⟨by decide, by decide⟩ rfl d_prog_5_method_7_code_24 (pc' := 25) rfl ?_
  refine k_astore K47 d_prog_5_method_7_code_25 (pc' := 27) (L' := #[.val (.ref a43), .val (.ref vv), .val (.int (2 : Int32)), .val (.int (1 : Int32)), .val (.ref ch)]) rfl rfl rfl ?_
  refine k_aloadN K47 d_prog_5_method_7_code_27 (pc' := 28) rfl rfl rfl ?_
  refine k_aload K47 d_prog_5_method_7_code_28 (pc' := 30) rfl rfl rfl ?_
  refine k_getF K47 (w47 hw) Via.refl (Fc.ext K47.old.2) d_prog_5_method_7_code_30 (pc' := 33) rfl ?_
  intro T48 K48
  refine k_virtual K48 [(.ref cc)] [] 0 (w49 hw) (w50 hw) (w51 hw) (w52 hw) (w6 hw) (w53 hw) (notFace_of_selects (args := #[]) (mvT K48.hZ (w52 hw))) rfl (by decide) X_a43 (by decide) pd__Ljava_lang_Object__Z_194 (c_add_b l Z a0 hw hEW n0 a43 d kd (0 + 1) ec cc h47 K48.old X_a43 F_a43_modCount F_a43_elementData F_a43_size ga_a43 ga_d ne_a43_d V_d O_d Xcc) d_prog_5_method_7_code_33 (fun x hx => by
    simp only [List.mem_cons, List.not_mem_nil, or_false] at hx
    rcases hx with rfl | rfl
    · exact ⟨X_a43.lt, sf_a43⟩
    · exact ⟨V_d.lt, sf_d⟩) (pc' := 36) rfl rfl rfl rfl (Nat.le_of_eq rfl) (by decide) (by decide) (by decide) (by decide) ?_
  intro b49 T49 h49 L49 v49 K49 tr49 q49
  obtain ⟨rfl, -, q1, -, q3, q4, V2⟩ := q49
  show Goes p_.tables e_ below_ _ (T49.setTop (mkF m_ 36 #[.val (.ref a43), .val (.ref vv), .val (.int (2 : Int32)), .val (.int (1 : Int32)), .val (.ref ch)] [(.int (1 : Int32))]))
  refine k_pop K49 d_prog_5_method_7_code_36 (pc' := 37) rfl rfl ?_
  refine k_iinc K49 (1 : Int32) d_prog_5_method_7_code_37 (pc' := 40) (L' := #[.val (.ref a43), .val (.ref vv), .val (.int (2 : Int32)), .val (.int ((1 : Int32) + (1 : Int32))), .val (.ref ch)]) rfl rfl rfl rfl ?_
  refine k_goto K49 d_prog_5_method_7_code_40 (by decide) (pc' := 17) (by decide) ?_
  rw [show (1 : Int32) + 1 = 2 by decide]
  refine k_iloadN K49 d_prog_5_method_7_code_17 (pc' := 18) rfl rfl ?_
  refine k_iloadN K49 d_prog_5_method_7_code_18 (pc' := 19) rfl rfl ?_
  refine k_icmp_ge K49 d_prog_5_method_7_code_19 (by decide) (pc' := 43) (pc2 := 22) (by decide) rfl (fun hc19 => ?_) (fun q => absurd q (by decide))
  refine k_aloadN K49 d_prog_5_method_7_code_43 (pc' := 44) rfl rfl rfl ?_
  exact k_aret K49 d_prog_5_method_7_code_44 rfl rfl rfl (fun sf ht => ⟨a43, d, kd, rfl, q1, q3, q4, V2⟩) (by decide) (by decide)
theorem d_jdk_38_method_8_code_0 : decode jdk_38_method_8_code 0 = .ok (.aload_n 0, 1) := by decide +kernel
theorem d_jdk_38_method_8_code_1 : decode jdk_38_method_8_code 1 = .ok (.getfield 48, 3) := by decide +kernel
theorem d_jdk_38_method_8_code_4 : decode jdk_38_method_8_code 4 = .ok (.ireturn, 1) := by decide +kernel
set_option maxRecDepth 65536 in
set_option maxHeartbeats 40000000 in
theorem c_size (l : Launch) (Z : State) (a0 : Array Value) (hw : Tb a0 Z) (hEW : EW Z a0 EL0) (n0 : Nat) (a : Addr) (n : Int32) (h0 : Heap) (O : Old Z n0 h0) (F : Fld Z h0 a "java/util/ArrayList" "size" "I" (.int n)) :
    Ct l Z EL0 n0 (⟨"java/util/ArrayList", "size", "()I"⟩ : MethodName) jdk_38_method_8_code 1 (some .int) ({ frames := 0, cells := 0, slots := 0, locals := 0 } : Room) #[(.ref a)] h0 [] (Pu (some (.int n)) h0) := by
  refine Ct.of (a0 := a0) #[.val (.ref a)] hEW O (plainFor_of_name pl_java_util_ArrayList) (fun m => by first | (simp [entryFrame, mkF, argsToLocals, Value.category]; done) | rfl) ?_
  intro p_ e_ s_ m_ below_ meth_ c_ b_ T_ K hSP
  refine k_aloadN K d_jdk_38_method_8_code_0 (pc' := 1) rfl rfl rfl ?_
  refine k_getF K (w56 hw) Via.refl F d_jdk_38_method_8_code_1 (pc' := 4) rfl ?_
  intro T50 K50
  exact k_iret K50 d_jdk_38_method_8_code_4 rfl (fun sf ht => ⟨rfl, rfl⟩) (by decide) (by decide)
theorem d_jdk_41_method_11_code_0 : decode jdk_41_method_11_code 0 = .ok (.iload_n 0, 1) := by decide +kernel
theorem d_jdk_41_method_11_code_1 : decode jdk_41_method_11_code 1 = .ok (.ifCond .lt 8, 3) := by decide +kernel
theorem d_jdk_41_method_11_code_4 : decode jdk_41_method_11_code 4 = .ok (.iload_n 0, 1) := by decide +kernel
theorem d_jdk_41_method_11_code_5 : decode jdk_41_method_11_code 5 = .ok (.iload_n 1, 1) := by decide +kernel
theorem d_jdk_41_method_11_code_6 : decode jdk_41_method_11_code 6 = .ok (.if_icmp .lt 10, 3) := by decide +kernel
theorem d_jdk_41_method_11_code_16 : decode jdk_41_method_11_code 16 = .ok (.iload_n 0, 1) := by decide +kernel
theorem d_jdk_41_method_11_code_17 : decode jdk_41_method_11_code 17 = .ok (.ireturn, 1) := by decide +kernel
theorem pl_jdk_internal_util_Preconditions : plainName "jdk/internal/util/Preconditions" = true := by first | (simp [plainName, overriddenIn]; done) | decide +kernel
set_option maxRecDepth 65536 in
set_option maxHeartbeats 40000000 in
theorem c_pci (l : Launch) (Z : State) (a0 : Array Value) (hw : Tb a0 Z) (hEW : EW Z a0 EL0) (n0 : Nat) (i n : Int32) (h0 : Heap) (O : Old Z n0 h0) (h1 : ¬ i < 0) (h2 : i < n) :
    Ct l Z EL0 n0 (⟨"jdk/internal/util/Preconditions", "checkIndex", "(IILjava/util/function/BiFunction;)I"⟩ : MethodName) jdk_41_method_11_code 3 (some .int) ({ frames := 0, cells := 0, slots := 0, locals := 0 } : Room) #[(.int i), (.int n), .null] h0 [] (Pu (some (.int i)) h0) := by
  refine Ct.of (a0 := a0) #[.val (.int i), .val (.int n), .val .null] hEW O (plainFor_of_name pl_jdk_internal_util_Preconditions) (fun m => by first | (simp [entryFrame, mkF, argsToLocals, Value.category]; done) | rfl) ?_
  intro p_ e_ s_ m_ below_ meth_ c_ b_ T_ K hSP
  refine k_iloadN K d_jdk_41_method_11_code_0 (pc' := 1) rfl rfl ?_
  refine k_if_lt K d_jdk_41_method_11_code_1 (by decide) (pc' := 9) (pc2 := 4) (by decide) rfl (fun q => absurd q h1) (fun hc1 => ?_)
  refine k_iloadN K d_jdk_41_method_11_code_4 (pc' := 5) rfl rfl ?_
  refine k_iloadN K d_jdk_41_method_11_code_5 (pc' := 6) rfl rfl ?_
  refine k_icmp_lt K d_jdk_41_method_11_code_6 (by decide) (pc' := 16) (pc2 := 9) (by decide) rfl (fun hc6 => ?_) (fun q => absurd h2 q)
  refine k_iloadN K d_jdk_41_method_11_code_16 (pc' := 17) rfl rfl ?_
  exact k_iret K d_jdk_41_method_11_code_17 rfl (fun sf ht => ⟨rfl, rfl⟩) (by decide) (by decide)
theorem d_jdk_31_method_17_code_0 : decode jdk_31_method_17_code 0 = .ok (.iload_n 0, 1) := by decide +kernel
theorem d_jdk_31_method_17_code_1 : decode jdk_31_method_17_code 1 = .ok (.iload_n 1, 1) := by decide +kernel
theorem d_jdk_31_method_17_code_2 : decode jdk_31_method_17_code 2 = .ok (.aconst_null, 1) := by decide +kernel
theorem d_jdk_31_method_17_code_3 : decode jdk_31_method_17_code 3 = .ok (.invokestatic 105, 3) := by decide +kernel
theorem w101 {Z : State} {a0 : Array Value} (hw : Tb a0 Z) : (Jvm.Cond.methodLink "java/util/Objects" (105 : Nat) ({ cls := "jdk/internal/util/Preconditions", name := "checkIndex", desc := "(IILjava/util/function/BiFunction;)I" } : Jvm.MethodName)).before a0 Z = true := hw _ (List.mem_of_getElem? (i := 101) rfl)
theorem w103 {Z : State} {a0 : Array Value} (hw : Tb a0 Z) : (Jvm.Cond.initialized "jdk/internal/util/Preconditions").before a0 Z = true := hw _ (List.mem_of_getElem? (i := 103) rfl)
theorem w104 {Z : State} {a0 : Array Value} (hw : Tb a0 Z) : (Jvm.Cond.code ({ cls := "jdk/internal/util/Preconditions", name := "checkIndex", desc := "(IILjava/util/function/BiFunction;)I" } : Jvm.MethodName) jdk_41_method_11_code (3 : Nat) (Option.some Jvm.ClassFile.FieldType.int)).before a0 Z = true := hw _ (List.mem_of_getElem? (i := 104) rfl)
theorem w102 {Z : State} {a0 : Array Value} (hw : Tb a0 Z) : (Jvm.Cond.static ({ cls := "jdk/internal/util/Preconditions", name := "checkIndex", desc := "(IILjava/util/function/BiFunction;)I" } : Jvm.MethodName)).before a0 Z = true := hw _ (List.mem_of_getElem? (i := 102) rfl)
theorem pd__IILjava_util_function_BiFunction__I_2091 : parseMethodDescriptor "(IILjava/util/function/BiFunction;)I" = some ⟨[.int, .int, (.object "java/util/function/BiFunction")], some .int⟩ := by decide +kernel
theorem d_jdk_31_method_17_code_6 : decode jdk_31_method_17_code 6 = .ok (.ireturn, 1) := by decide +kernel
theorem pl_java_util_Objects : plainName "java/util/Objects" = true := by first | (simp [plainName, overriddenIn]; done) | decide +kernel
set_option maxRecDepth 65536 in
set_option maxHeartbeats 40000000 in
theorem c_oci (l : Launch) (Z : State) (a0 : Array Value) (hw : Tb a0 Z) (hEW : EW Z a0 EL0) (n0 : Nat) (i n : Int32) (h0 : Heap) (O : Old Z n0 h0) (h1 : ¬ i < 0) (h2 : i < n) :
    Ct l Z EL0 n0 (⟨"java/util/Objects", "checkIndex", "(II)I"⟩ : MethodName) jdk_31_method_17_code 2 (some .int) ({ frames := 1, cells := 0, slots := 0, locals := 14 } : Room) #[(.int i), (.int n)] h0 [] (Pu (some (.int i)) h0) := by
  refine Ct.of (a0 := a0) #[.val (.int i), .val (.int n)] hEW O (plainFor_of_name pl_java_util_Objects) (fun m => by first | (simp [entryFrame, mkF, argsToLocals, Value.category]; done) | rfl) ?_
  intro p_ e_ s_ m_ below_ meth_ c_ b_ T_ K hSP
  refine k_iloadN K d_jdk_31_method_17_code_0 (pc' := 1) rfl rfl ?_
  refine k_iloadN K d_jdk_31_method_17_code_1 (pc' := 2) rfl rfl ?_
  refine k_aconst_null K d_jdk_31_method_17_code_2 (pc' := 3) rfl ?_
  refine k_staticP K [(.int i), (.int n), .null] [] 0 (w101 hw) (w102 hw) (w103 hw) (w104 hw) (by decide) pd__IILjava_util_function_BiFunction__I_2091 (c_pci l Z a0 hw hEW n0 i n h0 K.old h1 h2) d_jdk_31_method_17_code_3 nofun (pc' := 6) rfl rfl rfl rfl (Nat.le_of_eq rfl) (by decide) (by decide) (by decide) (by decide) ?_
  intro b51 T51 L51 K51 tr51
  show Goes p_.tables e_ below_ _ (T51.setTop (mkF m_ 6 #[.val (.int i), .val (.int n)] [(.int i)]))
  exact k_iret K51 d_jdk_31_method_17_code_6 rfl (fun sf ht => ⟨rfl, rfl⟩) (by decide) (by decide)
theorem d_jdk_38_method_18_code_0 : decode jdk_38_method_18_code 0 = .ok (.aload_n 0, 1) := by decide +kernel
theorem d_jdk_38_method_18_code_1 : decode jdk_38_method_18_code 1 = .ok (.getfield 9, 3) := by decide +kernel
theorem d_jdk_38_method_18_code_4 : decode jdk_38_method_18_code 4 = .ok (.iload_n 1, 1) := by decide +kernel
theorem d_jdk_38_method_18_code_5 : decode jdk_38_method_18_code 5 = .ok (.aaload, 1) := by decide +kernel
theorem d_jdk_38_method_18_code_6 : decode jdk_38_method_18_code 6 = .ok (.areturn, 1) := by decide +kernel
set_option maxRecDepth 65536 in
set_option maxHeartbeats 40000000 in
theorem c_ed (l : Launch) (Z : State) (a0 : Array Value) (hw : Tb a0 Z) (hEW : EW Z a0 EL0) (n0 : Nat) (a d x : Addr) (kd : ClassId) (vs : List Value) (i : Int32) (h0 : Heap) (O : Old Z n0 h0) (FE0 : Fld Z h0 a "java/util/ArrayList" "elementData" "[Ljava/lang/Object;" (.ref d)) (V_d : Arv Z h0 d kd (.object "java/lang/Object") 10 vs .null) (h1 : ¬ i < 0) (h2 : i < 10) (hv : vs.getD i.toNatClampNeg .null = .ref x) :
    Ct l Z EL0 n0 (⟨"java/util/ArrayList", "elementData", "(I)Ljava/lang/Object;"⟩ : MethodName) jdk_38_method_18_code 2 (some (.object "java/lang/Object")) ({ frames := 0, cells := 0, slots := 0, locals := 0 } : Room) #[(.ref a), (.int i)] h0 [] (Pu (some (.ref x)) h0) := by
  refine Ct.of (a0 := a0) #[.val (.ref a), .val (.int i)] hEW O (plainFor_of_name pl_java_util_ArrayList) (fun m => by first | (simp [entryFrame, mkF, argsToLocals, Value.category]; done) | rfl) ?_
  intro p_ e_ s_ m_ below_ meth_ c_ b_ T_ K hSP
  refine k_aloadN K d_jdk_38_method_18_code_0 (pc' := 1) rfl rfl rfl ?_
  refine k_getF K (w28 hw) Via.refl FE0 d_jdk_38_method_18_code_1 (pc' := 4) rfl ?_
  intro T52 K52
  refine k_iloadN K52 d_jdk_38_method_18_code_4 (pc' := 5) rfl rfl ?_
  refine k_aaload K52 (j := i) V_d rfl ⟨h1, h2⟩ hv d_jdk_38_method_18_code_5 (pc' := 6) rfl ?_
  exact k_aret K52 d_jdk_38_method_18_code_6 rfl rfl rfl (fun sf ht => ⟨rfl, rfl⟩) (by decide) (by decide)
theorem d_jdk_38_method_20_code_0 : decode jdk_38_method_20_code 0 = .ok (.iload_n 1, 1) := by decide +kernel
theorem d_jdk_38_method_20_code_1 : decode jdk_38_method_20_code 1 = .ok (.aload_n 0, 1) := by decide +kernel
theorem d_jdk_38_method_20_code_2 : decode jdk_38_method_20_code 2 = .ok (.getfield 48, 3) := by decide +kernel
theorem d_jdk_38_method_20_code_5 : decode jdk_38_method_20_code 5 = .ok (.invokestatic 118, 3) := by decide +kernel
theorem w97 {Z : State} {a0 : Array Value} (hw : Tb a0 Z) : (Jvm.Cond.methodLink "java/util/ArrayList" (118 : Nat) ({ cls := "java/util/Objects", name := "checkIndex", desc := "(II)I" } : Jvm.MethodName)).before a0 Z = true := hw _ (List.mem_of_getElem? (i := 97) rfl)
theorem w99 {Z : State} {a0 : Array Value} (hw : Tb a0 Z) : (Jvm.Cond.initialized "java/util/Objects").before a0 Z = true := hw _ (List.mem_of_getElem? (i := 99) rfl)
theorem w100 {Z : State} {a0 : Array Value} (hw : Tb a0 Z) : (Jvm.Cond.code ({ cls := "java/util/Objects", name := "checkIndex", desc := "(II)I" } : Jvm.MethodName) jdk_31_method_17_code (2 : Nat) (Option.some Jvm.ClassFile.FieldType.int)).before a0 Z = true := hw _ (List.mem_of_getElem? (i := 100) rfl)
theorem w98 {Z : State} {a0 : Array Value} (hw : Tb a0 Z) : (Jvm.Cond.static ({ cls := "java/util/Objects", name := "checkIndex", desc := "(II)I" } : Jvm.MethodName)).before a0 Z = true := hw _ (List.mem_of_getElem? (i := 98) rfl)
theorem d_jdk_38_method_20_code_8 : decode jdk_38_method_20_code 8 = .ok (.pop, 1) := by decide +kernel
theorem d_jdk_38_method_20_code_9 : decode jdk_38_method_20_code 9 = .ok (.aload_n 0, 1) := by decide +kernel
theorem d_jdk_38_method_20_code_10 : decode jdk_38_method_20_code 10 = .ok (.iload_n 1, 1) := by decide +kernel
theorem d_jdk_38_method_20_code_11 : decode jdk_38_method_20_code 11 = .ok (.invokevirtual 123, 3) := by decide +kernel
theorem w105 {Z : State} {a0 : Array Value} (hw : Tb a0 Z) : (Jvm.Cond.methodLink "java/util/ArrayList" (123 : Nat) ({ cls := "java/util/ArrayList", name := "elementData", desc := "(I)Ljava/lang/Object;" } : Jvm.MethodName)).before a0 Z = true := hw _ (List.mem_of_getElem? (i := 105) rfl)
theorem w109 {Z : State} {a0 : Array Value} (hw : Tb a0 Z) : (Jvm.Cond.code ({ cls := "java/util/ArrayList", name := "elementData", desc := "(I)Ljava/lang/Object;" } : Jvm.MethodName) jdk_38_method_18_code (2 : Nat) (Option.some (Jvm.ClassFile.FieldType.object "java/lang/Object"))).before a0 Z = true := hw _ (List.mem_of_getElem? (i := 109) rfl)
theorem w108 {Z : State} {a0 : Array Value} (hw : Tb a0 Z) : (Jvm.Cond.selects "java/util/ArrayList" ({ cls := "java/util/ArrayList", name := "elementData", desc := "(I)Ljava/lang/Object;" } : Jvm.MethodName) ({ cls := "java/util/ArrayList", name := "elementData", desc := "(I)Ljava/lang/Object;" } : Jvm.MethodName)).before a0 Z = true := hw _ (List.mem_of_getElem? (i := 108) rfl)
theorem w106 {Z : State} {a0 : Array Value} (hw : Tb a0 Z) : (Jvm.Cond.declares ({ cls := "java/util/ArrayList", name := "elementData", desc := "(I)Ljava/lang/Object;" } : Jvm.MethodName)).before a0 Z = true := hw _ (List.mem_of_getElem? (i := 106) rfl)
theorem w107 {Z : State} {a0 : Array Value} (hw : Tb a0 Z) : (Jvm.Cond.instanceMethod ({ cls := "java/util/ArrayList", name := "elementData", desc := "(I)Ljava/lang/Object;" } : Jvm.MethodName)).before a0 Z = true := hw _ (List.mem_of_getElem? (i := 107) rfl)
theorem pd__I_Ljava_lang_Object__1081 : parseMethodDescriptor "(I)Ljava/lang/Object;" = some ⟨[.int], some (.object "java/lang/Object")⟩ := by decide +kernel
theorem d_jdk_38_method_20_code_14 : decode jdk_38_method_20_code 14 = .ok (.areturn, 1) := by decide +kernel
set_option maxRecDepth 65536 in
set_option maxHeartbeats 40000000 in
theorem c_get (l : Launch) (Z : State) (a0 : Array Value) (hw : Tb a0 Z) (hEW : EW Z a0 EL0) (n0 : Nat) (a d x : Addr) (kd : ClassId) (vs : List Value) (i : Int32) (h0 : Heap) (O : Old Z n0 h0) (X_a : Exa Z h0 a "java/util/ArrayList") (FE0 : Fld Z h0 a "java/util/ArrayList" "elementData" "[Ljava/lang/Object;" (.ref d)) (V_d : Arv Z h0 d kd (.object "java/lang/Object") 10 vs .null) (h1 : ¬ i < 0) (h2 : i < 10) (hv : vs.getD i.toNatClampNeg .null = .ref x) (F : Fld Z h0 a "java/util/ArrayList" "size" "I" (.int 2)) (h3 : i < 2) :
    Ct l Z EL0 n0 (⟨"java/util/ArrayList", "get", "(I)Ljava/lang/Object;"⟩ : MethodName) jdk_38_method_20_code 2 (some (.object "java/lang/Object")) ({ frames := 2, cells := 0, slots := 0, locals := 27 } : Room) #[(.ref a), (.int i)] h0 [] (Pu (some (.ref x)) h0) := by
  refine Ct.of (a0 := a0) #[.val (.ref a), .val (.int i)] hEW O (plainFor_of_name pl_java_util_ArrayList) (fun m => by first | (simp [entryFrame, mkF, argsToLocals, Value.category]; done) | rfl) ?_
  intro p_ e_ s_ m_ below_ meth_ c_ b_ T_ K hSP
  refine k_iloadN K d_jdk_38_method_20_code_0 (pc' := 1) rfl rfl ?_
  refine k_aloadN K d_jdk_38_method_20_code_1 (pc' := 2) rfl rfl rfl ?_
  refine k_getF K (w56 hw) Via.refl F d_jdk_38_method_20_code_2 (pc' := 5) rfl ?_
  intro T53 K53
  refine k_staticP K53 [(.int i), (.int (2 : Int32))] [] 0 (w97 hw) (w98 hw) (w99 hw) (w100 hw) (by decide) pd__II_I_934 (c_oci l Z a0 hw hEW n0 i 2 h0 K53.old h1 h3) d_jdk_38_method_20_code_5 nofun (pc' := 8) rfl rfl rfl rfl (Nat.le_of_eq rfl) (by decide) (by decide) (by decide) (by decide) ?_
  intro b54 T54 L54 K54 tr54
  show Goes p_.tables e_ below_ _ (T54.setTop (mkF m_ 8 #[.val (.ref a), .val (.int i)] [(.int i)]))
  refine k_pop K54 d_jdk_38_method_20_code_8 (pc' := 9) rfl rfl ?_
  refine k_aloadN K54 d_jdk_38_method_20_code_9 (pc' := 10) rfl rfl rfl ?_
  refine k_iloadN K54 d_jdk_38_method_20_code_10 (pc' := 11) rfl rfl ?_
  refine k_virtualP K54 [(.int i)] [] 0 (w105 hw) (w106 hw) (w107 hw) (w108 hw) (w6 hw) (w109 hw) (notFace_of_selects (args := #[]) (mvT K54.hZ (w108 hw))) rfl (by decide) X_a (by decide) pd__I_Ljava_lang_Object__1081 (c_ed l Z a0 hw hEW n0 a d x kd vs i h0 K54.old FE0 V_d h1 h2 hv) d_jdk_38_method_20_code_11 nofun (pc' := 14) rfl rfl rfl rfl (Nat.le_of_eq rfl) (by decide) (by decide) (by decide) (by decide) ?_
  intro b55 T55 L55 K55 tr55
  show Goes p_.tables e_ below_ _ (T55.setTop (mkF m_ 14 #[.val (.ref a), .val (.int i)] [(.ref x)]))
  exact k_aret K55 d_jdk_38_method_20_code_14 rfl rfl rfl (fun sf ht => ⟨rfl, rfl⟩) (by decide) (by decide)
theorem own_and1 (x : Int32) : x &&& 1 = 0 ∨ x &&& 1 = 1 := by
  have e : (x &&& 1).toBitVec.toNat = x.toBitVec.toNat % 2 := by
    show (x.toBitVec &&& 1#32).toNat = _
    rw [BitVec.toNat_and]; exact Nat.and_two_pow_sub_one_eq_mod _ 1
  have key : ∀ k : Int32, (x &&& 1).toBitVec.toNat = k.toBitVec.toNat → x &&& 1 = k := fun k q => Int32.toBitVec_inj.mp (BitVec.eq_of_toNat_eq q)
  have h4 : x.toBitVec.toNat % 2 = 0 ∨ x.toBitVec.toNat % 2 = 1 := by omega
  rcases h4 with q | q
  · exact Or.inl (key 0 (e.trans q))
  · exact Or.inr (key 1 (e.trans q))
theorem w0 {Z : State} {a0 : Array Value} (hw : Tb a0 Z) : (Jvm.Cond.methodLink "com/example/halfpower/halfpower/certificate/LanguageCodesPinLaw" (7 : Nat) ({ cls := "com/example/halfpower/halfpower/certificate/Language", name := "codes", desc := "()Ljava/util/List;" } : Jvm.MethodName)).before a0 Z = true := hw _ (List.mem_of_getElem? (i := 0) rfl)
theorem w3 {Z : State} {a0 : Array Value} (hw : Tb a0 Z) : (Jvm.Cond.code ({ cls := "com/example/halfpower/halfpower/certificate/Language", name := "codes", desc := "()Ljava/util/List;" } : Jvm.MethodName) prog_5_method_7_code (5 : Nat) (Option.some (Jvm.ClassFile.FieldType.object "java/util/List"))).before a0 Z = true := hw _ (List.mem_of_getElem? (i := 3) rfl)
theorem w1 {Z : State} {a0 : Array Value} (hw : Tb a0 Z) : (Jvm.Cond.static ({ cls := "com/example/halfpower/halfpower/certificate/Language", name := "codes", desc := "()Ljava/util/List;" } : Jvm.MethodName)).before a0 Z = true := hw _ (List.mem_of_getElem? (i := 1) rfl)
theorem pd___Ljava_util_List__5837 : parseMethodDescriptor "()Ljava/util/List;" = some ⟨[], some (.object "java/util/List")⟩ := by decide +kernel
theorem w80 {Z : State} {a0 : Array Value} (hw : Tb a0 Z) : (Jvm.Cond.methodLink "com/example/halfpower/halfpower/certificate/LanguageCodesPinLaw" (13 : Nat) ({ cls := "java/util/List", name := "size", desc := "()I" } : Jvm.MethodName)).before a0 Z = true := hw _ (List.mem_of_getElem? (i := 80) rfl)
theorem w88 {Z : State} {a0 : Array Value} (hw : Tb a0 Z) : (Jvm.Cond.code ({ cls := "java/util/ArrayList", name := "size", desc := "()I" } : Jvm.MethodName) jdk_38_method_8_code (1 : Nat) (Option.some Jvm.ClassFile.FieldType.int)).before a0 Z = true := hw _ (List.mem_of_getElem? (i := 88) rfl)
theorem w81 {Z : State} {a0 : Array Value} (hw : Tb a0 Z) : (Jvm.Cond.declares ({ cls := "java/util/List", name := "size", desc := "()I" } : Jvm.MethodName)).before a0 Z = true := hw _ (List.mem_of_getElem? (i := 81) rfl)
theorem w82 {Z : State} {a0 : Array Value} (hw : Tb a0 Z) : (Jvm.Cond.interfaceMethod "java/util/List" "java/util/List" "size" "()I").before a0 Z = true := hw _ (List.mem_of_getElem? (i := 82) rfl)
theorem w83 {Z : State} {a0 : Array Value} (hw : Tb a0 Z) : (Jvm.Cond.selects "java/util/ArrayList" ({ cls := "java/util/List", name := "size", desc := "()I" } : Jvm.MethodName) ({ cls := "java/util/ArrayList", name := "size", desc := "()I" } : Jvm.MethodName)).before a0 Z = true := hw _ (List.mem_of_getElem? (i := 83) rfl)
theorem w84 {Z : State} {a0 : Array Value} (hw : Tb a0 Z) : (Jvm.Cond.instanceMethod ({ cls := "java/util/ArrayList", name := "size", desc := "()I" } : Jvm.MethodName)).before a0 Z = true := hw _ (List.mem_of_getElem? (i := 84) rfl)
theorem w85 {Z : State} {a0 : Array Value} (hw : Tb a0 Z) : (Jvm.Cond.publicMethod ({ cls := "java/util/ArrayList", name := "size", desc := "()I" } : Jvm.MethodName)).before a0 Z = true := hw _ (List.mem_of_getElem? (i := 85) rfl)
theorem w86 {Z : State} {a0 : Array Value} (hw : Tb a0 Z) : (Jvm.Cond.unhidden "java/util/ArrayList" "size" "()I").before a0 Z = true := hw _ (List.mem_of_getElem? (i := 86) rfl)
theorem w87 {Z : State} {a0 : Array Value} (hw : Tb a0 Z) : (Jvm.Cond.castable "java/util/ArrayList" "java/util/List").before a0 Z = true := hw _ (List.mem_of_getElem? (i := 87) rfl)
theorem pd___I_341 : parseMethodDescriptor "()I" = some ⟨[], some .int⟩ := by decide +kernel
theorem w89 {Z : State} {a0 : Array Value} (hw : Tb a0 Z) : (Jvm.Cond.methodLink "com/example/halfpower/halfpower/certificate/LanguageCodesPinLaw" (19 : Nat) ({ cls := "java/util/List", name := "get", desc := "(I)Ljava/lang/Object;" } : Jvm.MethodName)).before a0 Z = true := hw _ (List.mem_of_getElem? (i := 89) rfl)
theorem w96 {Z : State} {a0 : Array Value} (hw : Tb a0 Z) : (Jvm.Cond.code ({ cls := "java/util/ArrayList", name := "get", desc := "(I)Ljava/lang/Object;" } : Jvm.MethodName) jdk_38_method_20_code (2 : Nat) (Option.some (Jvm.ClassFile.FieldType.object "java/lang/Object"))).before a0 Z = true := hw _ (List.mem_of_getElem? (i := 96) rfl)
theorem w90 {Z : State} {a0 : Array Value} (hw : Tb a0 Z) : (Jvm.Cond.declares ({ cls := "java/util/List", name := "get", desc := "(I)Ljava/lang/Object;" } : Jvm.MethodName)).before a0 Z = true := hw _ (List.mem_of_getElem? (i := 90) rfl)
theorem w91 {Z : State} {a0 : Array Value} (hw : Tb a0 Z) : (Jvm.Cond.interfaceMethod "java/util/List" "java/util/List" "get" "(I)Ljava/lang/Object;").before a0 Z = true := hw _ (List.mem_of_getElem? (i := 91) rfl)
theorem w92 {Z : State} {a0 : Array Value} (hw : Tb a0 Z) : (Jvm.Cond.selects "java/util/ArrayList" ({ cls := "java/util/List", name := "get", desc := "(I)Ljava/lang/Object;" } : Jvm.MethodName) ({ cls := "java/util/ArrayList", name := "get", desc := "(I)Ljava/lang/Object;" } : Jvm.MethodName)).before a0 Z = true := hw _ (List.mem_of_getElem? (i := 92) rfl)
theorem w93 {Z : State} {a0 : Array Value} (hw : Tb a0 Z) : (Jvm.Cond.instanceMethod ({ cls := "java/util/ArrayList", name := "get", desc := "(I)Ljava/lang/Object;" } : Jvm.MethodName)).before a0 Z = true := hw _ (List.mem_of_getElem? (i := 93) rfl)
theorem w94 {Z : State} {a0 : Array Value} (hw : Tb a0 Z) : (Jvm.Cond.publicMethod ({ cls := "java/util/ArrayList", name := "get", desc := "(I)Ljava/lang/Object;" } : Jvm.MethodName)).before a0 Z = true := hw _ (List.mem_of_getElem? (i := 94) rfl)
theorem w95 {Z : State} {a0 : Array Value} (hw : Tb a0 Z) : (Jvm.Cond.unhidden "java/util/ArrayList" "get" "(I)Ljava/lang/Object;").before a0 Z = true := hw _ (List.mem_of_getElem? (i := 95) rfl)
theorem w110 {Z : State} {a0 : Array Value} (hw : Tb a0 Z) : (Jvm.Cond.classLink "com/example/halfpower/halfpower/certificate/LanguageCodesPinLaw" (23 : Nat) "java/lang/String").before a0 Z = true := hw _ (List.mem_of_getElem? (i := 110) rfl)
theorem w113 {Z : State} {a0 : Array Value} (hw : Tb a0 Z) : (Jvm.Cond.initialized "java/lang/String").before a0 Z = true := hw _ (List.mem_of_getElem? (i := 113) rfl)
theorem w114 {Z : State} {a0 : Array Value} (hw : Tb a0 Z) : (Jvm.Cond.instantiable "java/lang/String" (4 : Nat)).before a0 Z = true := hw _ (List.mem_of_getElem? (i := 114) rfl)
theorem w115 {Z : State} {a0 : Array Value} (hw : Tb a0 Z) : (Jvm.Cond.arrayClass Jvm.ClassFile.FieldType.byte).before a0 Z = true := hw _ (List.mem_of_getElem? (i := 115) rfl)
theorem w116 {Z : State} {a0 : Array Value} (hw : Tb a0 Z) : (Jvm.Cond.laysFinal "java/lang/String" "java/lang/String" "value" "[B").before a0 Z = true := hw _ (List.mem_of_getElem? (i := 116) rfl)
theorem w117 {Z : State} {a0 : Array Value} (hw : Tb a0 Z) : (Jvm.Cond.laysFinal "java/lang/String" "java/lang/String" "coder" "B").before a0 Z = true := hw _ (List.mem_of_getElem? (i := 117) rfl)
theorem w118 {Z : State} {a0 : Array Value} (hw : Tb a0 Z) : (Jvm.Cond.soleField "java/lang/String" "value").before a0 Z = true := hw _ (List.mem_of_getElem? (i := 118) rfl)
theorem w119 {Z : State} {a0 : Array Value} (hw : Tb a0 Z) : (Jvm.Cond.soleField "java/lang/String" "coder").before a0 Z = true := hw _ (List.mem_of_getElem? (i := 119) rfl)
theorem own_wS {Z : State} {a0 : Array Value} (hw : Tb a0 Z) : ∀ a ∈ Bundle.stringAtoms, a.before a0 Z = true := fun d hd => by
  simp only [Bundle.stringAtoms, List.mem_cons, List.not_mem_nil, or_false] at hd
  rcases hd with rfl | rfl | rfl | rfl | rfl | rfl | rfl
  · exact (w113 hw)
  · exact (w114 hw)
  · exact (w115 hw)
  · exact (w116 hw)
  · exact (w117 hw)
  · exact (w118 hw)
  · exact (w119 hw)
theorem w112 {Z : State} {a0 : Array Value} (hw : Tb a0 Z) : (Jvm.Cond.stringLink "com/example/halfpower/halfpower/certificate/LanguageCodesPinLaw" (25 : Nat) "en").before a0 Z = true := hw _ (List.mem_of_getElem? (i := 112) rfl)
theorem w120 {Z : State} {a0 : Array Value} (hw : Tb a0 Z) : (Jvm.Cond.methodLink "com/example/halfpower/halfpower/certificate/LanguageCodesPinLaw" (27 : Nat) ({ cls := "java/lang/String", name := "equals", desc := "(Ljava/lang/Object;)Z" } : Jvm.MethodName)).before a0 Z = true := hw _ (List.mem_of_getElem? (i := 120) rfl)
theorem w124 {Z : State} {a0 : Array Value} (hw : Tb a0 Z) : (Jvm.Cond.code ({ cls := "java/lang/String", name := "equals", desc := "(Ljava/lang/Object;)Z" } : Jvm.MethodName) jdk_42_method_66_code (3 : Nat) (Option.some Jvm.ClassFile.FieldType.boolean)).before a0 Z = true := hw _ (List.mem_of_getElem? (i := 124) rfl)
theorem w123 {Z : State} {a0 : Array Value} (hw : Tb a0 Z) : (Jvm.Cond.selects "java/lang/String" ({ cls := "java/lang/String", name := "equals", desc := "(Ljava/lang/Object;)Z" } : Jvm.MethodName) ({ cls := "java/lang/String", name := "equals", desc := "(Ljava/lang/Object;)Z" } : Jvm.MethodName)).before a0 Z = true := hw _ (List.mem_of_getElem? (i := 123) rfl)
theorem w121 {Z : State} {a0 : Array Value} (hw : Tb a0 Z) : (Jvm.Cond.declares ({ cls := "java/lang/String", name := "equals", desc := "(Ljava/lang/Object;)Z" } : Jvm.MethodName)).before a0 Z = true := hw _ (List.mem_of_getElem? (i := 121) rfl)
theorem w122 {Z : State} {a0 : Array Value} (hw : Tb a0 Z) : (Jvm.Cond.instanceMethod ({ cls := "java/lang/String", name := "equals", desc := "(Ljava/lang/Object;)Z" } : Jvm.MethodName)).before a0 Z = true := hw _ (List.mem_of_getElem? (i := 122) rfl)
theorem w133 {Z : State} {a0 : Array Value} (hw : Tb a0 Z) : (Jvm.Cond.stringLink "com/example/halfpower/halfpower/certificate/LanguageCodesPinLaw" (31 : Nat) "zh").before a0 Z = true := hw _ (List.mem_of_getElem? (i := 133) rfl)
theorem w140 {Z : State} {a0 : Array Value} (hw : Tb a0 Z) : (Jvm.Cond.fieldLink "com/example/halfpower/halfpower/certificate/LanguageCodesPinLaw" (37 : Nat) "com/example/halfpower/halfpower/certificate/Language" "CHINESE" "Lcom/example/halfpower/halfpower/certificate/Language;").before a0 Z = true := hw _ (List.mem_of_getElem? (i := 140) rfl)
theorem w135 {Z : State} {a0 : Array Value} (hw : Tb a0 Z) : (Jvm.Cond.methodLink "com/example/halfpower/halfpower/certificate/LanguageCodesPinLaw" (40 : Nat) ({ cls := "com/example/halfpower/halfpower/certificate/Language", name := "code", desc := "()Ljava/lang/String;" } : Jvm.MethodName)).before a0 Z = true := hw _ (List.mem_of_getElem? (i := 135) rfl)
theorem w139 {Z : State} {a0 : Array Value} (hw : Tb a0 Z) : (Jvm.Cond.code ({ cls := "com/example/halfpower/halfpower/certificate/Language", name := "code", desc := "()Ljava/lang/String;" } : Jvm.MethodName) prog_5_method_4_code (1 : Nat) (Option.some (Jvm.ClassFile.FieldType.object "java/lang/String"))).before a0 Z = true := hw _ (List.mem_of_getElem? (i := 139) rfl)
theorem w138 {Z : State} {a0 : Array Value} (hw : Tb a0 Z) : (Jvm.Cond.selects "com/example/halfpower/halfpower/certificate/Language" ({ cls := "com/example/halfpower/halfpower/certificate/Language", name := "code", desc := "()Ljava/lang/String;" } : Jvm.MethodName) ({ cls := "com/example/halfpower/halfpower/certificate/Language", name := "code", desc := "()Ljava/lang/String;" } : Jvm.MethodName)).before a0 Z = true := hw _ (List.mem_of_getElem? (i := 138) rfl)
theorem w136 {Z : State} {a0 : Array Value} (hw : Tb a0 Z) : (Jvm.Cond.declares ({ cls := "com/example/halfpower/halfpower/certificate/Language", name := "code", desc := "()Ljava/lang/String;" } : Jvm.MethodName)).before a0 Z = true := hw _ (List.mem_of_getElem? (i := 136) rfl)
theorem w137 {Z : State} {a0 : Array Value} (hw : Tb a0 Z) : (Jvm.Cond.instanceMethod ({ cls := "com/example/halfpower/halfpower/certificate/Language", name := "code", desc := "()Ljava/lang/String;" } : Jvm.MethodName)).before a0 Z = true := hw _ (List.mem_of_getElem? (i := 137) rfl)
theorem pd___Ljava_lang_String__9676 : parseMethodDescriptor "()Ljava/lang/String;" = some ⟨[], some (.object "java/lang/String")⟩ := by decide +kernel
theorem w134 {Z : State} {a0 : Array Value} (hw : Tb a0 Z) : (Jvm.Cond.fieldLink "com/example/halfpower/halfpower/certificate/LanguageCodesPinLaw" (33 : Nat) "com/example/halfpower/halfpower/certificate/Language" "ENGLISH" "Lcom/example/halfpower/halfpower/certificate/Language;").before a0 Z = true := hw _ (List.mem_of_getElem? (i := 134) rfl)
theorem pl_com_example_halfpower_halfpower_certificate_LanguageCodesPinLaw : plainName "com/example/halfpower/halfpower/certificate/LanguageCodesPinLaw" = true := by first | (simp [plainName, overriddenIn]; done) | decide +kernel
set_option maxRecDepth 65536 in
set_option maxHeartbeats 40000000 in
theorem c_law (l : Launch) (Z : State) (a0 : Array Value) (hw : Tb a0 Z) (hEW : EW Z a0 EL0) (n0 : Nat) (xx cs0 : Int32) (va en ch de ec cc : Addr) (kv kde : ClassId) (cb eb : Addr) (ck ek : ClassId) (h0 : Heap) (O : Old Z n0 h0) (SV : Sta Z Z.heap "com/example/halfpower/halfpower/certificate/Language" "$VALUES" "[Lcom/example/halfpower/halfpower/certificate/Language;" (.ref va)) (VV : Arv Z Z.heap va kv (.object "com/example/halfpower/halfpower/certificate/Language") 2 [.ref en, .ref ch] .null) (XV : Exa Z Z.heap va "[Lcom/example/halfpower/halfpower/certificate/Language;") (hfit : Fit Z) (SD0 : Sta Z Z.heap "java/util/ArrayList" "DEFAULTCAPACITY_EMPTY_ELEMENTDATA" "[Ljava/lang/Object;" (.ref de)) (VD : Arv Z Z.heap de kde (.object "java/lang/Object") 0 [] .null) (Fe : Fld Z Z.heap en "com/example/halfpower/halfpower/certificate/Language" "code" "Ljava/lang/String;" (.ref ec)) (Fc : Fld Z Z.heap ch "com/example/halfpower/halfpower/certificate/Language" "code" "Ljava/lang/String;" (.ref cc)) (Xec : Exa Z Z.heap ec "java/lang/String") (Xcc : Exa Z Z.heap cc "java/lang/String") (SCh : Sta Z Z.heap "com/example/halfpower/halfpower/certificate/Language" "CHINESE" "Lcom/example/halfpower/halfpower/certificate/Language;" (.ref ch)) (SEn : Sta Z Z.heap "com/example/halfpower/halfpower/certificate/Language" "ENGLISH" "Lcom/example/halfpower/halfpower/certificate/Language;" (.ref en)) (Xc : Exa Z Z.heap ch "com/example/halfpower/halfpower/certificate/Language") (Xe : Exa Z Z.heap en "com/example/halfpower/halfpower/certificate/Language") (Tc : Str Z Z.heap cc cb ck 0 2 (([122, 104] : List Int32).map Value.int)) (Te : Str Z Z.heap ec eb ek 0 2 (([101, 110] : List Int32).map Value.int)) (SC : Sta Z Z.heap "java/lang/String" "COMPACT_STRINGS" "Z" (.int cs0)) (hcs : ¬ cs0 = 0) :
    Ct l Z EL0 n0 x code maxLocals ret room_1 #[(.int xx)] h0 [] (fun v _ _ => v = some (.int 1) ∧ True) := by
  refine Ct.of (a0 := a0) #[.val (.int xx), .unset, .unset, .unset, .unset, .unset] hEW O (plainFor_of_name pl_com_example_halfpower_halfpower_certificate_LanguageCodesPinLaw) (fun m => by first | (simp [entryFrame, mkF, argsToLocals, Value.category, maxLocals]; done) | rfl) ?_
  intro p_ e_ s_ m_ below_ meth_ c_ b_ T_ K hSP
  refine k_static K [] [] 0 (w0 hw) (w1 hw) (w2 hw) (w3 hw) (by decide) pd___Ljava_util_List__5837 (c_codes l Z a0 hw hEW n0 va en ch de ec cc kv kde h0 K.old SV VV XV hfit SD0 VD Fe Fc Xec Xcc) at_0 nofun (pc' := 3) rfl rfl rfl rfl (Nat.le_of_eq rfl) (by decide) (by decide) (by decide) (by decide) ?_
  intro b56 T56 h56 L56 v56 K56 tr56 q56
  obtain ⟨a, d, kd, rfl, X_a, FE0, FS0, V_d⟩ := q56
  show Goes p_.tables e_ below_ _ (T56.setTop (mkF m_ 3 #[.val (.int xx), .unset, .unset, .unset, .unset, .unset] [(.ref a)]))
  refine k_astoreN K56 at_3 (pc' := 4) (L' := #[.val (.int xx), .val (.ref a), .unset, .unset, .unset, .unset]) rfl rfl rfl ?_
  refine k_aloadN K56 at_4 (pc' := 5) rfl rfl rfl ?_
  refine k_interfaceP K56 [] [] 0 (w80 hw) (w81 hw) (mvT K56.hZ (w82 hw)) (w83 hw) (w84 hw) (w85 hw) (w86 hw) (w87 hw) (w6 hw) (w88 hw) rfl (by decide) X_a (by decide) pd___I_341 (c_size l Z a0 hw hEW n0 a 2 h56 K56.old FS0) at_5 nofun (pc' := 10) rfl rfl rfl rfl (Nat.le_of_eq rfl) (by decide) (by decide) (by decide) (by decide) ?_
  intro b57 T57 L57 K57 tr57
  show Goes p_.tables e_ below_ _ (T57.setTop (mkF m_ 10 #[.val (.int xx), .val (.ref a), .unset, .unset, .unset, .unset] [(.int (2 : Int32))]))
  refine k_iconst K57 (2 : Int32) at_10 (pc' := 11) rfl rfl ?_
  refine k_icmp_eq K57 at_11 (by decide) (pc' := 16) (pc2 := 14) (by decide) rfl (fun hc11 => ?_) (fun q => absurd (by decide) q)
  refine k_aloadN K57 at_16 (pc' := 17) rfl rfl rfl ?_
  refine k_iconst K57 (0 : Int32) at_17 (pc' := 18) rfl rfl ?_
  refine k_interfaceP K57 [(.int (0 : Int32))] [] 0 (w89 hw) (w90 hw) (mvT K57.hZ (w91 hw)) (w92 hw) (w93 hw) (w94 hw) (w95 hw) (w87 hw) (w6 hw) (w96 hw) rfl (by decide) X_a (by decide) pd__I_Ljava_lang_Object__1081 (c_get l Z a0 hw hEW n0 a d ec kd [.ref ec, .ref cc, .null, .null, .null, .null, .null, .null, .null, .null] 0 h56 K57.old X_a FE0 V_d (by decide) (by decide) rfl FS0 (by decide)) at_18 nofun (pc' := 23) rfl rfl rfl rfl (Nat.le_of_eq rfl) (by decide) (by decide) (by decide) (by decide) ?_
  intro b58 T58 L58 K58 tr58
  show Goes p_.tables e_ below_ _ (T58.setTop (mkF m_ 23 #[.val (.int xx), .val (.ref a), .unset, .unset, .unset, .unset] [(.ref ec)]))
  refine k_castY K58 (w110 hw) (Ins.self (Xec.ext K58.old.2)) at_23 (pc' := 26) rfl ?_
  intro T59 K59
  refine k_astoreN K59 at_26 (pc' := 27) (L' := #[.val (.int xx), .val (.ref a), .val (.ref ec), .unset, .unset, .unset]) rfl rfl rfl ?_
  refine k_aloadN K59 at_27 (pc' := 28) rfl rfl rfl ?_
  refine k_iconst K59 (1 : Int32) at_28 (pc' := 29) rfl rfl ?_
  refine k_interfaceP K59 [(.int (1 : Int32))] [] 0 (w89 hw) (w90 hw) (mvT K59.hZ (w91 hw)) (w92 hw) (w93 hw) (w94 hw) (w95 hw) (w87 hw) (w6 hw) (w96 hw) rfl (by decide) X_a (by decide) pd__I_Ljava_lang_Object__1081 (c_get l Z a0 hw hEW n0 a d cc kd [.ref ec, .ref cc, .null, .null, .null, .null, .null, .null, .null, .null] 1 h56 K59.old X_a FE0 V_d (by decide) (by decide) rfl FS0 (by decide)) at_29 nofun (pc' := 34) rfl rfl rfl rfl (Nat.le_of_eq rfl) (by decide) (by decide) (by decide) (by decide) ?_
  intro b60 T60 L60 K60 tr60
  show Goes p_.tables e_ below_ _ (T60.setTop (mkF m_ 34 #[.val (.int xx), .val (.ref a), .val (.ref ec), .unset, .unset, .unset] [(.ref cc)]))
  refine k_castY K60 (w110 hw) (Ins.self (Xcc.ext K60.old.2)) at_34 (pc' := 37) rfl ?_
  intro T61 K61
  refine k_astoreN K61 at_37 (pc' := 38) (L' := #[.val (.int xx), .val (.ref a), .val (.ref ec), .val (.ref cc), .unset, .unset]) rfl rfl rfl ?_
  refine k_ldcS K61 (vs := ([101, 110] : List Int32).map Value.int) (z := 2) (w112 hw) (own_wS hw) (by decide) ⟨by decide, by decide⟩ (by decide) (by decide) 8 (by decide) (by decide) at_38 (pc' := 40) rfl (by decide) (by decide) ?_
  intro b62 T62 h62 s62 e62 ke62 K62 E62 tr62 X1 X2 X3 X4 nd62
  replace X_a := X_a.ext E62
  replace FE0 := FE0.ext E62
  replace FS0 := FS0.ext E62
  replace V_d := V_d.ext E62
  have S_s62 : Str Z h62 s62 e62 ke62 0 2 (([101, 110] : List Int32).map Value.int) := ⟨X1, X2, X3, X4⟩
  show Goes p_.tables e_ below_ _ (T62.setTop (mkF m_ 40 #[.val (.int xx), .val (.ref a), .val (.ref ec), .val (.ref cc), .unset, .unset] [(.ref s62)]))
  refine k_aloadN K62 at_40 (pc' := 41) rfl rfl rfl ?_
  refine k_virtualP K62 [(.ref ec)] [] 0 (w120 hw) (w121 hw) (w122 hw) (w123 hw) (w113 hw) (w124 hw) (notFace_of_selects (args := #[]) (mvT K62.hZ (w123 hw))) rfl (by decide) S_s62.1 (by decide) pd__Ljava_lang_Object__Z_194 (c_equals l Z a0 hw hEW n0 s62 ec e62 eb ke62 ek 2 2 [101, 110] [101, 110] cs0 h62 K62.old rfl rfl (by decide) S_s62 (Te.ext K62.old.2) SC hcs) at_41 nofun (pc' := 44) rfl rfl rfl rfl (Nat.le_of_eq rfl) (by decide) (by decide) (by decide) (by decide) ?_
  intro b63 T63 L63 K63 tr63
  show Goes p_.tables e_ below_ _ (T63.setTop (mkF m_ 44 #[.val (.int xx), .val (.ref a), .val (.ref ec), .val (.ref cc), .unset, .unset] [(.int (if ([101, 110] : List Int32) = [101, 110] then 1 else 0))]))
  rw [if_pos rfl]
  refine k_if_ne K63 at_44 (by decide) (pc' := 49) (pc2 := 47) (by decide) rfl (fun hc44 => ?_) (fun q => absurd q (by decide))
  refine k_ldcS K63 (vs := ([122, 104] : List Int32).map Value.int) (z := 2) (w133 hw) (own_wS hw) (by decide) ⟨by decide, by decide⟩ (by decide) (by decide) 8 (by decide) (by decide) at_49 (pc' := 51) rfl (by decide) (by decide) ?_
  intro b64 T64 h64 s64 e64 ke64 K64 E64 tr64 X1 X2 X3 X4 nd64
  replace X_a := X_a.ext E64
  replace FE0 := FE0.ext E64
  replace FS0 := FS0.ext E64
  replace V_d := V_d.ext E64
  replace S_s62 := S_s62.ext E64
  have S_s64 : Str Z h64 s64 e64 ke64 0 2 (([122, 104] : List Int32).map Value.int) := ⟨X1, X2, X3, X4⟩
  show Goes p_.tables e_ below_ _ (T64.setTop (mkF m_ 51 #[.val (.int xx), .val (.ref a), .val (.ref ec), .val (.ref cc), .unset, .unset] [(.ref s64)]))
  refine k_aloadN K64 at_51 (pc' := 52) rfl rfl rfl ?_
  refine k_virtualP K64 [(.ref cc)] [] 0 (w120 hw) (w121 hw) (w122 hw) (w123 hw) (w113 hw) (w124 hw) (notFace_of_selects (args := #[]) (mvT K64.hZ (w123 hw))) rfl (by decide) S_s64.1 (by decide) pd__Ljava_lang_Object__Z_194 (c_equals l Z a0 hw hEW n0 s64 cc e64 cb ke64 ck 2 2 [122, 104] [122, 104] cs0 h64 K64.old rfl rfl (by decide) S_s64 (Tc.ext K64.old.2) SC hcs) at_52 nofun (pc' := 55) rfl rfl rfl rfl (Nat.le_of_eq rfl) (by decide) (by decide) (by decide) (by decide) ?_
  intro b65 T65 L65 K65 tr65
  show Goes p_.tables e_ below_ _ (T65.setTop (mkF m_ 55 #[.val (.int xx), .val (.ref a), .val (.ref ec), .val (.ref cc), .unset, .unset] [(.int (if ([122, 104] : List Int32) = [122, 104] then 1 else 0))]))
  rw [if_pos rfl]
  refine k_if_ne K65 at_55 (by decide) (pc' := 60) (pc2 := 58) (by decide) rfl (fun hc55 => ?_) (fun q => absurd q (by decide))
  refine k_iloadN K65 at_60 (pc' := 61) rfl rfl ?_
  refine k_iconst K65 (1 : Int32) at_61 (pc' := 62) rfl rfl ?_
  refine k_iand K65 at_62 (pc' := 63) rfl ?_
  refine k_istore K65 at_63 (pc' := 65) (L' := #[.val (.int xx), .val (.ref a), .val (.ref ec), .val (.ref cc), .val (.int (xx &&& (1 : Int32))), .unset]) rfl rfl ?_
  refine k_iload K65 at_65 (pc' := 67) rfl rfl ?_
  refine k_if_ne K65 at_67 (by decide) (pc' := 76) (pc2 := 70) (by decide) rfl (fun hc67 => ?_) (fun hc67 => ?_)
  · have hi : xx &&& (1 : Int32) = 1 := (own_and1 xx).resolve_left hc67
    rw [hi]
    refine k_getS K65 (w140 hw) Via.refl SCh at_76 (pc' := 79) rfl ?_
    intro T66 K66
    refine k_astore K66 at_79 (pc' := 81) (L' := #[.val (.int xx), .val (.ref a), .val (.ref ec), .val (.ref cc), .val (.int (1 : Int32)), .val (.ref ch)]) rfl rfl rfl ?_
    refine k_aloadN K66 at_81 (pc' := 82) rfl rfl rfl ?_
    refine k_iload K66 at_82 (pc' := 84) rfl rfl ?_
    refine k_interfaceP K66 [(.int (1 : Int32))] [] 0 (w89 hw) (w90 hw) (mvT K66.hZ (w91 hw)) (w92 hw) (w93 hw) (w94 hw) (w95 hw) (w87 hw) (w6 hw) (w96 hw) rfl (by decide) X_a (by decide) pd__I_Ljava_lang_Object__1081 (c_get l Z a0 hw hEW n0 a d cc kd [.ref ec, .ref cc, .null, .null, .null, .null, .null, .null, .null, .null] 1 h64 K66.old X_a FE0 V_d (by decide) (by decide) rfl FS0 (by decide)) at_84 nofun (pc' := 89) rfl rfl rfl rfl (Nat.le_of_eq rfl) (by decide) (by decide) (by decide) (by decide) ?_
    intro b67 T67 L67 K67 tr67
    show Goes p_.tables e_ below_ _ (T67.setTop (mkF m_ 89 #[.val (.int xx), .val (.ref a), .val (.ref ec), .val (.ref cc), .val (.int (1 : Int32)), .val (.ref ch)] [(.ref cc)]))
    refine k_castY K67 (w110 hw) (Ins.self (Xcc.ext K67.old.2)) at_89 (pc' := 92) rfl ?_
    intro T68 K68
    refine k_aload K68 at_92 (pc' := 94) rfl rfl rfl ?_
    refine k_virtualP K68 [] [(.ref cc)] 1 (w135 hw) (w136 hw) (w137 hw) (w138 hw) (w2 hw) (w139 hw) (notFace_of_selects (args := #[]) (mvT K68.hZ (w138 hw))) rfl (by decide) (Xc.ext K68.old.2) (by decide) pd___Ljava_lang_String__9676 (c_code l Z a0 hw hEW n0 ch cc h64 K68.old (Fc.ext K68.old.2)) at_94 nofun (pc' := 97) rfl rfl rfl rfl (Nat.le_of_eq rfl) (by decide) (by decide) (by decide) (by decide) ?_
    intro b69 T69 L69 K69 tr69
    show Goes p_.tables e_ below_ _ (T69.setTop (mkF m_ 97 #[.val (.int xx), .val (.ref a), .val (.ref ec), .val (.ref cc), .val (.int (1 : Int32)), .val (.ref ch)] [(.ref cc), (.ref cc)]))
    refine k_virtualP K69 [(.ref cc)] [] 0 (w120 hw) (w121 hw) (w122 hw) (w123 hw) (w113 hw) (w124 hw) (notFace_of_selects (args := #[]) (mvT K69.hZ (w123 hw))) rfl (by decide) (Tc.ext K69.old.2).1 (by decide) pd__Ljava_lang_Object__Z_194 (c_equals l Z a0 hw hEW n0 cc cc cb cb ck ck 2 2 [122, 104] [122, 104] cs0 h64 K69.old rfl rfl (by decide) (Tc.ext K69.old.2) (Tc.ext K69.old.2) SC hcs) at_97 nofun (pc' := 100) rfl rfl rfl rfl (Nat.le_of_eq rfl) (by decide) (by decide) (by decide) (by decide) ?_
    intro b70 T70 L70 K70 tr70
    show Goes p_.tables e_ below_ _ (T70.setTop (mkF m_ 100 #[.val (.int xx), .val (.ref a), .val (.ref ec), .val (.ref cc), .val (.int (1 : Int32)), .val (.ref ch)] [(.int (if ([122, 104] : List Int32) = [122, 104] then 1 else 0))]))
    rw [if_pos rfl]
    exact k_nret K70 at_100 rfl (by simp) rfl (fun sf ht => ⟨rfl, trivial⟩) (by decide) (by decide)
  · have hi : xx &&& (1 : Int32) = 0 := hc67
    rw [hi]
    refine k_getS K65 (w134 hw) Via.refl SEn at_70 (pc' := 73) rfl ?_
    intro T71 K71
    refine k_goto K71 at_73 (by decide) (pc' := 79) (by decide) ?_
    refine k_astore K71 at_79 (pc' := 81) (L' := #[.val (.int xx), .val (.ref a), .val (.ref ec), .val (.ref cc), .val (.int (0 : Int32)), .val (.ref en)]) rfl rfl rfl ?_
    refine k_aloadN K71 at_81 (pc' := 82) rfl rfl rfl ?_
    refine k_iload K71 at_82 (pc' := 84) rfl rfl ?_
    refine k_interfaceP K71 [(.int (0 : Int32))] [] 0 (w89 hw) (w90 hw) (mvT K71.hZ (w91 hw)) (w92 hw) (w93 hw) (w94 hw) (w95 hw) (w87 hw) (w6 hw) (w96 hw) rfl (by decide) X_a (by decide) pd__I_Ljava_lang_Object__1081 (c_get l Z a0 hw hEW n0 a d ec kd [.ref ec, .ref cc, .null, .null, .null, .null, .null, .null, .null, .null] 0 h64 K71.old X_a FE0 V_d (by decide) (by decide) rfl FS0 (by decide)) at_84 nofun (pc' := 89) rfl rfl rfl rfl (Nat.le_of_eq rfl) (by decide) (by decide) (by decide) (by decide) ?_
    intro b72 T72 L72 K72 tr72
    show Goes p_.tables e_ below_ _ (T72.setTop (mkF m_ 89 #[.val (.int xx), .val (.ref a), .val (.ref ec), .val (.ref cc), .val (.int (0 : Int32)), .val (.ref en)] [(.ref ec)]))
    refine k_castY K72 (w110 hw) (Ins.self (Xec.ext K72.old.2)) at_89 (pc' := 92) rfl ?_
    intro T73 K73
    refine k_aload K73 at_92 (pc' := 94) rfl rfl rfl ?_
    refine k_virtualP K73 [] [(.ref ec)] 1 (w135 hw) (w136 hw) (w137 hw) (w138 hw) (w2 hw) (w139 hw) (notFace_of_selects (args := #[]) (mvT K73.hZ (w138 hw))) rfl (by decide) (Xe.ext K73.old.2) (by decide) pd___Ljava_lang_String__9676 (c_code l Z a0 hw hEW n0 en ec h64 K73.old (Fe.ext K73.old.2)) at_94 nofun (pc' := 97) rfl rfl rfl rfl (Nat.le_of_eq rfl) (by decide) (by decide) (by decide) (by decide) ?_
    intro b74 T74 L74 K74 tr74
    show Goes p_.tables e_ below_ _ (T74.setTop (mkF m_ 97 #[.val (.int xx), .val (.ref a), .val (.ref ec), .val (.ref cc), .val (.int (0 : Int32)), .val (.ref en)] [(.ref ec), (.ref ec)]))
    refine k_virtualP K74 [(.ref ec)] [] 0 (w120 hw) (w121 hw) (w122 hw) (w123 hw) (w113 hw) (w124 hw) (notFace_of_selects (args := #[]) (mvT K74.hZ (w123 hw))) rfl (by decide) (Te.ext K74.old.2).1 (by decide) pd__Ljava_lang_Object__Z_194 (c_equals l Z a0 hw hEW n0 ec ec eb eb ek ek 2 2 [101, 110] [101, 110] cs0 h64 K74.old rfl rfl (by decide) (Te.ext K74.old.2) (Te.ext K74.old.2) SC hcs) at_97 nofun (pc' := 100) rfl rfl rfl rfl (Nat.le_of_eq rfl) (by decide) (by decide) (by decide) (by decide) ?_
    intro b75 T75 L75 K75 tr75
    show Goes p_.tables e_ below_ _ (T75.setTop (mkF m_ 100 #[.val (.int xx), .val (.ref a), .val (.ref ec), .val (.ref cc), .val (.int (0 : Int32)), .val (.ref en)] [(.int (if ([101, 110] : List Int32) = [101, 110] then 1 else 0))]))
    rw [if_pos rfl]
    exact k_nret K75 at_100 rfl (by simp) rfl (fun sf ht => ⟨rfl, trivial⟩) (by decide) (by decide)
theorem w42 {Z : State} {a0 : Array Value} (hw : Tb a0 Z) : (Jvm.Cond.laysStatic "com/example/halfpower/halfpower/certificate/Language" "ENGLISH" "Lcom/example/halfpower/halfpower/certificate/Language;").before a0 Z = true := hw _ (List.mem_of_getElem? (i := 42) rfl)
theorem w43 {Z : State} {a0 : Array Value} (hw : Tb a0 Z) : (Jvm.Cond.laysStatic "com/example/halfpower/halfpower/certificate/Language" "CHINESE" "Lcom/example/halfpower/halfpower/certificate/Language;").before a0 Z = true := hw _ (List.mem_of_getElem? (i := 43) rfl)
theorem w34 {Z : State} {a0 : Array Value} (hw : Tb a0 Z) : (Jvm.Cond.laysStatic "com/example/halfpower/halfpower/certificate/Language" "$VALUES" "[Lcom/example/halfpower/halfpower/certificate/Language;").before a0 Z = true := hw _ (List.mem_of_getElem? (i := 34) rfl)
theorem own_eqI {args : Array Value} {s : State} {t : Term} {k : Int32} (h : (Cond.eq t (.int k)).value args s none s [] = some true) : t.eval args s none [] s = some (.int k) := by
  obtain ⟨x, y, e1, e2, -, k2⟩ := cmp_v (Or.inl h)
  have e3 : y = .int k := (Option.some.inj e2).symm
  subst e3
  obtain ⟨z, rfl⟩ := k2
  have q : z = k := by simpa [Cond.value, Term.eval, e1] using h
  rw [e1, q]
theorem own_fld {args : Array Value} {s : State} {t : Term} {a : Addr} {C n d : String} {v : Value} (ht : t.eval args s none [] s = some (.ref a)) (h : (Term.field t C n d).eval args s none [] s = some v) : Fld s s.heap a C n d v := Fld.start (by rw [← fld_at ht]; exact h)
theorem own_arv {args : Array Value} {s : State} (hf : Fit s) {t : Term} {b : Addr} {ty : FieldType} {z : Int32} {vs : List Value} {dv : Value} (ev : t.eval args s none [] s = some (.ref b)) (hA : (Cond.arrayOf t ty).value args s none s [] = some true) (hL : (Cond.eq (.length t) (.int z)).value args s none s [] = some true) (hz : ¬ z < 0) (hl : z.toNatClampNeg = vs.length) (H : ∀ cl : Cell, s.heap[b]? = some cl → HasL cl 0 vs) : ∃ k, Arv s s.heap b k ty z vs dv := by
  obtain ⟨cl, A⟩ := Arr.start ev hA
  have e := own_eqI hL
  have q : s.arrayAt? b = some cl := A.fin (Vm.Alike.refl _)
  simp only [Term.eval, ev, q, Option.bind_eq_bind, Option.bind_some] at e
  split at e
  · rename_i hs
    exact ⟨cl.cls, Arv.start hf A hs (Value.int.inj (Option.some.inj e)) hz hl (H cl A.1)⟩
  · cases e
theorem own_el {args : Array Value} {s : State} {t : Term} {b : Addr} {j v : Int32} {cl : Cell} (ev : t.eval args s none [] s = some (.ref b)) (h : (Cond.eq (.elem t (.int j)) (.int v)).value args s none s [] = some true) (hc : s.heap[b]? = some cl) : cl.slots[j.toNatClampNeg]? = some (.int v) := (elem_in (own_eqI h) ev rfl hc).2
theorem own_eqR {args : Array Value} {s : State} {t u : Term} {x : Addr} (hu : u.eval args s none [] s = some (.ref x)) (h : (Cond.eq t u).value args s none s [] = some true) : t.eval args s none [] s = some (.ref x) := by
  obtain ⟨v, y, e1, e2, k1, k2⟩ := cmp_v (Or.inl h)
  have e3 : y = .ref x := Option.some.inj (e2.symm.trans hu)
  subst e3
  have hv : v.isRef = true := k2.2
  have q := gotT (eq_R e1 e2 hv rfl) h
  rw [e1, q]
theorem own_elR {args : Array Value} {s : State} {t u : Term} {b x : Addr} {j : Int32} {cl : Cell} (ev : t.eval args s none [] s = some (.ref b)) (hu : u.eval args s none [] s = some (.ref x)) (h : (Cond.eq (.elem t (.int j)) u).value args s none s [] = some true) (hc : s.heap[b]? = some cl) : cl.slots[j.toNatClampNeg]? = some (.ref x) := (elem_in (own_eqR hu h) ev rfl hc).2
set_option maxRecDepth 65536 in
set_option maxHeartbeats 40000000 in
theorem comes_1 {Post : Tables → Env → Array Value → State → Outcome → State → Prop} (hpost : ∀ tb e args s v u, (limb_1_1.after args s (.returned v) u = true ∧ limb_1_2.after args s (.returned v) u = true ∧ True) → ReturnedEndW s (.returned v) u (Jvm.fieldLocs frame_1_writes args s ++ Jvm.arrayLocs frame_1_arrays args s ++ Jvm.staticLocs frame_1_statics s) 24 2176 → Post tb e args s (.returned v) u) :
    ArmFor flags0 classFile x code maxLocals ret World_1 tables_1 room_1 Calls_1 rest_1 Pre_1 Post := by
  intro l hfl _ _ p e ha hc hk s m args below hf hA hF happ hP
  obtain ⟨hcalls, hrest, hpre⟩ := hP
  obtain ⟨-, -, -, hnamed, -, -, -, hat⟩ := (Spec.applies_iff hf).mp happ
  obtain ⟨hg, hn⟩ := and_e (Cond.before_iff.mp (show (Jvm.Cond.and given_1 narrow_1).before args s = true from hpre))
  obtain ⟨hg_0, hg⟩ := and_e hg
  obtain ⟨w0, rfl⟩ : ∃ w0 : Value, args = #[w0] := by
    have hs : args.size = 1 := by simpa [Cond.value, given_1] using hg_0
    obtain ⟨L⟩ := args
    match L, hs with
    | [w0], _ => exact ⟨w0, rfl⟩
  have hg_1 := hg
  have hw := fun d (hd : d ∈ tables_1) => atoms_spec (ws := Jvm.Cond.code x code maxLocals ret :: tables_1) hat d (List.mem_cons_of_mem _ hd)
  have hfit : Fit s := fun {y c} hc i hi => by
    obtain ⟨ha, rfl⟩ := Array.getElem?_eq_some_iff.mp hc
    have q := List.all_eq_true.mp ((Array.all_eq_true_iff_forall_mem.mp hF) _ (Array.getElem_mem ha)) i (List.mem_range.mpr hi)
    simpa [Array.getElem?_eq_getElem hi] using q
  obtain ⟨hsets, hown0⟩ := atoms_of _ (rest_1_c_eq ▸ (show rest_1_c.before _ s = true from hrest))
  obtain ⟨i0, ei0⟩ := is_v hg_1
  obtain rfl : w0 = (.int i0) := Option.some.inj ei0
  obtain ⟨hn_0, hn⟩ := and_e hn
  obtain ⟨hn_1, hn⟩ := and_e hn
  obtain ⟨hn_2, hn⟩ := and_e hn
  obtain ⟨hn_3, hn⟩ := and_e hn
  obtain ⟨hn_4, hn⟩ := and_e hn
  obtain ⟨hn_5, hn⟩ := and_e hn
  obtain ⟨hn_6, hn⟩ := and_e hn
  obtain ⟨hn_7, hn⟩ := and_e hn
  obtain ⟨hn_8, hn⟩ := and_e hn
  obtain ⟨hn_9, hn⟩ := and_e hn
  obtain ⟨hn_10, hn⟩ := and_e hn
  obtain ⟨hn_11, hn⟩ := and_e hn
  obtain ⟨hn_12, hn⟩ := and_e hn
  obtain ⟨hn_13, hn⟩ := and_e hn
  obtain ⟨hn_14, hn⟩ := and_e hn
  obtain ⟨hn_15, hn⟩ := and_e hn
  obtain ⟨hn_16, hn⟩ := and_e hn
  obtain ⟨hn_17, hn⟩ := and_e hn
  have hn_18 := hn
  have hEW : EW s _ EL0 := (EW.cons (w112 hw) (by decide) (EW.cons (w133 hw) (by decide) EW.nil))
  have hCH : CHv s EL0 s.vm s.heap := CHv.start hEW hcalls.1 (hsets _ (List.mem_of_getElem? (i := 11) rfl)) (w115 hw) (w114 hw)
  obtain ⟨cs0, ecs⟩ := is_v (Cond.before_iff.mp (hsets _ (List.mem_of_getElem? (i := 10) rfl)))
  have SC := Sta.start ecs (Or.inl (hsets _ (List.mem_of_getElem? (i := 9) rfl)))
  have hcs : ¬ cs0 = 0 := fun q => by
    have h2 := not_v (Cond.before_iff.mp (hsets _ (List.mem_of_getElem? (i := 11) rfl)))
    rw [q] at ecs
    rw [eq_i ecs (Term.int_eval 0) rfl] at h2
    cases h2
  obtain ⟨en, een⟩ := exa_v hn_3
  have Xe := Exa.start een hn_3
  have SEn := Sta.start een (Or.inr ⟨(w2 hw), (w42 hw)⟩)
  obtain ⟨ch, ech⟩ := exa_v hn_5
  have Xc := Exa.start ech hn_5
  have SCh := Sta.start ech (Or.inr ⟨(w2 hw), (w43 hw)⟩)
  obtain ⟨va, eva⟩ := exa_v hn_1
  have XV := Exa.start eva hn_1
  have SV := Sta.start eva (Or.inr ⟨(w2 hw), (w34 hw)⟩)
  obtain ⟨kv, VV⟩ := own_arv hfit eva hn_0 hn_2 (by decide) (vs := [.ref en, .ref ch]) (dv := .null) rfl (fun cl hcl => ⟨own_elR eva een hn_4 hcl, own_elR eva ech hn_6 hcl, trivial⟩)
  obtain ⟨de, ede⟩ := exa_v (Cond.before_iff.mp (hsets _ (List.mem_of_getElem? (i := 7) rfl)))
  have SD0 := Sta.start ede (Or.inr ⟨(w6 hw), (hsets _ (List.mem_of_getElem? (i := 2) rfl))⟩)
  obtain ⟨kde, VD⟩ := own_arv hfit ede (Cond.before_iff.mp (hsets _ (List.mem_of_getElem? (i := 6) rfl))) (Cond.before_iff.mp (hsets _ (List.mem_of_getElem? (i := 8) rfl))) (by decide) (vs := []) (dv := .null) rfl (fun cl hcl => trivial)
  obtain ⟨ec, eec⟩ := exa_v hn_7
  have Xec := Exa.start eec hn_7
  have Fe := own_fld een eec
  have Kec := own_fld eec (own_eqI hn_9)
  obtain ⟨eb, eeb⟩ := arr_v hn_10
  have Vec := own_fld eec eeb
  obtain ⟨ek, Aeb⟩ := own_arv hfit eeb hn_10 hn_11 (by decide) (vs := ([101, 110] : List Int32).map Value.int) (dv := .int 0) rfl (fun cl hcl => ⟨own_el eeb hn_12 hcl, own_el eeb hn_13 hcl, trivial⟩)
  have Te : Str s s.heap ec eb ek 0 2 (([101, 110] : List Int32).map Value.int) := ⟨Xec, Kec, Vec, Aeb⟩
  obtain ⟨cc, ecc⟩ := exa_v hn_8
  have Xcc := Exa.start ecc hn_8
  have Fc := own_fld ech ecc
  have Kcc := own_fld ecc (own_eqI hn_14)
  obtain ⟨cb, ecb⟩ := arr_v hn_15
  have Vcc := own_fld ecc ecb
  obtain ⟨ck, Acb⟩ := own_arv hfit ecb hn_15 hn_16 (by decide) (vs := ([122, 104] : List Int32).map Value.int) (dv := .int 0) rfl (fun cl hcl => ⟨own_el ecb hn_17 hcl, own_el ecb hn_18 hcl, trivial⟩)
  have Tc : Str s s.heap cc cb ck 0 2 (([122, 104] : List Int32).map Value.int) := ⟨Xcc, Kcc, Vcc, Acb⟩
  obtain ⟨n, o, h1, h2, h3, _, L, rfl, ⟨N, -, rfl, -⟩, -, hq⟩ := c_law l s _ hw hEW s.heap.size i0 cs0 va en ch de ec cc kv kde cb eb ck ek s.heap (Old.start s) SV VV XV hfit SD0 VD Fe Fc Xec Xcc SCh SEn Xc Xe Tc Te SC hcs tables_1 p e ha hc hk s m _ below hf ((Spec.applies_iff_loose hf).mp happ).1 ⟨rfl, State.Warmed39.refl s, rfl, nofun, hCH⟩ trivial
  refine ⟨n, _, h1, h2, h3, hpost _ _ _ _ _ _ ⟨Cond.after_iff.mpr rfl, Cond.after_iff.mpr (eq_i res_at (Term.int_eval (1)) rfl), trivial⟩ ⟨hq.1, hq.2.1, hq.2.2.1, (hq.2.2.2.sift fun y hy => Or.inr (N y hy)).mono (by decide) (by decide)⟩⟩
theorem main_1_1 : Claimed_1_1 := comes_1 fun _ _ _ _ _ _ h hF => ⟨h.1, hF⟩
theorem main_1_2 : Claimed_1_2 := comes_1 fun _ _ _ _ _ _ h hF => ⟨h.2.1, hF⟩
end Jvm.Pilot.@@N@@
namespace Jvm.Pilot.@@N@@
open Jvm Jvm.ClassFile Sem Op Lib Jvm.Free Jvm.Stand Jvm.Pilot.@@N@@.Jvm.D
/-! MADE BY PROGRAM (witnessworld.py) out of the Statement's table words and the real class files: 30 classes; the members and pool entries that the words name. The judged class is class 1, her method 1. -/
namespace start1
open Jvm.ClassFile
def u (s : String) : CpInfo := .utf8 (stringToUtf16 s)
/-- a pool by its gaps: so many unusable entries, then the entry; so many at the end -/
def gap : Nat → List CpInfo → List CpInfo
  | 0, r => r
  | n + 1, r => .unusable :: gap n r
def poolList (es : List (Nat × CpInfo)) (last : Nat) : List CpInfo := es.foldr (fun e r => gap e.1 (e.2 :: r)) (gap last [])
def pool (es : List (Nat × CpInfo)) (last : Nat) : Array CpInfo := ⟨poolList es last⟩
def fileOf (pool : Array CpInfo) (this : Nat) (attrs : Array Attribute := #[]) (ms : Array MethodInfo := #[]) (fl : Nat := 33) (sup : Nat := 0) (ifs : Array Nat := #[]) (fds : Array FieldInfo := #[]) : ClassFile where
  minorVersion := 0
  majorVersion := 65
  constantPool := pool
  accessFlags := fl
  thisClass := this
  superClass := sup
  interfaces := ifs
  fields := fds
  methods := ms
  attributes := attrs
def plain (name : String) (sup : Option ClassId) : Class where
  name := name
  kind := .ordinary
  loader := none
  accessFlags := 33
  super := sup
  interfaces := #[]
  cf := none
  fields := #[]
  methods := #[]
  instanceTypes := #[]
  staticTypes := #[]
  resolved := #[]
  callSites := []
  init := .initialized
  statics := none
  mirror := none

def pool0 : Array CpInfo := pool [(5, u "<init>"), (0, u "()V"), (1, .class_ 10), (1, u "java/lang/Object"), (85, u "clone"), (0, u "()Ljava/lang/Object;")] 26

def k0c0 : Code := { maxStack := 0, maxLocals := 1, code := object_method_1_code, exceptionTable := #[], attributes := #[] }
def k0m0 : Method := { name := "<init>", desc := "()V", sig := { parameters := [], returnType := none }, accessFlags := 1, code := some k0c0 }
def k0m1 : Method := { name := "clone", desc := "()Ljava/lang/Object;", sig := { parameters := [], returnType := some (.object "java/lang/Object") }, accessFlags := 260, code := none }
/-- java/lang/Object -/
def k0 : Class := { plain "java/lang/Object" none with
  accessFlags := 33
  interfaces := #[]
  cf := some (fileOf pool0 8 #[] #[{ accessFlags := 1, nameIndex := 5, descriptorIndex := 6, attributes := #[] }, { accessFlags := 260, nameIndex := 96, descriptorIndex := 97, attributes := #[] }] 33 0 #[] #[])
  fields := #[]
  methods := #[k0m0, k0m1]
  instanceTypes := #[]
  staticTypes := #[]
  resolved := Array.replicate 124 none
  statics := none }

def pool1 : Array CpInfo := pool [(2, .class_ 4), (1, u "java/lang/Object"), (0, u "<init>"), (0, u "()V"), (0, .methodref 8 9), (0, .class_ 10), (0, .nameAndType 11 12), (0, u "com/example/halfpower/halfpower/certificate/Language"), (0, u "codes"), (0, u "()Ljava/util/List;"), (0, .interfaceMethodref 14 15), (0, .class_ 16), (0, .nameAndType 17 18), (0, u "java/util/List"), (0, u "size"), (0, u "()I"), (0, .interfaceMethodref 14 20), (0, .nameAndType 21 22), (0, u "get"), (0, u "(I)Ljava/lang/Object;"), (0, .class_ 24), (0, u "java/lang/String"), (0, .string 26), (0, u "en"), (0, .methodref 23 28), (0, .nameAndType 29 30), (0, u "equals"), (0, u "(Ljava/lang/Object;)Z"), (0, .string 32), (0, u "zh"), (0, .fieldref 8 34), (0, .nameAndType 35 36), (0, u "ENGLISH"), (0, u "Lcom/example/halfpower/halfpower/certificate/Language;"), (0, .fieldref 8 38), (0, .nameAndType 39 36), (0, u "CHINESE"), (0, .methodref 8 41), (0, .nameAndType 42 43), (0, u "code"), (0, u "()Ljava/lang/String;"), (0, .class_ 45), (0, u "com/example/halfpower/halfpower/certificate/LanguageCodesPinLaw"), (2, u "law"), (0, u "(I)Z")] 3

def k1m0 : Method := { name := "<init>", desc := "()V", sig := { parameters := [], returnType := none }, accessFlags := 1, code := none }
def k1c1 : Code := { maxStack := 2, maxLocals := 6, code := code, exceptionTable := #[], attributes := #[] }
def k1m1 : Method := { name := "law", desc := "(I)Z", sig := { parameters := [.int], returnType := some .boolean }, accessFlags := 9, code := some k1c1 }
/-- com/example/halfpower/halfpower/certificate/LanguageCodesPinLaw -/
def k1 : Class := { plain "com/example/halfpower/halfpower/certificate/LanguageCodesPinLaw" (some 0) with
  accessFlags := 49
  interfaces := #[]
  cf := some (fileOf pool1 44 #[] #[{ accessFlags := 1, nameIndex := 5, descriptorIndex := 6, attributes := #[] }, { accessFlags := 9, nameIndex := 48, descriptorIndex := 49, attributes := #[] }] 49 2 #[] #[])
  fields := #[]
  methods := #[k1m0, k1m1]
  instanceTypes := #[]
  staticTypes := #[]
  resolved := Array.replicate 53 none
  statics := none }

def pool2 : Array CpInfo := pool [(1, .class_ 2), (0, u "java/lang/constant/Constable"), (0, .class_ 4), (0, u "java/lang/Object")] 6

/-- java/lang/constant/Constable -/
def k2 : Class := { plain "java/lang/constant/Constable" (some 0) with
  accessFlags := 1537
  interfaces := #[]
  cf := some (fileOf pool2 1 #[] #[] 1537 3 #[] #[])
  fields := #[]
  methods := #[]
  instanceTypes := #[]
  staticTypes := #[]
  resolved := Array.replicate 11 none
  statics := none }

def pool3 : Array CpInfo := pool [(1, .class_ 2), (0, u "java/lang/Comparable"), (0, .class_ 4), (0, u "java/lang/Object")] 7

/-- java/lang/Comparable -/
def k3 : Class := { plain "java/lang/Comparable" (some 0) with
  accessFlags := 1537
  interfaces := #[]
  cf := some (fileOf pool3 1 #[] #[] 1537 3 #[] #[])
  fields := #[]
  methods := #[]
  instanceTypes := #[]
  staticTypes := #[]
  resolved := Array.replicate 12 none
  statics := none }

def pool4 : Array CpInfo := pool [(1, .class_ 2), (0, u "java/io/Serializable"), (0, .class_ 4), (0, u "java/lang/Object")] 2

/-- java/io/Serializable -/
def k4 : Class := { plain "java/io/Serializable" (some 0) with
  accessFlags := 1537
  interfaces := #[]
  cf := some (fileOf pool4 1 #[] #[] 1537 3 #[] #[])
  fields := #[]
  methods := #[]
  instanceTypes := #[]
  staticTypes := #[]
  resolved := Array.replicate 7 none
  statics := none }

def pool5 : Array CpInfo := pool [(2, .class_ 4), (1, u "java/lang/Enum"), (0, u "name"), (0, u "Ljava/lang/String;"), (2, u "ordinal"), (0, u "I"), (1, .class_ 14), (1, u "java/lang/Object"), (4, u "hash"), (86, .class_ 108), (1, u "java/lang/Enum$EnumDesc"), (2, .class_ 112), (0, u "java/lang/constant/Constable"), (0, .class_ 114), (0, u "java/lang/Comparable"), (0, .class_ 116), (0, u "java/io/Serializable")] 87

/-- java/lang/Enum -/
def k5 : Class := { plain "java/lang/Enum" (some 0) with
  accessFlags := 1057
  interfaces := #[2, 3, 4]
  cf := some (fileOf pool5 2 #[.nestMembers #[106]] #[] 1057 12 #[111, 113, 115] #[{ accessFlags := 18, nameIndex := 5, descriptorIndex := 6, attributes := #[] }, { accessFlags := 18, nameIndex := 9, descriptorIndex := 10, attributes := #[] }, { accessFlags := 2, nameIndex := 19, descriptorIndex := 10, attributes := #[] }])
  fields := #[{ name := "name", type := (.object "java/lang/String"), accessFlags := 18, slot := 0, constantValue := 0 }, { name := "ordinal", type := .int, accessFlags := 18, slot := 1, constantValue := 0 }, { name := "hash", type := .int, accessFlags := 2, slot := 2, constantValue := 0 }]
  methods := #[]
  instanceTypes := #[(.object "java/lang/String"), .int, .int]
  staticTypes := #[]
  resolved := Array.replicate 204 none
  statics := none }

def pool6 : Array CpInfo := pool [(1, .class_ 2), (0, u "com/example/halfpower/halfpower/certificate/Language"), (2, u "ENGLISH"), (0, u "Lcom/example/halfpower/halfpower/certificate/Language;"), (2, u "CHINESE"), (0, .fieldref 1 11), (0, .nameAndType 12 13), (0, u "$VALUES"), (0, u "[Lcom/example/halfpower/halfpower/certificate/Language;"), (0, .methodref 15 16), (0, .class_ 13), (0, .nameAndType 17 18), (0, u "clone"), (0, u "()Ljava/lang/Object;"), (1, .class_ 22), (1, u "java/lang/Enum"), (4, u "<init>"), (1, .fieldref 1 30), (0, .nameAndType 31 32), (0, u "code"), (0, u "Ljava/lang/String;"), (2, u "tag"), (0, .methodref 1 37), (0, .nameAndType 38 39), (0, u "values"), (0, u "()[Lcom/example/halfpower/halfpower/certificate/Language;"), (5, u "(Ljava/lang/Object;)Z"), (10, .class_ 57), (0, u "java/util/ArrayList"), (0, .methodref 56 59), (0, .nameAndType 27 60), (0, u "()V"), (0, .methodref 56 62), (0, .nameAndType 63 45), (0, u "add"), (5, u "()Ljava/lang/String;"), (27, u "codes"), (0, u "()Ljava/util/List;")] 7

def k6c0 : Code := { maxStack := 1, maxLocals := 0, code := prog_5_method_1_code, exceptionTable := #[], attributes := #[] }
def k6m0 : Method := { name := "values", desc := "()[Lcom/example/halfpower/halfpower/certificate/Language;", sig := { parameters := [], returnType := some (.array (.object "com/example/halfpower/halfpower/certificate/Language")) }, accessFlags := 9, code := some k6c0 }
def k6c1 : Code := { maxStack := 1, maxLocals := 1, code := prog_5_method_4_code, exceptionTable := #[], attributes := #[] }
def k6m1 : Method := { name := "code", desc := "()Ljava/lang/String;", sig := { parameters := [], returnType := some (.object "java/lang/String") }, accessFlags := 1, code := some k6c1 }
def k6c2 : Code := { maxStack := 2, maxLocals := 5, code := prog_5_method_7_code, exceptionTable := #[], attributes := #[] }
def k6m2 : Method := { name := "codes", desc := "()Ljava/util/List;", sig := { parameters := [], returnType := some (.object "java/util/List") }, accessFlags := 9, code := some k6c2 }
/-- com/example/halfpower/halfpower/certificate/Language -/
def k6 : Class := { plain "com/example/halfpower/halfpower/certificate/Language" (some 5) with
  accessFlags := 16433
  interfaces := #[]
  cf := some (fileOf pool6 1 #[] #[{ accessFlags := 9, nameIndex := 38, descriptorIndex := 39, attributes := #[] }, { accessFlags := 1, nameIndex := 31, descriptorIndex := 69, attributes := #[] }, { accessFlags := 9, nameIndex := 97, descriptorIndex := 98, attributes := #[] }] 16433 20 #[] #[{ accessFlags := 16409, nameIndex := 5, descriptorIndex := 6, attributes := #[] }, { accessFlags := 16409, nameIndex := 9, descriptorIndex := 6, attributes := #[] }, { accessFlags := 18, nameIndex := 31, descriptorIndex := 32, attributes := #[] }, { accessFlags := 18, nameIndex := 35, descriptorIndex := 32, attributes := #[] }, { accessFlags := 4122, nameIndex := 12, descriptorIndex := 13, attributes := #[] }])
  fields := #[{ name := "ENGLISH", type := (.object "com/example/halfpower/halfpower/certificate/Language"), accessFlags := 16409, slot := 0, constantValue := 0 }, { name := "CHINESE", type := (.object "com/example/halfpower/halfpower/certificate/Language"), accessFlags := 16409, slot := 1, constantValue := 0 }, { name := "code", type := (.object "java/lang/String"), accessFlags := 18, slot := 3, constantValue := 0 }, { name := "tag", type := (.object "java/lang/String"), accessFlags := 18, slot := 4, constantValue := 0 }, { name := "$VALUES", type := (.array (.object "com/example/halfpower/halfpower/certificate/Language")), accessFlags := 4122, slot := 2, constantValue := 0 }]
  methods := #[k6m0, k6m1, k6m2]
  instanceTypes := #[(.object "java/lang/String"), .int, .int, (.object "java/lang/String"), (.object "java/lang/String")]
  staticTypes := #[(.object "com/example/halfpower/halfpower/certificate/Language"), (.object "com/example/halfpower/halfpower/certificate/Language"), (.array (.object "com/example/halfpower/halfpower/certificate/Language"))]
  resolved := Array.replicate 106 none
  statics := some 0 }

def pool7 : Array CpInfo := pool [(8, .class_ 10), (1, u "java/lang/Iterable"), (24, .class_ 36), (0, u "java/lang/Object")] 25

/-- java/lang/Iterable -/
def k7 : Class := { plain "java/lang/Iterable" (some 0) with
  accessFlags := 1537
  interfaces := #[]
  cf := some (fileOf pool7 8 #[] #[] 1537 35 #[] #[])
  fields := #[]
  methods := #[]
  instanceTypes := #[]
  staticTypes := #[]
  resolved := Array.replicate 62 none
  statics := none }

def pool8 : Array CpInfo := pool [(10, .class_ 12), (1, u "java/util/Collection"), (47, .class_ 61), (0, u "java/lang/Object"), (0, .class_ 63), (0, u "java/lang/Iterable")] 51

/-- java/util/Collection -/
def k8 : Class := { plain "java/util/Collection" (some 0) with
  accessFlags := 1537
  interfaces := #[7]
  cf := some (fileOf pool8 10 #[] #[] 1537 60 #[62] #[])
  fields := #[]
  methods := #[]
  instanceTypes := #[]
  staticTypes := #[]
  resolved := Array.replicate 115 none
  statics := none }

def pool9 : Array CpInfo := pool [(1, .methodref 2 3), (0, .class_ 4), (0, .nameAndType 5 6), (0, u "java/lang/Object"), (0, u "<init>"), (0, u "()V"), (1, .class_ 10), (1, u "java/util/AbstractCollection"), (66, .class_ 78), (0, u "java/util/Collection")] 81

def k9c0 : Code := { maxStack := 1, maxLocals := 1, code := jdk_22_method_1_code, exceptionTable := #[], attributes := #[] }
def k9m0 : Method := { name := "<init>", desc := "()V", sig := { parameters := [], returnType := none }, accessFlags := 4, code := some k9c0 }
/-- java/util/AbstractCollection -/
def k9 : Class := { plain "java/util/AbstractCollection" (some 0) with
  accessFlags := 1057
  interfaces := #[8]
  cf := some (fileOf pool9 8 #[] #[{ accessFlags := 4, nameIndex := 5, descriptorIndex := 6, attributes := #[] }] 1057 2 #[77] #[])
  fields := #[]
  methods := #[k9m0]
  instanceTypes := #[]
  staticTypes := #[]
  resolved := Array.replicate 160 none
  statics := none }

def pool10 : Array CpInfo := pool [(8, .class_ 10), (1, u "java/util/SequencedCollection"), (15, .class_ 27), (0, u "java/lang/Object"), (0, .class_ 29), (0, u "java/util/Collection")] 27

/-- java/util/SequencedCollection -/
def k10 : Class := { plain "java/util/SequencedCollection" (some 0) with
  accessFlags := 1537
  interfaces := #[8]
  cf := some (fileOf pool10 8 #[] #[] 1537 26 #[28] #[])
  fields := #[]
  methods := #[]
  instanceTypes := #[]
  staticTypes := #[]
  resolved := Array.replicate 57 none
  statics := none }

def pool11 : Array CpInfo := pool [(8, .class_ 10), (1, u "java/util/List"), (64, u "get"), (0, u "(I)Ljava/lang/Object;"), (2, u "size"), (0, u "()I"), (22, .class_ 104), (0, u "java/lang/Object"), (15, .class_ 121), (0, u "java/util/SequencedCollection")] 129

def k11m0 : Method := { name := "size", desc := "()I", sig := { parameters := [], returnType := some .int }, accessFlags := 1025, code := none }
def k11m1 : Method := { name := "get", desc := "(I)Ljava/lang/Object;", sig := { parameters := [.int], returnType := some (.object "java/lang/Object") }, accessFlags := 1025, code := none }
/-- java/util/List -/
def k11 : Class := { plain "java/util/List" (some 0) with
  accessFlags := 1537
  interfaces := #[10]
  cf := some (fileOf pool11 8 #[] #[{ accessFlags := 1025, nameIndex := 79, descriptorIndex := 80, attributes := #[] }, { accessFlags := 1025, nameIndex := 75, descriptorIndex := 76, attributes := #[] }] 1537 103 #[120] #[])
  fields := #[]
  methods := #[k11m0, k11m1]
  instanceTypes := #[]
  staticTypes := #[]
  resolved := Array.replicate 251 none
  statics := none }

def pool12 : Array CpInfo := pool [(1, .methodref 2 3), (0, .class_ 4), (0, .nameAndType 5 6), (0, u "java/util/AbstractCollection"), (0, u "<init>"), (0, u "()V"), (0, .fieldref 8 9), (0, .class_ 10), (0, .nameAndType 11 12), (0, u "java/util/AbstractList"), (0, u "modCount"), (0, u "I"), (64, .class_ 78), (0, u "java/util/AbstractList$Itr"), (3, .class_ 83), (0, u "java/util/AbstractList$ListItr"), (9, .class_ 94), (0, u "java/util/AbstractList$RandomAccessSubList"), (3, .class_ 99), (0, u "java/util/AbstractList$SubList"), (33, .class_ 134), (0, u "java/util/List"), (73, .class_ 209), (0, u "java/util/AbstractList$SubList$1"), (0, .class_ 211), (0, u "java/util/AbstractList$RandomAccessSpliterator")] 6

def k12c0 : Code := { maxStack := 2, maxLocals := 1, code := jdk_39_method_1_code, exceptionTable := #[], attributes := #[] }
def k12m0 : Method := { name := "<init>", desc := "()V", sig := { parameters := [], returnType := none }, accessFlags := 4, code := some k12c0 }
/-- java/util/AbstractList -/
def k12 : Class := { plain "java/util/AbstractList" (some 9) with
  accessFlags := 1057
  interfaces := #[11]
  cf := some (fileOf pool12 8 #[.nestMembers #[93, 98, 208, 210, 82, 77]] #[{ accessFlags := 4, nameIndex := 5, descriptorIndex := 6, attributes := #[] }] 1057 2 #[133] #[{ accessFlags := 132, nameIndex := 11, descriptorIndex := 12, attributes := #[] }])
  fields := #[{ name := "modCount", type := .int, accessFlags := 132, slot := 0, constantValue := 0 }]
  methods := #[k12m0]
  instanceTypes := #[.int]
  staticTypes := #[]
  resolved := Array.replicate 218 none
  statics := none }

def pool13 : Array CpInfo := pool [(1, .class_ 2), (0, u "java/util/RandomAccess"), (0, .class_ 4), (0, u "java/lang/Object")] 2

/-- java/util/RandomAccess -/
def k13 : Class := { plain "java/util/RandomAccess" (some 0) with
  accessFlags := 1537
  interfaces := #[]
  cf := some (fileOf pool13 1 #[] #[] 1537 3 #[] #[])
  fields := #[]
  methods := #[]
  instanceTypes := #[]
  staticTypes := #[]
  resolved := Array.replicate 7 none
  statics := none }

def pool14 : Array CpInfo := pool [(1, .class_ 2), (0, u "java/lang/Cloneable"), (0, .class_ 4), (0, u "java/lang/Object")] 2

/-- java/lang/Cloneable -/
def k14 : Class := { plain "java/lang/Cloneable" (some 0) with
  accessFlags := 1537
  interfaces := #[]
  cf := some (fileOf pool14 1 #[] #[] 1537 3 #[] #[])
  fields := #[]
  methods := #[]
  instanceTypes := #[]
  staticTypes := #[]
  resolved := Array.replicate 7 none
  statics := none }

def pool15 : Array CpInfo := pool [(1, .methodref 2 3), (0, .class_ 4), (0, .nameAndType 5 6), (0, u "java/util/AbstractList"), (0, u "<init>"), (0, u "()V"), (0, .class_ 8), (0, u "java/lang/Object"), (0, .fieldref 10 11), (0, .class_ 12), (0, .nameAndType 13 14), (0, u "java/util/ArrayList"), (0, u "elementData"), (0, u "[Ljava/lang/Object;"), (2, u "EMPTY_ELEMENTDATA"), (21, .fieldref 10 40), (0, .nameAndType 41 14), (0, u "DEFAULTCAPACITY_EMPTY_ELEMENTDATA"), (5, u "()[Ljava/lang/Object;"), (0, .fieldref 10 49), (0, .nameAndType 50 51), (0, u "size"), (0, u "I"), (11, .fieldref 10 64), (0, .nameAndType 65 51), (0, u "modCount"), (3, .methodref 10 70), (0, .nameAndType 71 72), (0, u "grow"), (0, u "(I)[Ljava/lang/Object;"), (6, .methodref 80 81), (0, .class_ 82), (0, .nameAndType 83 84), (0, u "java/lang/Math"), (0, u "max"), (0, u "(II)I"), (11, u "(Ljava/lang/Object;)Z"), (21, .methodref 119 120), (0, .class_ 121), (0, .nameAndType 122 84), (0, u "java/util/Objects"), (0, u "checkIndex"), (0, .methodref 10 124), (0, .nameAndType 13 125), (0, u "(I)Ljava/lang/Object;"), (3, .methodref 10 130), (0, .nameAndType 71 47), (0, .methodref 10 132), (0, .nameAndType 133 134), (0, u "add"), (0, u "(Ljava/lang/Object;[Ljava/lang/Object;I)V"), (13, .class_ 149), (0, u "java/util/List"), (36, u "()I"), (75, .class_ 263), (0, u "java/util/ArrayList$ListItr"), (3, .class_ 268), (0, u "java/util/ArrayList$Itr"), (7, .class_ 277), (0, u "java/util/ArrayList$SubList"), (12, .class_ 291), (0, u "java/util/ArrayList$ArrayListSpliterator"), (37, .class_ 330), (0, u "java/util/RandomAccess"), (0, .class_ 332), (0, u "java/lang/Cloneable"), (0, .class_ 334), (0, u "java/io/Serializable"), (0, u "serialVersionUID"), (0, u "J"), (3, u "DEFAULT_CAPACITY"), (40, u "get"), (118, .class_ 501), (0, u "java/util/ArrayList$SubList$2"), (0, .class_ 503), (0, u "java/util/ArrayList$SubList$1")] 5

def k15c0 : Code := { maxStack := 2, maxLocals := 1, code := jdk_38_method_2_code, exceptionTable := #[], attributes := #[] }
def k15m0 : Method := { name := "<init>", desc := "()V", sig := { parameters := [], returnType := none }, accessFlags := 1, code := some k15c0 }
def k15c1 : Code := { maxStack := 4, maxLocals := 4, code := jdk_38_method_6_code, exceptionTable := #[], attributes := #[] }
def k15m1 : Method := { name := "grow", desc := "(I)[Ljava/lang/Object;", sig := { parameters := [.int], returnType := some (.array (.object "java/lang/Object")) }, accessFlags := 2, code := some k15c1 }
def k15c2 : Code := { maxStack := 3, maxLocals := 1, code := jdk_38_method_7_code, exceptionTable := #[], attributes := #[] }
def k15m2 : Method := { name := "grow", desc := "()[Ljava/lang/Object;", sig := { parameters := [], returnType := some (.array (.object "java/lang/Object")) }, accessFlags := 2, code := some k15c2 }
def k15c3 : Code := { maxStack := 1, maxLocals := 1, code := jdk_38_method_8_code, exceptionTable := #[], attributes := #[] }
def k15m3 : Method := { name := "size", desc := "()I", sig := { parameters := [], returnType := some .int }, accessFlags := 1, code := some k15c3 }
def k15c4 : Code := { maxStack := 2, maxLocals := 2, code := jdk_38_method_18_code, exceptionTable := #[], attributes := #[] }
def k15m4 : Method := { name := "elementData", desc := "(I)Ljava/lang/Object;", sig := { parameters := [.int], returnType := some (.object "java/lang/Object") }, accessFlags := 0, code := some k15c4 }
def k15c5 : Code := { maxStack := 2, maxLocals := 2, code := jdk_38_method_20_code, exceptionTable := #[], attributes := #[] }
def k15m5 : Method := { name := "get", desc := "(I)Ljava/lang/Object;", sig := { parameters := [.int], returnType := some (.object "java/lang/Object") }, accessFlags := 1, code := some k15c5 }
def k15c6 : Code := { maxStack := 3, maxLocals := 4, code := jdk_38_method_24_code, exceptionTable := #[], attributes := #[] }
def k15m6 : Method := { name := "add", desc := "(Ljava/lang/Object;[Ljava/lang/Object;I)V", sig := { parameters := [(.object "java/lang/Object"), (.array (.object "java/lang/Object")), .int], returnType := none }, accessFlags := 2, code := some k15c6 }
def k15c7 : Code := { maxStack := 4, maxLocals := 2, code := jdk_38_method_25_code, exceptionTable := #[], attributes := #[] }
def k15m7 : Method := { name := "add", desc := "(Ljava/lang/Object;)Z", sig := { parameters := [(.object "java/lang/Object")], returnType := some .boolean }, accessFlags := 1, code := some k15c7 }
/-- java/util/ArrayList -/
def k15 : Class := { plain "java/util/ArrayList" (some 12) with
  accessFlags := 33
  interfaces := #[11, 13, 14, 4]
  cf := some (fileOf pool15 10 #[.nestMembers #[290, 276, 500, 502, 262, 267]] #[{ accessFlags := 1, nameIndex := 5, descriptorIndex := 6, attributes := #[] }, { accessFlags := 2, nameIndex := 71, descriptorIndex := 72, attributes := #[] }, { accessFlags := 2, nameIndex := 71, descriptorIndex := 47, attributes := #[] }, { accessFlags := 1, nameIndex := 50, descriptorIndex := 186, attributes := #[] }, { accessFlags := 0, nameIndex := 13, descriptorIndex := 125, attributes := #[] }, { accessFlags := 1, nameIndex := 381, descriptorIndex := 125, attributes := #[] }, { accessFlags := 2, nameIndex := 133, descriptorIndex := 134, attributes := #[] }, { accessFlags := 1, nameIndex := 133, descriptorIndex := 96, attributes := #[] }] 33 2 #[148, 329, 331, 333] #[{ accessFlags := 26, nameIndex := 335, descriptorIndex := 336, attributes := #[] }, { accessFlags := 26, nameIndex := 340, descriptorIndex := 51, attributes := #[] }, { accessFlags := 26, nameIndex := 17, descriptorIndex := 14, attributes := #[] }, { accessFlags := 26, nameIndex := 41, descriptorIndex := 14, attributes := #[] }, { accessFlags := 128, nameIndex := 13, descriptorIndex := 14, attributes := #[] }, { accessFlags := 2, nameIndex := 50, descriptorIndex := 51, attributes := #[] }])
  fields := #[{ name := "serialVersionUID", type := .long, accessFlags := 26, slot := 0, constantValue := 0 }, { name := "DEFAULT_CAPACITY", type := .int, accessFlags := 26, slot := 1, constantValue := 0 }, { name := "EMPTY_ELEMENTDATA", type := (.array (.object "java/lang/Object")), accessFlags := 26, slot := 2, constantValue := 0 }, { name := "DEFAULTCAPACITY_EMPTY_ELEMENTDATA", type := (.array (.object "java/lang/Object")), accessFlags := 26, slot := 3, constantValue := 0 }, { name := "elementData", type := (.array (.object "java/lang/Object")), accessFlags := 128, slot := 1, constantValue := 0 }, { name := "size", type := .int, accessFlags := 2, slot := 2, constantValue := 0 }]
  methods := #[k15m0, k15m1, k15m2, k15m3, k15m4, k15m5, k15m6, k15m7]
  instanceTypes := #[.int, (.array (.object "java/lang/Object")), .int]
  staticTypes := #[.long, .int, (.array (.object "java/lang/Object")), (.array (.object "java/lang/Object"))]
  resolved := Array.replicate 509 none
  statics := some 1 }

def pool16 : Array CpInfo := pool [(1, .class_ 2), (0, u "java/lang/Math"), (1, .class_ 6), (1, u "java/lang/Object"), (0, u "<init>"), (0, u "()V"), (89, .class_ 100), (1, u "java/lang/Math$RandomNumberGeneratorHolder"), (71, u "negativeZeroFloatBits"), (0, u "J"), (2, u "negativeZeroDoubleBits"), (21, u "max"), (46, u "$assertionsDisabled"), (0, u "Z"), (88, u "(II)I"), (2, u "twoToTheDoubleScaleDown"), (0, u "D"), (4, u "twoToTheDoubleScaleUp"), (9, u "E"), (3, u "PI"), (2, u "TAU"), (2, u "DEGREES_TO_RADIANS"), (0, u "RADIANS_TO_DEGREES")] 94

def k16m0 : Method := { name := "<init>", desc := "()V", sig := { parameters := [], returnType := none }, accessFlags := 2, code := none }
def k16c1 : Code := { maxStack := 2, maxLocals := 2, code := jdk_29_method_65_code, exceptionTable := #[], attributes := #[] }
def k16m1 : Method := { name := "max", desc := "(II)I", sig := { parameters := [.int, .int], returnType := some .int }, accessFlags := 9, code := some k16c1 }
/-- java/lang/Math -/
def k16 : Class := { plain "java/lang/Math" (some 0) with
  accessFlags := 49
  interfaces := #[]
  cf := some (fileOf pool16 1 #[.nestMembers #[98]] #[{ accessFlags := 2, nameIndex := 7, descriptorIndex := 8, attributes := #[] }, { accessFlags := 9, nameIndex := 198, descriptorIndex := 335, attributes := #[] }] 49 4 #[] #[{ accessFlags := 25, nameIndex := 354, descriptorIndex := 339, attributes := #[] }, { accessFlags := 25, nameIndex := 358, descriptorIndex := 339, attributes := #[] }, { accessFlags := 25, nameIndex := 361, descriptorIndex := 339, attributes := #[] }, { accessFlags := 26, nameIndex := 364, descriptorIndex := 339, attributes := #[] }, { accessFlags := 26, nameIndex := 365, descriptorIndex := 339, attributes := #[] }, { accessFlags := 26, nameIndex := 172, descriptorIndex := 173, attributes := #[] }, { accessFlags := 26, nameIndex := 176, descriptorIndex := 173, attributes := #[] }, { accessFlags := 8, nameIndex := 344, descriptorIndex := 339, attributes := #[] }, { accessFlags := 8, nameIndex := 338, descriptorIndex := 339, attributes := #[] }, { accessFlags := 4120, nameIndex := 245, descriptorIndex := 246, attributes := #[] }])
  fields := #[{ name := "E", type := .double, accessFlags := 25, slot := 0, constantValue := 0 }, { name := "PI", type := .double, accessFlags := 25, slot := 1, constantValue := 0 }, { name := "TAU", type := .double, accessFlags := 25, slot := 2, constantValue := 0 }, { name := "DEGREES_TO_RADIANS", type := .double, accessFlags := 26, slot := 3, constantValue := 0 }, { name := "RADIANS_TO_DEGREES", type := .double, accessFlags := 26, slot := 4, constantValue := 0 }, { name := "negativeZeroFloatBits", type := .long, accessFlags := 26, slot := 5, constantValue := 0 }, { name := "negativeZeroDoubleBits", type := .long, accessFlags := 26, slot := 6, constantValue := 0 }, { name := "twoToTheDoubleScaleUp", type := .double, accessFlags := 8, slot := 7, constantValue := 0 }, { name := "twoToTheDoubleScaleDown", type := .double, accessFlags := 8, slot := 8, constantValue := 0 }, { name := "$assertionsDisabled", type := .boolean, accessFlags := 4120, slot := 9, constantValue := 0 }]
  methods := #[k16m0, k16m1]
  instanceTypes := #[]
  staticTypes := #[.double, .double, .double, .double, .double, .long, .long, .double, .double, .boolean]
  resolved := Array.replicate 460 none
  statics := none }

def pool17 : Array CpInfo := pool [(2, .class_ 4), (1, u "java/lang/CharSequence"), (42, .class_ 48), (0, u "java/lang/CharSequence$1CodePointIterator"), (10, .class_ 60), (0, u "java/lang/CharSequence$1CharIterator"), (5, .class_ 67), (0, u "java/lang/Object")] 63

/-- java/lang/CharSequence -/
def k17 : Class := { plain "java/lang/CharSequence" (some 0) with
  accessFlags := 1537
  interfaces := #[]
  cf := some (fileOf pool17 2 #[.nestMembers #[47, 59]] #[] 1537 66 #[] #[])
  fields := #[]
  methods := #[]
  instanceTypes := #[]
  staticTypes := #[]
  resolved := Array.replicate 131 none
  statics := none }

def pool18 : Array CpInfo := pool [(1, .class_ 2), (0, u "java/lang/constant/ConstantDesc"), (0, .class_ 4), (0, u "java/lang/Object")] 32

/-- java/lang/constant/ConstantDesc -/
def k18 : Class := { plain "java/lang/constant/ConstantDesc" (some 0) with
  accessFlags := 1537
  interfaces := #[]
  cf := some (fileOf pool18 1 #[] #[] 1537 3 #[] #[])
  fields := #[]
  methods := #[]
  instanceTypes := #[]
  staticTypes := #[]
  resolved := Array.replicate 37 none
  statics := none }

def pool19 : Array CpInfo := pool [(2, .class_ 4), (1, u "java/lang/Object"), (0, u "<init>"), (0, u "()V"), (2, .fieldref 10 11), (0, .class_ 12), (0, .nameAndType 13 14), (0, u "java/lang/String"), (0, u "value"), (0, u "[B"), (0, .fieldref 10 16), (0, .nameAndType 17 18), (0, u "coder"), (0, u "B"), (2, u "hash"), (0, u "I"), (2, u "hashIsZero"), (0, u "Z"), (11, .fieldref 10 39), (0, .nameAndType 40 26), (0, u "COMPACT_STRINGS"), (66, .class_ 109), (1, u "java/lang/StringLatin1"), (431, .methodref 107 542), (0, .nameAndType 543 544), (0, u "equals"), (0, u "([B[B)Z"), (28, u "(Ljava/lang/Object;)Z"), (1, .class_ 576), (0, u "java/lang/CharSequence"), (22, u "CASE_INSENSITIVE_ORDER"), (0, u "Ljava/util/Comparator;"), (500, u "serialPersistentFields"), (0, u "[Ljava/io/ObjectStreamField;"), (0, .class_ 1104), (0, u "java/lang/String$CaseInsensitiveComparator"), (1, .class_ 1107), (0, u "java/io/Serializable"), (0, .class_ 1109), (0, u "java/lang/Comparable"), (0, .class_ 1111), (0, u "java/lang/constant/Constable"), (0, .class_ 1113), (0, u "java/lang/constant/ConstantDesc"), (2, u "serialVersionUID"), (0, u "J"), (3, u "REPL"), (0, u "C"), (2, u "LATIN1"), (1, u "UTF16")] 323

def k19m0 : Method := { name := "<init>", desc := "()V", sig := { parameters := [], returnType := none }, accessFlags := 1, code := none }
def k19c1 : Code := { maxStack := 2, maxLocals := 3, code := jdk_42_method_66_code, exceptionTable := #[], attributes := #[] }
def k19m1 : Method := { name := "equals", desc := "(Ljava/lang/Object;)Z", sig := { parameters := [(.object "java/lang/Object")], returnType := some .boolean }, accessFlags := 1, code := some k19c1 }
/-- java/lang/String -/
def k19 : Class := { plain "java/lang/String" (some 0) with
  accessFlags := 49
  interfaces := #[4, 3, 17, 2, 18]
  cf := some (fileOf pool19 10 #[.nestMembers #[1103]] #[{ accessFlags := 1, nameIndex := 5, descriptorIndex := 6, attributes := #[] }, { accessFlags := 1, nameIndex := 543, descriptorIndex := 573, attributes := #[] }] 49 2 #[1106, 1108, 575, 1110, 1112] #[{ accessFlags := 18, nameIndex := 13, descriptorIndex := 14, attributes := #[] }, { accessFlags := 18, nameIndex := 17, descriptorIndex := 18, attributes := #[] }, { accessFlags := 2, nameIndex := 21, descriptorIndex := 22, attributes := #[] }, { accessFlags := 2, nameIndex := 25, descriptorIndex := 26, attributes := #[] }, { accessFlags := 26, nameIndex := 1116, descriptorIndex := 1117, attributes := #[] }, { accessFlags := 24, nameIndex := 40, descriptorIndex := 26, attributes := #[] }, { accessFlags := 26, nameIndex := 1101, descriptorIndex := 1102, attributes := #[] }, { accessFlags := 26, nameIndex := 1121, descriptorIndex := 1122, attributes := #[] }, { accessFlags := 25, nameIndex := 599, descriptorIndex := 600, attributes := #[] }, { accessFlags := 24, nameIndex := 1125, descriptorIndex := 18, attributes := #[] }, { accessFlags := 24, nameIndex := 1127, descriptorIndex := 18, attributes := #[] }])
  fields := #[{ name := "value", type := (.array .byte), accessFlags := 18, slot := 0, constantValue := 0 }, { name := "coder", type := .byte, accessFlags := 18, slot := 1, constantValue := 0 }, { name := "hash", type := .int, accessFlags := 2, slot := 2, constantValue := 0 }, { name := "hashIsZero", type := .boolean, accessFlags := 2, slot := 3, constantValue := 0 }, { name := "serialVersionUID", type := .long, accessFlags := 26, slot := 0, constantValue := 0 }, { name := "COMPACT_STRINGS", type := .boolean, accessFlags := 24, slot := 1, constantValue := 0 }, { name := "serialPersistentFields", type := (.array (.object "java/io/ObjectStreamField")), accessFlags := 26, slot := 2, constantValue := 0 }, { name := "REPL", type := .char, accessFlags := 26, slot := 3, constantValue := 0 }, { name := "CASE_INSENSITIVE_ORDER", type := (.object "java/util/Comparator"), accessFlags := 25, slot := 4, constantValue := 0 }, { name := "LATIN1", type := .byte, accessFlags := 24, slot := 5, constantValue := 0 }, { name := "UTF16", type := .byte, accessFlags := 24, slot := 6, constantValue := 0 }]
  methods := #[k19m0, k19m1]
  instanceTypes := #[(.array .byte), .byte, .int, .boolean]
  staticTypes := #[.long, .boolean, (.array (.object "java/io/ObjectStreamField")), .char, (.object "java/util/Comparator"), .byte, .byte]
  resolved := Array.replicate 1451 none
  statics := some 2 }

def pool20 : Array CpInfo := pool [(2, .class_ 4), (1, u "java/lang/Object"), (0, u "<init>"), (0, u "()V"), (35, .class_ 44), (1, u "java/util/Objects"), (60, .methodref 106 107), (0, .class_ 108), (0, .nameAndType 109 110), (0, u "jdk/internal/util/Preconditions"), (0, u "checkIndex"), (0, u "(IILjava/util/function/BiFunction;)I"), (60, u "(II)I")] 12

def k20m0 : Method := { name := "<init>", desc := "()V", sig := { parameters := [], returnType := none }, accessFlags := 2, code := none }
def k20c1 : Code := { maxStack := 3, maxLocals := 2, code := jdk_31_method_17_code, exceptionTable := #[], attributes := #[] }
def k20m1 : Method := { name := "checkIndex", desc := "(II)I", sig := { parameters := [.int, .int], returnType := some .int }, accessFlags := 9, code := some k20c1 }
/-- java/util/Objects -/
def k20 : Class := { plain "java/util/Objects" (some 0) with
  accessFlags := 49
  interfaces := #[]
  cf := some (fileOf pool20 42 #[] #[{ accessFlags := 2, nameIndex := 5, descriptorIndex := 6, attributes := #[] }, { accessFlags := 9, nameIndex := 109, descriptorIndex := 171, attributes := #[] }] 49 2 #[] #[])
  fields := #[]
  methods := #[k20m0, k20m1]
  instanceTypes := #[]
  staticTypes := #[]
  resolved := Array.replicate 184 none
  statics := none }

def pool21 : Array CpInfo := pool [(2, .class_ 4), (1, u "java/lang/Object"), (0, u "<init>"), (0, u "()V"), (17, .class_ 26), (1, u "jdk/internal/util/Preconditions"), (6, u "checkIndex"), (21, .class_ 56), (0, u "jdk/internal/util/Preconditions$4"), (57, .class_ 115), (0, u "jdk/internal/util/Preconditions$1"), (7, u "SIOOBE_FORMATTER"), (0, u "Ljava/util/function/BiFunction;"), (0, .class_ 126), (0, u "jdk/internal/util/Preconditions$2"), (3, u "AIOOBE_FORMATTER"), (0, .class_ 132), (0, u "jdk/internal/util/Preconditions$3"), (3, u "IOOBE_FORMATTER"), (41, u "(IILjava/util/function/BiFunction;)I")] 15

def k21m0 : Method := { name := "<init>", desc := "()V", sig := { parameters := [], returnType := none }, accessFlags := 1, code := none }
def k21c1 : Code := { maxStack := 3, maxLocals := 3, code := jdk_41_method_11_code, exceptionTable := #[], attributes := #[] }
def k21m1 : Method := { name := "checkIndex", desc := "(IILjava/util/function/BiFunction;)I", sig := { parameters := [.int, .int, (.object "java/util/function/BiFunction")], returnType := some .int }, accessFlags := 9, code := some k21c1 }
/-- jdk/internal/util/Preconditions -/
def k21 : Class := { plain "jdk/internal/util/Preconditions" (some 0) with
  accessFlags := 33
  interfaces := #[]
  cf := some (fileOf pool21 24 #[.nestMembers #[55, 131, 125, 114]] #[{ accessFlags := 1, nameIndex := 5, descriptorIndex := 6, attributes := #[] }, { accessFlags := 9, nameIndex := 33, descriptorIndex := 178, attributes := #[] }] 33 2 #[] #[{ accessFlags := 25, nameIndex := 123, descriptorIndex := 124, attributes := #[] }, { accessFlags := 25, nameIndex := 130, descriptorIndex := 124, attributes := #[] }, { accessFlags := 25, nameIndex := 136, descriptorIndex := 124, attributes := #[] }])
  fields := #[{ name := "SIOOBE_FORMATTER", type := (.object "java/util/function/BiFunction"), accessFlags := 25, slot := 0, constantValue := 0 }, { name := "AIOOBE_FORMATTER", type := (.object "java/util/function/BiFunction"), accessFlags := 25, slot := 1, constantValue := 0 }, { name := "IOOBE_FORMATTER", type := (.object "java/util/function/BiFunction"), accessFlags := 25, slot := 2, constantValue := 0 }]
  methods := #[k21m0, k21m1]
  instanceTypes := #[]
  staticTypes := #[(.object "java/util/function/BiFunction"), (.object "java/util/function/BiFunction"), (.object "java/util/function/BiFunction")]
  resolved := Array.replicate 194 none
  statics := some 3 }

def pool22 : Array CpInfo := pool [(4, .class_ 6), (1, u "java/lang/Object"), (0, u "<init>"), (0, u "()V"), (5, .class_ 16), (1, u "java/lang/StringLatin1"), (104, u "$assertionsDisabled"), (0, u "Z"), (98, .class_ 223), (1, u "java/lang/StringLatin1$LinesSpliterator"), (57, u "equals"), (0, u "([B[B)Z"), (107, .class_ 391), (0, u "java/lang/StringLatin1$CharsSpliterator")] 3

def k22m0 : Method := { name := "<init>", desc := "()V", sig := { parameters := [], returnType := none }, accessFlags := 0, code := none }
def k22c1 : Code := { maxStack := 3, maxLocals := 3, code := jdk_43_method_13_code, exceptionTable := #[], attributes := #[] }
def k22m1 : Method := { name := "equals", desc := "([B[B)Z", sig := { parameters := [(.array .byte), (.array .byte)], returnType := some .boolean }, accessFlags := 9, code := some k22c1 }
/-- java/lang/StringLatin1 -/
def k22 : Class := { plain "java/lang/StringLatin1" (some 0) with
  accessFlags := 48
  interfaces := #[]
  cf := some (fileOf pool22 14 #[.nestMembers #[390, 221]] #[{ accessFlags := 0, nameIndex := 7, descriptorIndex := 8, attributes := #[] }, { accessFlags := 9, nameIndex := 281, descriptorIndex := 282, attributes := #[] }] 48 4 #[] #[{ accessFlags := 4120, nameIndex := 121, descriptorIndex := 122, attributes := #[] }])
  fields := #[{ name := "$assertionsDisabled", type := .boolean, accessFlags := 4120, slot := 0, constantValue := 0 }]
  methods := #[k22m0, k22m1]
  instanceTypes := #[]
  staticTypes := #[.boolean]
  resolved := Array.replicate 395 none
  statics := none }

def pool23 : Array CpInfo := pool [(9, u "<init>"), (6, .class_ 18), (1, u "java/lang/Object"), (0, u "()V"), (1, .class_ 23), (1, u "jdk/internal/util/ArraysSupport"), (0, u "LOG2_ARRAY_LONG_INDEX_SCALE"), (0, u "I"), (2, u "U"), (0, u "Ljdk/internal/misc/Unsafe;"), (8, u "BIG_ENDIAN"), (0, u "Z"), (8, u "LOG2_BYTE_BIT_SIZE"), (4, u "LOG2_ARRAY_INT_INDEX_SCALE"), (54, u "JLA"), (0, u "Ljdk/internal/access/JavaLangAccess;"), (11, u "LOG2_ARRAY_BOOLEAN_INDEX_SCALE"), (9, u "LOG2_ARRAY_BYTE_INDEX_SCALE"), (5, u "LOG2_ARRAY_CHAR_INDEX_SCALE"), (5, u "LOG2_ARRAY_SHORT_INDEX_SCALE"), (18, u "LOG2_ARRAY_FLOAT_INDEX_SCALE"), (24, u "LOG2_ARRAY_DOUBLE_INDEX_SCALE"), (89, u "T_BOOLEAN"), (2, u "T_CHAR"), (1, u "T_FLOAT"), (1, u "T_DOUBLE"), (1, u "T_BYTE"), (1, u "T_SHORT"), (1, u "T_INT"), (1, u "T_LONG"), (1, u "SOFT_MAX_ARRAY_LENGTH")] 83

def k23m0 : Method := { name := "<init>", desc := "()V", sig := { parameters := [], returnType := none }, accessFlags := 2, code := none }
/-- jdk/internal/util/ArraysSupport -/
def k23 : Class := { plain "jdk/internal/util/ArraysSupport" (some 0) with
  accessFlags := 33
  interfaces := #[]
  cf := some (fileOf pool23 21 #[] #[{ accessFlags := 2, nameIndex := 9, descriptorIndex := 19, attributes := #[] }] 33 16 #[] #[{ accessFlags := 24, nameIndex := 28, descriptorIndex := 29, attributes := #[] }, { accessFlags := 26, nameIndex := 38, descriptorIndex := 39, attributes := #[] }, { accessFlags := 25, nameIndex := 121, descriptorIndex := 25, attributes := #[] }, { accessFlags := 25, nameIndex := 131, descriptorIndex := 25, attributes := #[] }, { accessFlags := 25, nameIndex := 137, descriptorIndex := 25, attributes := #[] }, { accessFlags := 25, nameIndex := 143, descriptorIndex := 25, attributes := #[] }, { accessFlags := 25, nameIndex := 53, descriptorIndex := 25, attributes := #[] }, { accessFlags := 25, nameIndex := 24, descriptorIndex := 25, attributes := #[] }, { accessFlags := 25, nameIndex := 162, descriptorIndex := 25, attributes := #[] }, { accessFlags := 25, nameIndex := 187, descriptorIndex := 25, attributes := #[] }, { accessFlags := 26, nameIndex := 48, descriptorIndex := 25, attributes := #[] }, { accessFlags := 25, nameIndex := 277, descriptorIndex := 25, attributes := #[] }, { accessFlags := 25, nameIndex := 280, descriptorIndex := 25, attributes := #[] }, { accessFlags := 25, nameIndex := 282, descriptorIndex := 25, attributes := #[] }, { accessFlags := 25, nameIndex := 284, descriptorIndex := 25, attributes := #[] }, { accessFlags := 25, nameIndex := 286, descriptorIndex := 25, attributes := #[] }, { accessFlags := 25, nameIndex := 288, descriptorIndex := 25, attributes := #[] }, { accessFlags := 25, nameIndex := 290, descriptorIndex := 25, attributes := #[] }, { accessFlags := 25, nameIndex := 292, descriptorIndex := 25, attributes := #[] }, { accessFlags := 26, nameIndex := 108, descriptorIndex := 109, attributes := #[] }, { accessFlags := 25, nameIndex := 294, descriptorIndex := 25, attributes := #[] }])
  fields := #[{ name := "U", type := (.object "jdk/internal/misc/Unsafe"), accessFlags := 24, slot := 0, constantValue := 0 }, { name := "BIG_ENDIAN", type := .boolean, accessFlags := 26, slot := 1, constantValue := 0 }, { name := "LOG2_ARRAY_BOOLEAN_INDEX_SCALE", type := .int, accessFlags := 25, slot := 2, constantValue := 0 }, { name := "LOG2_ARRAY_BYTE_INDEX_SCALE", type := .int, accessFlags := 25, slot := 3, constantValue := 0 }, { name := "LOG2_ARRAY_CHAR_INDEX_SCALE", type := .int, accessFlags := 25, slot := 4, constantValue := 0 }, { name := "LOG2_ARRAY_SHORT_INDEX_SCALE", type := .int, accessFlags := 25, slot := 5, constantValue := 0 }, { name := "LOG2_ARRAY_INT_INDEX_SCALE", type := .int, accessFlags := 25, slot := 6, constantValue := 0 }, { name := "LOG2_ARRAY_LONG_INDEX_SCALE", type := .int, accessFlags := 25, slot := 7, constantValue := 0 }, { name := "LOG2_ARRAY_FLOAT_INDEX_SCALE", type := .int, accessFlags := 25, slot := 8, constantValue := 0 }, { name := "LOG2_ARRAY_DOUBLE_INDEX_SCALE", type := .int, accessFlags := 25, slot := 9, constantValue := 0 }, { name := "LOG2_BYTE_BIT_SIZE", type := .int, accessFlags := 26, slot := 10, constantValue := 0 }, { name := "T_BOOLEAN", type := .int, accessFlags := 25, slot := 11, constantValue := 0 }, { name := "T_CHAR", type := .int, accessFlags := 25, slot := 12, constantValue := 0 }, { name := "T_FLOAT", type := .int, accessFlags := 25, slot := 13, constantValue := 0 }, { name := "T_DOUBLE", type := .int, accessFlags := 25, slot := 14, constantValue := 0 }, { name := "T_BYTE", type := .int, accessFlags := 25, slot := 15, constantValue := 0 }, { name := "T_SHORT", type := .int, accessFlags := 25, slot := 16, constantValue := 0 }, { name := "T_INT", type := .int, accessFlags := 25, slot := 17, constantValue := 0 }, { name := "T_LONG", type := .int, accessFlags := 25, slot := 18, constantValue := 0 }, { name := "JLA", type := (.object "jdk/internal/access/JavaLangAccess"), accessFlags := 26, slot := 19, constantValue := 0 }, { name := "SOFT_MAX_ARRAY_LENGTH", type := .int, accessFlags := 25, slot := 20, constantValue := 0 }]
  methods := #[k23m0]
  instanceTypes := #[]
  staticTypes := #[(.object "jdk/internal/misc/Unsafe"), .boolean, .int, .int, .int, .int, .int, .int, .int, .int, .int, .int, .int, .int, .int, .int, .int, .int, .int, (.object "jdk/internal/access/JavaLangAccess"), .int]
  resolved := Array.replicate 378 none
  statics := none }

/-- the primitive byte -/
def k24 : Class := { plain "byte" none with kind := .primitive 'B', accessFlags := 0x411 }
/-- [B -/
def k25 : Class := { plain "[B" (some 0) with kind := .array 24 .byte, interfaces := #[14, 4], accessFlags := 1041 }

/-- the primitive int -/
def k26 : Class := { plain "int" none with kind := .primitive 'I', accessFlags := 0x411 }
/-- [I -/
def k27 : Class := { plain "[I" (some 0) with kind := .array 26 .int, interfaces := #[14, 4], accessFlags := 1041 }

/-- [Lcom/example/halfpower/halfpower/certificate/Language; -/
def k28 : Class := { plain "[Lcom/example/halfpower/halfpower/certificate/Language;" (some 0) with kind := .array 6 (.object "com/example/halfpower/halfpower/certificate/Language"), interfaces := #[14, 4], accessFlags := 1041 }

/-- [Ljava/lang/Object; -/
def k29 : Class := { plain "[Ljava/lang/Object;" (some 0) with kind := .array 0 (.object "java/lang/Object"), interfaces := #[14, 4], accessFlags := 1041 }

def heap : Heap := #[{ cls := 6, slots := #[.ref 9, .ref 10, .ref 4], vm := .statics 6 },
  { cls := 15, slots := #[.long 0, .int 0, .ref 11, .ref 12], vm := .statics 15 },
  { cls := 19, slots := #[.long 0, .int 1, .null, .int 0, .null, .int 0, .int 0], vm := .statics 19 },
  { cls := 21, slots := #[.null, .null, .null], vm := .statics 21 },
  { cls := 28, slots := #[.ref 9, .ref 10], vm := .none },
  { cls := 25, slots := #[.int 101, .int 110], vm := .none },
  { cls := 25, slots := #[.int 122, .int 104], vm := .none },
  { cls := 19, slots := #[.ref 5, .int 0, .int 0, .int 0], vm := .none },
  { cls := 19, slots := #[.ref 6, .int 0, .int 0, .int 0], vm := .none },
  { cls := 6, slots := #[.null, .int 0, .int 0, .ref 7, .null], vm := .none },
  { cls := 6, slots := #[.null, .int 1, .int 0, .ref 8, .null], vm := .none },
  { cls := 29, slots := #[], vm := .none },
  { cls := 29, slots := #[], vm := .none }]
def classes : Array Class := #[k0, k1, k2, k3, k4, k5, k6, k7, k8, k9, k10, k11, k12, k13, k14, k15, k16, k17, k18, k19, k20, k21, k22, k23, k24, k25, k26, k27, k28, k29]
def interned : List (Array UInt16 × Addr) := []
def slotsUsed : Nat := 41
def theMethod : MethodId := ⟨1, 1⟩
def args0 : Array Value := #[.int 1]
def aboutOver (below : List Frame) : State where
  vm := { classes := classes, interned := interned.toArray }
  heap := heap
  slotsUsed := slotsUsed
  threads := #[{ frames := .invoking theMethod args0 :: below }]
def below0 : List Frame := [.native { method := ⟨0, 0⟩, args := #[] }]
def about1 : State := aboutOver below0
def p0 : Program := .bare "" "" ""
def e0 : Env := launch0.env 0 0 0
theorem w_frames : about1.frames = Frame.invoking theMethod args0 :: below0 := rfl
set_option maxRecDepth 65536 in
theorem w_args : argsFit about1.vm theMethod args0 = true := by decide +kernel
set_option maxRecDepth 65536 in
theorem w_heap : heapFits about1 = true := by decide +kernel
set_option maxRecDepth 65536 in
theorem w_runnable : about1.curStatus? = some .runnable := by decide +kernel
set_option maxRecDepth 65536 in
theorem w_alone : about1.alone = true := by decide +kernel
set_option maxRecDepth 65536 in
theorem w_named : about1.methodNamed? x = some theMethod := by decide +kernel
set_option maxRecDepth 65536 in
theorem w_hears : about1.hears theMethod below0 = true := by decide +kernel
set_option maxRecDepth 65536 in
theorem w_ripe : about1.ripe theMethod args0 below0 = true := by decide +kernel
theorem w_running : about1.status = .running := rfl
set_option maxRecDepth 65536 in
theorem w_room : about1.hasRoom e0.platform room_1 = true :=
  launch0.hasRoom_least _ room_1 (by decide +kernel) (by decide +kernel) (by decide +kernel) (by decide +kernel) (by decide +kernel) (by decide +kernel)
theorem allAtoms_all (ts : List Jvm.Cond) (a : Array Jvm.Value) (st : Jvm.State) : (allAtoms ts).before a st = ts.all (fun c => c.before a st) := by
  induction ts with
  | nil => rfl
  | cons c t ih =>
    show (Jvm.Cond.and c (allAtoms t)).before a st = _
    rw [Jvm.Cond.before_and, ih, List.all_cons]
def words1 : List Jvm.Cond := Jvm.Cond.code x code maxLocals ret :: tables_1
/-- a 'code' word, met by the world's own term for the bytes: nothing is compared byte by byte -/
theorem code_word {y : MethodName} {bytes : ByteArray} {mx : Nat} {rt : Option FieldType} {a : Array Value} {s : State} {m : MethodId} {meth : Method} {c : Code} (h1 : s.methodNamed? y = some m) (h2 : s.vm.method? m = some meth) (h3 : meth.code = some c) (h4 : c.code = bytes)
    (h5 : (c.maxLocals == mx && c.exceptionTable.isEmpty && decide (c.maxStack ≤ mostOperands) && decide (meth.sig.returnType = rt) && !meth.locks && decide (parseMethodDescriptor y.desc = some meth.sig)) = true) : (Jvm.Cond.code y bytes mx rt).before a s = true := by
  simp only [Bool.and_eq_true, beq_iff_eq, Bool.not_eq_true', decide_eq_true_eq] at h5
  obtain ⟨⟨⟨⟨⟨g1, g2⟩, g3⟩, g4⟩, g5⟩, g6⟩ := h5
  simp [Cond.before, Cond.holds, Cond.value, h1, h2, h3, h4, g1, g2, g3, g4, g5, g6]
def isCode : Jvm.Cond → Bool
  | .code _ _ _ _ => true
  | _ => false
theorem all_split {L : List Jvm.Cond} {P : Jvm.Cond → Bool} (h1 : L.all (fun c => isCode c || P c) = true) (h2 : ∀ c ∈ L.filter isCode, P c = true) : L.all P = true := by
  refine List.all_eq_true.mpr fun c hc => ?_
  have h := List.all_eq_true.mp h1 c hc
  rcases Bool.eq_false_or_eq_true (isCode c) with hi | hi
  · exact h2 c (List.mem_filter.mpr ⟨hc, hi⟩)
  · simpa [hi] using h
set_option maxRecDepth 65536 in
theorem w_c0 : (Jvm.Cond.code x code maxLocals ret).before args0 about1 = true := code_word (m := ⟨1, 1⟩) (meth := k1m1) (c := k1c1) (by decide +kernel) rfl rfl rfl (by decide +kernel)
set_option maxRecDepth 65536 in
theorem w_c1 : (Jvm.Cond.code ({ cls := "com/example/halfpower/halfpower/certificate/Language", name := "codes", desc := "()Ljava/util/List;" } : Jvm.MethodName) prog_5_method_7_code (5 : Nat) (Option.some (Jvm.ClassFile.FieldType.object "java/util/List"))).before args0 about1 = true := code_word (m := ⟨6, 2⟩) (meth := k6m2) (c := k6c2) (by decide +kernel) rfl rfl rfl (by decide +kernel)
set_option maxRecDepth 65536 in
theorem w_c2 : (Jvm.Cond.code ({ cls := "java/util/ArrayList", name := "<init>", desc := "()V" } : Jvm.MethodName) jdk_38_method_2_code (1 : Nat) (Option.none : Option Jvm.ClassFile.FieldType)).before args0 about1 = true := code_word (m := ⟨15, 0⟩) (meth := k15m0) (c := k15c0) (by decide +kernel) rfl rfl rfl (by decide +kernel)
set_option maxRecDepth 65536 in
theorem w_c3 : (Jvm.Cond.code ({ cls := "java/util/AbstractList", name := "<init>", desc := "()V" } : Jvm.MethodName) jdk_39_method_1_code (1 : Nat) (Option.none : Option Jvm.ClassFile.FieldType)).before args0 about1 = true := code_word (m := ⟨12, 0⟩) (meth := k12m0) (c := k12c0) (by decide +kernel) rfl rfl rfl (by decide +kernel)
set_option maxRecDepth 65536 in
theorem w_c4 : (Jvm.Cond.code ({ cls := "java/util/AbstractCollection", name := "<init>", desc := "()V" } : Jvm.MethodName) jdk_22_method_1_code (1 : Nat) (Option.none : Option Jvm.ClassFile.FieldType)).before args0 about1 = true := code_word (m := ⟨9, 0⟩) (meth := k9m0) (c := k9c0) (by decide +kernel) rfl rfl rfl (by decide +kernel)
set_option maxRecDepth 65536 in
theorem w_c5 : (Jvm.Cond.code ({ cls := "java/lang/Object", name := "<init>", desc := "()V" } : Jvm.MethodName) object_method_1_code (1 : Nat) (Option.none : Option Jvm.ClassFile.FieldType)).before args0 about1 = true := code_word (m := ⟨0, 0⟩) (meth := k0m0) (c := k0c0) (by decide +kernel) rfl rfl rfl (by decide +kernel)
set_option maxRecDepth 65536 in
theorem w_c6 : (Jvm.Cond.code ({ cls := "com/example/halfpower/halfpower/certificate/Language", name := "values", desc := "()[Lcom/example/halfpower/halfpower/certificate/Language;" } : Jvm.MethodName) prog_5_method_1_code (0 : Nat) (Option.some (Jvm.ClassFile.FieldType.array (Jvm.ClassFile.FieldType.object "com/example/halfpower/halfpower/certificate/Language")))).before args0 about1 = true := code_word (m := ⟨6, 0⟩) (meth := k6m0) (c := k6c0) (by decide +kernel) rfl rfl rfl (by decide +kernel)
set_option maxRecDepth 65536 in
theorem w_c7 : (Jvm.Cond.code ({ cls := "java/util/ArrayList", name := "add", desc := "(Ljava/lang/Object;)Z" } : Jvm.MethodName) jdk_38_method_25_code (2 : Nat) (Option.some Jvm.ClassFile.FieldType.boolean)).before args0 about1 = true := code_word (m := ⟨15, 7⟩) (meth := k15m7) (c := k15c7) (by decide +kernel) rfl rfl rfl (by decide +kernel)
set_option maxRecDepth 65536 in
theorem w_c8 : (Jvm.Cond.code ({ cls := "java/util/ArrayList", name := "add", desc := "(Ljava/lang/Object;[Ljava/lang/Object;I)V" } : Jvm.MethodName) jdk_38_method_24_code (4 : Nat) (Option.none : Option Jvm.ClassFile.FieldType)).before args0 about1 = true := code_word (m := ⟨15, 6⟩) (meth := k15m6) (c := k15c6) (by decide +kernel) rfl rfl rfl (by decide +kernel)
set_option maxRecDepth 65536 in
theorem w_c9 : (Jvm.Cond.code ({ cls := "java/util/ArrayList", name := "grow", desc := "()[Ljava/lang/Object;" } : Jvm.MethodName) jdk_38_method_7_code (1 : Nat) (Option.some (Jvm.ClassFile.FieldType.array (Jvm.ClassFile.FieldType.object "java/lang/Object")))).before args0 about1 = true := code_word (m := ⟨15, 2⟩) (meth := k15m2) (c := k15c2) (by decide +kernel) rfl rfl rfl (by decide +kernel)
set_option maxRecDepth 65536 in
theorem w_c10 : (Jvm.Cond.code ({ cls := "java/util/ArrayList", name := "grow", desc := "(I)[Ljava/lang/Object;" } : Jvm.MethodName) jdk_38_method_6_code (4 : Nat) (Option.some (Jvm.ClassFile.FieldType.array (Jvm.ClassFile.FieldType.object "java/lang/Object")))).before args0 about1 = true := code_word (m := ⟨15, 1⟩) (meth := k15m1) (c := k15c1) (by decide +kernel) rfl rfl rfl (by decide +kernel)
set_option maxRecDepth 65536 in
theorem w_c11 : (Jvm.Cond.code ({ cls := "java/lang/Math", name := "max", desc := "(II)I" } : Jvm.MethodName) jdk_29_method_65_code (2 : Nat) (Option.some Jvm.ClassFile.FieldType.int)).before args0 about1 = true := code_word (m := ⟨16, 1⟩) (meth := k16m1) (c := k16c1) (by decide +kernel) rfl rfl rfl (by decide +kernel)
set_option maxRecDepth 65536 in
theorem w_c12 : (Jvm.Cond.code ({ cls := "java/util/ArrayList", name := "size", desc := "()I" } : Jvm.MethodName) jdk_38_method_8_code (1 : Nat) (Option.some Jvm.ClassFile.FieldType.int)).before args0 about1 = true := code_word (m := ⟨15, 3⟩) (meth := k15m3) (c := k15c3) (by decide +kernel) rfl rfl rfl (by decide +kernel)
set_option maxRecDepth 65536 in
theorem w_c13 : (Jvm.Cond.code ({ cls := "java/util/ArrayList", name := "get", desc := "(I)Ljava/lang/Object;" } : Jvm.MethodName) jdk_38_method_20_code (2 : Nat) (Option.some (Jvm.ClassFile.FieldType.object "java/lang/Object"))).before args0 about1 = true := code_word (m := ⟨15, 5⟩) (meth := k15m5) (c := k15c5) (by decide +kernel) rfl rfl rfl (by decide +kernel)
set_option maxRecDepth 65536 in
theorem w_c14 : (Jvm.Cond.code ({ cls := "java/util/Objects", name := "checkIndex", desc := "(II)I" } : Jvm.MethodName) jdk_31_method_17_code (2 : Nat) (Option.some Jvm.ClassFile.FieldType.int)).before args0 about1 = true := code_word (m := ⟨20, 1⟩) (meth := k20m1) (c := k20c1) (by decide +kernel) rfl rfl rfl (by decide +kernel)
set_option maxRecDepth 65536 in
theorem w_c15 : (Jvm.Cond.code ({ cls := "jdk/internal/util/Preconditions", name := "checkIndex", desc := "(IILjava/util/function/BiFunction;)I" } : Jvm.MethodName) jdk_41_method_11_code (3 : Nat) (Option.some Jvm.ClassFile.FieldType.int)).before args0 about1 = true := code_word (m := ⟨21, 1⟩) (meth := k21m1) (c := k21c1) (by decide +kernel) rfl rfl rfl (by decide +kernel)
set_option maxRecDepth 65536 in
theorem w_c16 : (Jvm.Cond.code ({ cls := "java/util/ArrayList", name := "elementData", desc := "(I)Ljava/lang/Object;" } : Jvm.MethodName) jdk_38_method_18_code (2 : Nat) (Option.some (Jvm.ClassFile.FieldType.object "java/lang/Object"))).before args0 about1 = true := code_word (m := ⟨15, 4⟩) (meth := k15m4) (c := k15c4) (by decide +kernel) rfl rfl rfl (by decide +kernel)
set_option maxRecDepth 65536 in
theorem w_c17 : (Jvm.Cond.code ({ cls := "java/lang/String", name := "equals", desc := "(Ljava/lang/Object;)Z" } : Jvm.MethodName) jdk_42_method_66_code (3 : Nat) (Option.some Jvm.ClassFile.FieldType.boolean)).before args0 about1 = true := code_word (m := ⟨19, 1⟩) (meth := k19m1) (c := k19c1) (by decide +kernel) rfl rfl rfl (by decide +kernel)
set_option maxRecDepth 65536 in
theorem w_c18 : (Jvm.Cond.code ({ cls := "java/lang/StringLatin1", name := "equals", desc := "([B[B)Z" } : Jvm.MethodName) jdk_43_method_13_code (3 : Nat) (Option.some Jvm.ClassFile.FieldType.boolean)).before args0 about1 = true := code_word (m := ⟨22, 1⟩) (meth := k22m1) (c := k22c1) (by decide +kernel) rfl rfl rfl (by decide +kernel)
set_option maxRecDepth 65536 in
theorem w_c19 : (Jvm.Cond.code ({ cls := "com/example/halfpower/halfpower/certificate/Language", name := "code", desc := "()Ljava/lang/String;" } : Jvm.MethodName) prog_5_method_4_code (1 : Nat) (Option.some (Jvm.ClassFile.FieldType.object "java/lang/String"))).before args0 about1 = true := code_word (m := ⟨6, 1⟩) (meth := k6m1) (c := k6c1) (by decide +kernel) rfl rfl rfl (by decide +kernel)
def codes1 : List Jvm.Cond := [Jvm.Cond.code x code maxLocals ret, Jvm.Cond.code ({ cls := "com/example/halfpower/halfpower/certificate/Language", name := "codes", desc := "()Ljava/util/List;" } : Jvm.MethodName) prog_5_method_7_code (5 : Nat) (Option.some (Jvm.ClassFile.FieldType.object "java/util/List")), Jvm.Cond.code ({ cls := "java/util/ArrayList", name := "<init>", desc := "()V" } : Jvm.MethodName) jdk_38_method_2_code (1 : Nat) (Option.none : Option Jvm.ClassFile.FieldType), Jvm.Cond.code ({ cls := "java/util/AbstractList", name := "<init>", desc := "()V" } : Jvm.MethodName) jdk_39_method_1_code (1 : Nat) (Option.none : Option Jvm.ClassFile.FieldType), Jvm.Cond.code ({ cls := "java/util/AbstractCollection", name := "<init>", desc := "()V" } : Jvm.MethodName) jdk_22_method_1_code (1 : Nat) (Option.none : Option Jvm.ClassFile.FieldType), Jvm.Cond.code ({ cls := "java/lang/Object", name := "<init>", desc := "()V" } : Jvm.MethodName) object_method_1_code (1 : Nat) (Option.none : Option Jvm.ClassFile.FieldType), Jvm.Cond.code ({ cls := "com/example/halfpower/halfpower/certificate/Language", name := "values", desc := "()[Lcom/example/halfpower/halfpower/certificate/Language;" } : Jvm.MethodName) prog_5_method_1_code (0 : Nat) (Option.some (Jvm.ClassFile.FieldType.array (Jvm.ClassFile.FieldType.object "com/example/halfpower/halfpower/certificate/Language"))), Jvm.Cond.code ({ cls := "java/util/ArrayList", name := "add", desc := "(Ljava/lang/Object;)Z" } : Jvm.MethodName) jdk_38_method_25_code (2 : Nat) (Option.some Jvm.ClassFile.FieldType.boolean), Jvm.Cond.code ({ cls := "java/util/ArrayList", name := "add", desc := "(Ljava/lang/Object;[Ljava/lang/Object;I)V" } : Jvm.MethodName) jdk_38_method_24_code (4 : Nat) (Option.none : Option Jvm.ClassFile.FieldType), Jvm.Cond.code ({ cls := "java/util/ArrayList", name := "grow", desc := "()[Ljava/lang/Object;" } : Jvm.MethodName) jdk_38_method_7_code (1 : Nat) (Option.some (Jvm.ClassFile.FieldType.array (Jvm.ClassFile.FieldType.object "java/lang/Object"))), Jvm.Cond.code ({ cls := "java/util/ArrayList", name := "grow", desc := "(I)[Ljava/lang/Object;" } : Jvm.MethodName) jdk_38_method_6_code (4 : Nat) (Option.some (Jvm.ClassFile.FieldType.array (Jvm.ClassFile.FieldType.object "java/lang/Object"))), Jvm.Cond.code ({ cls := "java/lang/Math", name := "max", desc := "(II)I" } : Jvm.MethodName) jdk_29_method_65_code (2 : Nat) (Option.some Jvm.ClassFile.FieldType.int), Jvm.Cond.code ({ cls := "java/util/ArrayList", name := "size", desc := "()I" } : Jvm.MethodName) jdk_38_method_8_code (1 : Nat) (Option.some Jvm.ClassFile.FieldType.int), Jvm.Cond.code ({ cls := "java/util/ArrayList", name := "get", desc := "(I)Ljava/lang/Object;" } : Jvm.MethodName) jdk_38_method_20_code (2 : Nat) (Option.some (Jvm.ClassFile.FieldType.object "java/lang/Object")), Jvm.Cond.code ({ cls := "java/util/Objects", name := "checkIndex", desc := "(II)I" } : Jvm.MethodName) jdk_31_method_17_code (2 : Nat) (Option.some Jvm.ClassFile.FieldType.int), Jvm.Cond.code ({ cls := "jdk/internal/util/Preconditions", name := "checkIndex", desc := "(IILjava/util/function/BiFunction;)I" } : Jvm.MethodName) jdk_41_method_11_code (3 : Nat) (Option.some Jvm.ClassFile.FieldType.int), Jvm.Cond.code ({ cls := "java/util/ArrayList", name := "elementData", desc := "(I)Ljava/lang/Object;" } : Jvm.MethodName) jdk_38_method_18_code (2 : Nat) (Option.some (Jvm.ClassFile.FieldType.object "java/lang/Object")), Jvm.Cond.code ({ cls := "java/lang/String", name := "equals", desc := "(Ljava/lang/Object;)Z" } : Jvm.MethodName) jdk_42_method_66_code (3 : Nat) (Option.some Jvm.ClassFile.FieldType.boolean), Jvm.Cond.code ({ cls := "java/lang/StringLatin1", name := "equals", desc := "([B[B)Z" } : Jvm.MethodName) jdk_43_method_13_code (3 : Nat) (Option.some Jvm.ClassFile.FieldType.boolean), Jvm.Cond.code ({ cls := "com/example/halfpower/halfpower/certificate/Language", name := "code", desc := "()Ljava/lang/String;" } : Jvm.MethodName) prog_5_method_4_code (1 : Nat) (Option.some (Jvm.ClassFile.FieldType.object "java/lang/String"))]
set_option maxRecDepth 65536 in
theorem codes_eq : words1.filter isCode = codes1 := rfl
theorem w_codes : ∀ c ∈ words1.filter isCode, c.before args0 about1 = true := by
  rw [codes_eq]
  intro c hc
  simp only [codes1, List.mem_cons, List.not_mem_nil, or_false] at hc
  rcases hc with rfl | rfl | rfl | rfl | rfl | rfl | rfl | rfl | rfl | rfl | rfl | rfl | rfl | rfl | rfl | rfl | rfl | rfl | rfl | rfl
  · exact w_c0
  · exact w_c1
  · exact w_c2
  · exact w_c3
  · exact w_c4
  · exact w_c5
  · exact w_c6
  · exact w_c7
  · exact w_c8
  · exact w_c9
  · exact w_c10
  · exact w_c11
  · exact w_c12
  · exact w_c13
  · exact w_c14
  · exact w_c15
  · exact w_c16
  · exact w_c17
  · exact w_c18
  · exact w_c19
set_option maxRecDepth 65536 in
theorem w_t1 : (words1.take 24).all (fun c => isCode c || c.before args0 about1) = true := by decide +kernel
set_option maxRecDepth 65536 in
theorem w_t2 : ((words1.drop 24).take 24).all (fun c => isCode c || c.before args0 about1) = true := by decide +kernel
set_option maxRecDepth 65536 in
theorem w_t3 : (((words1.drop 24).drop 24).take 24).all (fun c => isCode c || c.before args0 about1) = true := by decide +kernel
set_option maxRecDepth 65536 in
theorem w_t4 : ((((words1.drop 24).drop 24).drop 24).take 24).all (fun c => isCode c || c.before args0 about1) = true := by decide +kernel
set_option maxRecDepth 65536 in
theorem w_t5 : (((((words1.drop 24).drop 24).drop 24).drop 24).take 24).all (fun c => isCode c || c.before args0 about1) = true := by decide +kernel
set_option maxRecDepth 65536 in
theorem w_t6 : (((((words1.drop 24).drop 24).drop 24).drop 24).drop 24).all (fun c => isCode c || c.before args0 about1) = true := by decide +kernel
theorem w_tables : (allAtoms (Jvm.Cond.code x code maxLocals ret :: tables_1)).before args0 about1 = true := by
  rw [allAtoms_all]
  show words1.all (fun c => c.before args0 about1) = true
  refine all_split ?_ w_codes
  rw [← List.take_append_drop 24 words1, List.all_append, w_t1, ← List.take_append_drop 24 (words1.drop 24), List.all_append, w_t2, ← List.take_append_drop 24 ((words1.drop 24).drop 24), List.all_append, w_t3, ← List.take_append_drop 24 (((words1.drop 24).drop 24).drop 24), List.all_append, w_t4, ← List.take_append_drop 24 ((((words1.drop 24).drop 24).drop 24).drop 24), List.all_append, w_t5, w_t6]
  rfl
set_option maxRecDepth 65536 in
theorem w_rest : rest_1_c.before args0 about1 = true := by decide +kernel
set_option maxRecDepth 65536 in
theorem w_case : (Jvm.Cond.and given_1 narrow_1).before args0 about1 = true := by decide +kernel
set_option maxRecDepth 65536 in
theorem w_consts : constsHeld consts_1 about1 := Jvm.Lit.constsHeldB_iff.mp (by decide +kernel)
theorem w_applies : (headSpec (Jvm.Cond.code x code maxLocals ret :: tables_1) room_1).applies x e0.platform about1 = true :=
  (Spec.applies_iff w_frames).mpr ⟨w_running, w_runnable, w_alone, w_named, w_hears, w_ripe, w_room, w_tables⟩
theorem atStart : AtStart classFile x code maxLocals ret World_1 tables_1 room_1 Calls_1 rest_1 Pre_1 launch0 p0 e0 about1 theMethod args0 below0 :=
  ⟨lists_1, trivial, launch0.admits_env _ _ _, launch0.least_env, fairChoices_fair.cas, fairChoices_fair.clock, w_frames, w_args, w_heap, w_applies, ⟨w_consts, trivial⟩, w_rest, w_case⟩
end start1
theorem witness_1 : WitnessClaimed_1 := ⟨start1.p0, start1.e0, start1.about1, start1.theMethod, start1.args0, start1.below0, start1.atStart⟩
end Jvm.Pilot.@@N@@
