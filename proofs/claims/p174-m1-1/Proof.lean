import JvmDerived
import JvmDerived.Pilot.@@N@@Statement
import JvmDerived.Pilot.@@N@@Code
set_option linter.unusedVariables false
set_option linter.unusedSimpArgs false
namespace Jvm.Pilot.@@N@@
open Jvm Jvm.ClassFile Sem Op Lib Jvm.Free Jvm.Stand Jvm.LawKit Jvm.RoadKit Bundle Jvm.Pilot.@@N@@.Jvm.D
section Own
variable {p : Program} {l : Launch} {e : Env} {R : Room} {s : State} {m : MethodId} {args : Array Value} {below : List Frame} {meth : Method} {c : Code} {Z : State} {a0 : Array Value} {EL : List (String × Nat)} {n0 : Nat} {y : MethodName} {bytes : ByteArray} {maxL : Nat} {ret : Option FieldType} {b : State} {T : State} {h : Heap} {locs : List Loc} {cells slots : Nat} {P : Outcome → State → Prop} {pc pc' : Nat} {Ls : Array Slot} {st : List Value}
def Goes (tb : Tables) (e : Env) (below : List Frame) (P : Outcome → State → Prop) (A : State) : Prop := ∃ s₂ o, Steps tb e below A s₂ ∧ s₂.status = .running ∧ Ended s₂ below o ∧ P o s₂
theorem go {tb : Tables} {A B : State} (q : ∀ t, Steps tb e below B t → Steps tb e below A t) (k : Goes tb e below P B) : Goes tb e below P A := by
  obtain ⟨t, o, h, r⟩ := k
  exact ⟨t, o, q t h, r⟩
def Sfe (Z : State) (EL : List (String × Nat)) (vm : Vm) (h : Heap) (x : Addr) : Prop := True
theorem sfe_new {vm : Vm} {x : Addr} (q : h.size ≤ x) : Sfe Z EL vm h x := trivial
def Bs (Z : State) (a0 : Array Value) (EL : List (String × Nat)) (s b : State) (h : Heap) : Prop := b = s
def Wk (p : Program) (l : Launch) (e : Env) (R : Room) (s : State) (m : MethodId) (args : Array Value) (below : List Frame) (meth : Method) (c : Code) (Z : State) (a0 : Array Value) (EL : List (String × Nat)) (n0 : Nat) (y : MethodName) (bytes : ByteArray) (maxL : Nat) (ret : Option FieldType) (b : State) (T : State) (h : Heap) (locs : List Loc) (cells slots : Nat) : Prop := Stand p l e R b m args below meth c T locs cells slots ∧ T.heap = h ∧ Fr n0 locs ∧ p.tables.exec = Jvm.exec ∧ Z.Warmed39 b.vm ∧ b.vm.findClass y.cls = some m.cls ∧ c.code = bytes ∧ c.maxLocals = maxL ∧ meth.sig.returnType = ret ∧ meth.locks = false ∧ meth.name = y.name ∧ Old Z n0 h ∧ Bs Z a0 EL s b h
theorem Wk.X (K : Wk p l e R s m args below meth c Z a0 EL n0 y bytes maxL ret b T h locs cells slots) : Stand p l e R b m args below meth c T locs cells slots := K.1
theorem Wk.eT (K : Wk p l e R s m args below meth c Z a0 EL n0 y bytes maxL ret b T h locs cells slots) : T.heap = h := K.2.1
theorem Wk.fr (K : Wk p l e R s m args below meth c Z a0 EL n0 y bytes maxL ret b T h locs cells slots) : Fr n0 locs := K.2.2.1
theorem Wk.hx (K : Wk p l e R s m args below meth c Z a0 EL n0 y bytes maxL ret b T h locs cells slots) : p.tables.exec = Jvm.exec := K.2.2.2.1
theorem Wk.hZ (K : Wk p l e R s m args below meth c Z a0 EL n0 y bytes maxL ret b T h locs cells slots) : Z.Warmed39 b.vm := K.2.2.2.2.1
theorem Wk.hown (K : Wk p l e R s m args below meth c Z a0 EL n0 y bytes maxL ret b T h locs cells slots) : b.vm.findClass y.cls = some m.cls := K.2.2.2.2.2.1
theorem Wk.hby (K : Wk p l e R s m args below meth c Z a0 EL n0 y bytes maxL ret b T h locs cells slots) : c.code = bytes := K.2.2.2.2.2.2.1
theorem Wk.hml (K : Wk p l e R s m args below meth c Z a0 EL n0 y bytes maxL ret b T h locs cells slots) : c.maxLocals = maxL := K.2.2.2.2.2.2.2.1
theorem Wk.hret (K : Wk p l e R s m args below meth c Z a0 EL n0 y bytes maxL ret b T h locs cells slots) : meth.sig.returnType = ret := K.2.2.2.2.2.2.2.2.1
theorem Wk.hlk (K : Wk p l e R s m args below meth c Z a0 EL n0 y bytes maxL ret b T h locs cells slots) : meth.locks = false := K.2.2.2.2.2.2.2.2.2.1
theorem Wk.hnm (K : Wk p l e R s m args below meth c Z a0 EL n0 y bytes maxL ret b T h locs cells slots) : meth.name = y.name := K.2.2.2.2.2.2.2.2.2.2.1
theorem Wk.old (K : Wk p l e R s m args below meth c Z a0 EL n0 y bytes maxL ret b T h locs cells slots) : Old Z n0 h := K.2.2.2.2.2.2.2.2.2.2.2.1
theorem Wk.bs (K : Wk p l e R s m args below meth c Z a0 EL n0 y bytes maxL ret b T h locs cells slots) : Bs Z a0 EL s b h := K.2.2.2.2.2.2.2.2.2.2.2.2
theorem Wk.at (K : Wk p l e R s m args below meth c Z a0 EL n0 y bytes maxL ret b T h locs cells slots) : At T m c below := K.X.here
theorem Wk.move (K : Wk p l e R s m args below meth c Z a0 EL n0 y bytes maxL ret b T h locs cells slots) {T' : State} {h' : Heap} {locs' : List Loc} {cells' slots' : Nat} (X : Stand p l e R b m args below meth c T' locs' cells' slots') (eT : T'.heap = h') (hF : Fr n0 locs') (hO : Old Z n0 h') (hB : Bs Z a0 EL s b h') : Wk p l e R s m args below meth c Z a0 EL n0 y bytes maxL ret b T' h' locs' cells' slots' := ⟨X, eT, hF, K.hx, K.hZ, K.hown, K.hby, K.hml, K.hret, K.hlk, K.hnm, hO, hB⟩
theorem k_iload (K : Wk p l e R s m args below meth c Z a0 EL n0 y bytes maxL ret b T h locs cells slots) {i : Int32} {k : Nat} (hd : decode bytes pc = .ok (.iload k, 2)) (hp : pc + 2 = pc') (hl : Ls[k]? = some (.val (.int i))) (k : Goes p.tables e below P (T.setTop (mkF m pc' Ls (.int i :: st)))) : Goes p.tables e below P (T.setTop (mkF m pc Ls st)) := by
  subst hp
  exact go (fun t q => XS.iload K.at K.hx rfl (hb K.hby hd) hl q) k
theorem k_iloadN (K : Wk p l e R s m args below meth c Z a0 EL n0 y bytes maxL ret b T h locs cells slots) {i : Int32} {k : Fin 4} (hd : decode bytes pc = .ok (.iload_n k, 1)) (hp : pc + 1 = pc') (hl : Ls[k.val]? = some (.val (.int i))) (k : Goes p.tables e below P (T.setTop (mkF m pc' Ls (.int i :: st)))) : Goes p.tables e below P (T.setTop (mkF m pc Ls st)) := by
  subst hp
  exact go (fun t q => XS.iloadN K.at K.hx rfl (hb K.hby hd) hl q) k
theorem k_lload (K : Wk p l e R s m args below meth c Z a0 EL n0 y bytes maxL ret b T h locs cells slots) {i : Int64} {k : Nat} (hd : decode bytes pc = .ok (.lload k, 2)) (hp : pc + 2 = pc') (hl : Ls[k]? = some (.val (.long i))) (k : Goes p.tables e below P (T.setTop (mkF m pc' Ls (.long i :: st)))) : Goes p.tables e below P (T.setTop (mkF m pc Ls st)) := by
  subst hp
  exact go (fun t q => XT.lload K.at K.hx rfl (hb K.hby hd) hl q) k
theorem k_lloadN (K : Wk p l e R s m args below meth c Z a0 EL n0 y bytes maxL ret b T h locs cells slots) {i : Int64} {k : Fin 4} (hd : decode bytes pc = .ok (.lload_n k, 1)) (hp : pc + 1 = pc') (hl : Ls[k.val]? = some (.val (.long i))) (k : Goes p.tables e below P (T.setTop (mkF m pc' Ls (.long i :: st)))) : Goes p.tables e below P (T.setTop (mkF m pc Ls st)) := by
  subst hp
  exact go (fun t q => XT.lloadN K.at K.hx rfl (hb K.hby hd) hl q) k
theorem k_aload (K : Wk p l e R s m args below meth c Z a0 EL n0 y bytes maxL ret b T h locs cells slots) {v : Value} {k : Nat} (hd : decode bytes pc = .ok (.aload k, 2)) (hp : pc + 2 = pc') (hl : Ls[k]? = some (.val v)) (hv : v.isRef = true) (k : Goes p.tables e below P (T.setTop (mkF m pc' Ls (v :: st)))) : Goes p.tables e below P (T.setTop (mkF m pc Ls st)) := by
  subst hp
  exact go (fun t q => XS.aload K.at K.hx rfl (hb K.hby hd) hl hv q) k
theorem k_aloadN (K : Wk p l e R s m args below meth c Z a0 EL n0 y bytes maxL ret b T h locs cells slots) {v : Value} {k : Fin 4} (hd : decode bytes pc = .ok (.aload_n k, 1)) (hp : pc + 1 = pc') (hl : Ls[k.val]? = some (.val v)) (hv : v.isRef = true) (k : Goes p.tables e below P (T.setTop (mkF m pc' Ls (v :: st)))) : Goes p.tables e below P (T.setTop (mkF m pc Ls st)) := by
  subst hp
  exact go (fun t q => XS.aloadN K.at K.hx rfl (hb K.hby hd) hl hv q) k
theorem k_istore (K : Wk p l e R s m args below meth c Z a0 EL n0 y bytes maxL ret b T h locs cells slots) {i : Int32} {k : Nat} {L' : Array Slot} (hd : decode bytes pc = .ok (.istore k, 2)) (hp : pc + 2 = pc') (hl : storeLocals Ls k (.int i) = some L') (k : Goes p.tables e below P (T.setTop (mkF m pc' L' st))) : Goes p.tables e below P (T.setTop (mkF m pc Ls (.int i :: st))) := by
  subst hp
  exact go (fun t q => XS.istore K.at K.hx rfl (hb K.hby hd) rfl hl q) k
theorem k_istoreN (K : Wk p l e R s m args below meth c Z a0 EL n0 y bytes maxL ret b T h locs cells slots) {i : Int32} {k : Fin 4} {L' : Array Slot} (hd : decode bytes pc = .ok (.istore_n k, 1)) (hp : pc + 1 = pc') (hl : storeLocals Ls k.val (.int i) = some L') (k : Goes p.tables e below P (T.setTop (mkF m pc' L' st))) : Goes p.tables e below P (T.setTop (mkF m pc Ls (.int i :: st))) := by
  subst hp
  exact go (fun t q => XS.istoreN K.at K.hx rfl (hb K.hby hd) rfl hl q) k
theorem k_lstore (K : Wk p l e R s m args below meth c Z a0 EL n0 y bytes maxL ret b T h locs cells slots) {i : Int64} {k : Nat} {L' : Array Slot} (hd : decode bytes pc = .ok (.lstore k, 2)) (hp : pc + 2 = pc') (hl : storeLocals Ls k (.long i) = some L') (k : Goes p.tables e below P (T.setTop (mkF m pc' L' st))) : Goes p.tables e below P (T.setTop (mkF m pc Ls (.long i :: st))) := by
  subst hp
  exact go (fun t q => XT.lstore K.at K.hx rfl (hb K.hby hd) rfl hl q) k
theorem k_lstoreN (K : Wk p l e R s m args below meth c Z a0 EL n0 y bytes maxL ret b T h locs cells slots) {i : Int64} {k : Fin 4} {L' : Array Slot} (hd : decode bytes pc = .ok (.lstore_n k, 1)) (hp : pc + 1 = pc') (hl : storeLocals Ls k.val (.long i) = some L') (k : Goes p.tables e below P (T.setTop (mkF m pc' L' st))) : Goes p.tables e below P (T.setTop (mkF m pc Ls (.long i :: st))) := by
  subst hp
  exact go (fun t q => XT.lstoreN K.at K.hx rfl (hb K.hby hd) rfl hl q) k
theorem k_astore (K : Wk p l e R s m args below meth c Z a0 EL n0 y bytes maxL ret b T h locs cells slots) {v : Value} {k : Nat} {L' : Array Slot} (hd : decode bytes pc = .ok (.astore k, 2)) (hp : pc + 2 = pc') (hv : v.isRef = true) (hl : storeLocals Ls k v = some L') (k : Goes p.tables e below P (T.setTop (mkF m pc' L' st))) : Goes p.tables e below P (T.setTop (mkF m pc Ls (v :: st))) := by
  subst hp
  exact go (fun t q => XS.astore K.at K.hx rfl (hb K.hby hd) rfl hv hl q) k
theorem k_astoreN (K : Wk p l e R s m args below meth c Z a0 EL n0 y bytes maxL ret b T h locs cells slots) {v : Value} {k : Fin 4} {L' : Array Slot} (hd : decode bytes pc = .ok (.astore_n k, 1)) (hp : pc + 1 = pc') (hv : v.isRef = true) (hl : storeLocals Ls k.val v = some L') (k : Goes p.tables e below P (T.setTop (mkF m pc' L' st))) : Goes p.tables e below P (T.setTop (mkF m pc Ls (v :: st))) := by
  subst hp
  exact go (fun t q => XS.astoreN K.at K.hx rfl (hb K.hby hd) rfl hv hl q) k
theorem k_iconst (K : Wk p l e R s m args below meth c Z a0 EL n0 y bytes maxL ret b T h locs cells slots) {i : Int} (v : Int32) (hd : decode bytes pc = .ok (.iconst i, 1)) (hp : pc + 1 = pc') (hv : Int32.ofInt i = v) (k : Goes p.tables e below P (T.setTop (mkF m pc' Ls (.int v :: st)))) : Goes p.tables e below P (T.setTop (mkF m pc Ls st)) := by
  subst hp
  exact go (fun t q => XT.iconstV K.at K.hx rfl v (hb K.hby hd) hv q) k
theorem k_bipush (K : Wk p l e R s m args below meth c Z a0 EL n0 y bytes maxL ret b T h locs cells slots) {i : Int} (v : Int32) (hd : decode bytes pc = .ok (.bipush i, 2)) (hp : pc + 2 = pc') (hv : (Int8.ofInt i).toInt32 = v) (k : Goes p.tables e below P (T.setTop (mkF m pc' Ls (.int v :: st)))) : Goes p.tables e below P (T.setTop (mkF m pc Ls st)) := by
  subst hp
  exact go (fun t q => XT.bipushV K.at K.hx rfl v (hb K.hby hd) hv q) k
theorem k_sipush (K : Wk p l e R s m args below meth c Z a0 EL n0 y bytes maxL ret b T h locs cells slots) {i : Int} (v : Int32) (hd : decode bytes pc = .ok (.sipush i, 3)) (hp : pc + 3 = pc') (hv : (Int16.ofInt i).toInt32 = v) (k : Goes p.tables e below P (T.setTop (mkF m pc' Ls (.int v :: st)))) : Goes p.tables e below P (T.setTop (mkF m pc Ls st)) := by
  subst hp
  exact go (fun t q => XT.sipushV K.at K.hx rfl v (hb K.hby hd) hv q) k
theorem k_lconst (K : Wk p l e R s m args below meth c Z a0 EL n0 y bytes maxL ret b T h locs cells slots) {i : Fin 2} (v : Int64) (hd : decode bytes pc = .ok (.lconst i, 1)) (hp : pc + 1 = pc') (hv : Int64.ofNat i = v) (k : Goes p.tables e below P (T.setTop (mkF m pc' Ls (.long v :: st)))) : Goes p.tables e below P (T.setTop (mkF m pc Ls st)) := by
  subst hp
  exact go (fun t q => XT.lconstV K.at K.hx rfl v (hb K.hby hd) hv q) k
theorem k_aconst_null (K : Wk p l e R s m args below meth c Z a0 EL n0 y bytes maxL ret b T h locs cells slots)  (hd : decode bytes pc = .ok (.aconst_null, 1)) (hp : pc + 1 = pc') (k : Goes p.tables e below P (T.setTop (mkF m pc' Ls (.null :: st)))) : Goes p.tables e below P (T.setTop (mkF m pc Ls st)) := by
  subst hp
  exact go (fun t q => XS.aconstNull K.at K.hx rfl (hb K.hby hd) q) k
theorem k_ldcI (K : Wk p l e R s m args below meth c Z a0 EL n0 y bytes maxL ret b T h locs cells slots) {i : Nat} {v : Int32} (wd : (Cond.constant y.cls i v).before a0 Z = true) (hd : decode bytes pc = .ok (.ldc i, 2)) (hp : pc + 2 = pc') (k : Goes p.tables e below P (T.setTop (mkF m pc' Ls (.int v :: st)))) : Goes p.tables e below P (T.setTop (mkF m pc Ls st)) := by
  subst hp
  exact go (fun t q => Stand.ldcI K.X K.hx K.hown (mvT K.hZ wd) rfl (hb K.hby hd) q) k
theorem k_ldcWI (K : Wk p l e R s m args below meth c Z a0 EL n0 y bytes maxL ret b T h locs cells slots) {i : Nat} {v : Int32} (wd : (Cond.constant y.cls i v).before a0 Z = true) (hd : decode bytes pc = .ok (.ldc_w i, 3)) (hp : pc + 3 = pc') (k : Goes p.tables e below P (T.setTop (mkF m pc' Ls (.int v :: st)))) : Goes p.tables e below P (T.setTop (mkF m pc Ls st)) := by
  subst hp
  exact go (fun t q => Stand.ldcWI K.X K.hx K.hown (mvT K.hZ wd) rfl (hb K.hby hd) q) k
theorem k_ldcJ (K : Wk p l e R s m args below meth c Z a0 EL n0 y bytes maxL ret b T h locs cells slots) {i : Nat} {v : Int64} (wd : (Cond.constantLong y.cls i v).before a0 Z = true) (hd : decode bytes pc = .ok (.ldc2_w i, 3)) (hp : pc + 3 = pc') (k : Goes p.tables e below P (T.setTop (mkF m pc' Ls (.long v :: st)))) : Goes p.tables e below P (T.setTop (mkF m pc Ls st)) := by
  subst hp
  exact go (fun t q => Stand.ldc2J K.X K.hx K.hown (mvT K.hZ wd) rfl (hb K.hby hd) q) k
theorem k_iadd (K : Wk p l e R s m args below meth c Z a0 EL n0 y bytes maxL ret b T h locs cells slots) {i j : Int32} (hd : decode bytes pc = .ok (.iadd, 1)) (hp : pc + 1 = pc') (k : Goes p.tables e below P (T.setTop (mkF m pc' Ls (.int (i + j) :: st)))) : Goes p.tables e below P (T.setTop (mkF m pc Ls (.int j :: .int i :: st))) := by
  subst hp
  exact go (fun t q => XS.iadd K.at K.hx rfl (hb K.hby hd) rfl q) k
theorem k_isub (K : Wk p l e R s m args below meth c Z a0 EL n0 y bytes maxL ret b T h locs cells slots) {i j : Int32} (hd : decode bytes pc = .ok (.isub, 1)) (hp : pc + 1 = pc') (k : Goes p.tables e below P (T.setTop (mkF m pc' Ls (.int (i - j) :: st)))) : Goes p.tables e below P (T.setTop (mkF m pc Ls (.int j :: .int i :: st))) := by
  subst hp
  exact go (fun t q => XS.isub K.at K.hx rfl (hb K.hby hd) rfl q) k
theorem k_imul (K : Wk p l e R s m args below meth c Z a0 EL n0 y bytes maxL ret b T h locs cells slots) {i j : Int32} (hd : decode bytes pc = .ok (.imul, 1)) (hp : pc + 1 = pc') (k : Goes p.tables e below P (T.setTop (mkF m pc' Ls (.int (i * j) :: st)))) : Goes p.tables e below P (T.setTop (mkF m pc Ls (.int j :: .int i :: st))) := by
  subst hp
  exact go (fun t q => XS.imul K.at K.hx rfl (hb K.hby hd) rfl q) k
theorem k_iand (K : Wk p l e R s m args below meth c Z a0 EL n0 y bytes maxL ret b T h locs cells slots) {i j : Int32} (hd : decode bytes pc = .ok (.iand, 1)) (hp : pc + 1 = pc') (k : Goes p.tables e below P (T.setTop (mkF m pc' Ls (.int (i &&& j) :: st)))) : Goes p.tables e below P (T.setTop (mkF m pc Ls (.int j :: .int i :: st))) := by
  subst hp
  exact go (fun t q => XS.iand K.at K.hx rfl (hb K.hby hd) rfl q) k
theorem k_ior (K : Wk p l e R s m args below meth c Z a0 EL n0 y bytes maxL ret b T h locs cells slots) {i j : Int32} (hd : decode bytes pc = .ok (.ior, 1)) (hp : pc + 1 = pc') (k : Goes p.tables e below P (T.setTop (mkF m pc' Ls (.int (i ||| j) :: st)))) : Goes p.tables e below P (T.setTop (mkF m pc Ls (.int j :: .int i :: st))) := by
  subst hp
  exact go (fun t q => XT.ior K.at K.hx rfl (hb K.hby hd) rfl q) k
theorem k_ixor (K : Wk p l e R s m args below meth c Z a0 EL n0 y bytes maxL ret b T h locs cells slots) {i j : Int32} (hd : decode bytes pc = .ok (.ixor, 1)) (hp : pc + 1 = pc') (k : Goes p.tables e below P (T.setTop (mkF m pc' Ls (.int (i ^^^ j) :: st)))) : Goes p.tables e below P (T.setTop (mkF m pc Ls (.int j :: .int i :: st))) := by
  subst hp
  exact go (fun t q => XT.ixor K.at K.hx rfl (hb K.hby hd) rfl q) k
theorem k_ishl (K : Wk p l e R s m args below meth c Z a0 EL n0 y bytes maxL ret b T h locs cells slots) {i j : Int32} (hd : decode bytes pc = .ok (.ishl, 1)) (hp : pc + 1 = pc') (k : Goes p.tables e below P (T.setTop (mkF m pc' Ls (.int (i <<< (j &&& 31)) :: st)))) : Goes p.tables e below P (T.setTop (mkF m pc Ls (.int j :: .int i :: st))) := by
  subst hp
  exact go (fun t q => XT.ishl K.at K.hx rfl (hb K.hby hd) rfl q) k
theorem k_ishr (K : Wk p l e R s m args below meth c Z a0 EL n0 y bytes maxL ret b T h locs cells slots) {i j : Int32} (hd : decode bytes pc = .ok (.ishr, 1)) (hp : pc + 1 = pc') (k : Goes p.tables e below P (T.setTop (mkF m pc' Ls (.int (i >>> (j &&& 31)) :: st)))) : Goes p.tables e below P (T.setTop (mkF m pc Ls (.int j :: .int i :: st))) := by
  subst hp
  exact go (fun t q => XT.ishr K.at K.hx rfl (hb K.hby hd) rfl q) k
theorem k_iushr (K : Wk p l e R s m args below meth c Z a0 EL n0 y bytes maxL ret b T h locs cells slots) {i j : Int32} (hd : decode bytes pc = .ok (.iushr, 1)) (hp : pc + 1 = pc') (k : Goes p.tables e below P (T.setTop (mkF m pc' Ls (.int (XT.ushr i j) :: st)))) : Goes p.tables e below P (T.setTop (mkF m pc Ls (.int j :: .int i :: st))) := by
  subst hp
  exact go (fun t q => XT.iushr K.at K.hx rfl (hb K.hby hd) rfl q) k
theorem k_ladd (K : Wk p l e R s m args below meth c Z a0 EL n0 y bytes maxL ret b T h locs cells slots) {i j : Int64} (hd : decode bytes pc = .ok (.ladd, 1)) (hp : pc + 1 = pc') (k : Goes p.tables e below P (T.setTop (mkF m pc' Ls (.long (i + j) :: st)))) : Goes p.tables e below P (T.setTop (mkF m pc Ls (.long j :: .long i :: st))) := by
  subst hp
  exact go (fun t q => XT.ladd K.at K.hx rfl (hb K.hby hd) rfl q) k
theorem k_lsub (K : Wk p l e R s m args below meth c Z a0 EL n0 y bytes maxL ret b T h locs cells slots) {i j : Int64} (hd : decode bytes pc = .ok (.lsub, 1)) (hp : pc + 1 = pc') (k : Goes p.tables e below P (T.setTop (mkF m pc' Ls (.long (i - j) :: st)))) : Goes p.tables e below P (T.setTop (mkF m pc Ls (.long j :: .long i :: st))) := by
  subst hp
  exact go (fun t q => XT.lsub K.at K.hx rfl (hb K.hby hd) rfl q) k
theorem k_lmul (K : Wk p l e R s m args below meth c Z a0 EL n0 y bytes maxL ret b T h locs cells slots) {i j : Int64} (hd : decode bytes pc = .ok (.lmul, 1)) (hp : pc + 1 = pc') (k : Goes p.tables e below P (T.setTop (mkF m pc' Ls (.long (i * j) :: st)))) : Goes p.tables e below P (T.setTop (mkF m pc Ls (.long j :: .long i :: st))) := by
  subst hp
  exact go (fun t q => XT.lmul K.at K.hx rfl (hb K.hby hd) rfl q) k
theorem k_land (K : Wk p l e R s m args below meth c Z a0 EL n0 y bytes maxL ret b T h locs cells slots) {i j : Int64} (hd : decode bytes pc = .ok (.land, 1)) (hp : pc + 1 = pc') (k : Goes p.tables e below P (T.setTop (mkF m pc' Ls (.long (i &&& j) :: st)))) : Goes p.tables e below P (T.setTop (mkF m pc Ls (.long j :: .long i :: st))) := by
  subst hp
  exact go (fun t q => XT.land K.at K.hx rfl (hb K.hby hd) rfl q) k
theorem k_lor (K : Wk p l e R s m args below meth c Z a0 EL n0 y bytes maxL ret b T h locs cells slots) {i j : Int64} (hd : decode bytes pc = .ok (.lor, 1)) (hp : pc + 1 = pc') (k : Goes p.tables e below P (T.setTop (mkF m pc' Ls (.long (i ||| j) :: st)))) : Goes p.tables e below P (T.setTop (mkF m pc Ls (.long j :: .long i :: st))) := by
  subst hp
  exact go (fun t q => XT.lor K.at K.hx rfl (hb K.hby hd) rfl q) k
theorem k_lxor (K : Wk p l e R s m args below meth c Z a0 EL n0 y bytes maxL ret b T h locs cells slots) {i j : Int64} (hd : decode bytes pc = .ok (.lxor, 1)) (hp : pc + 1 = pc') (k : Goes p.tables e below P (T.setTop (mkF m pc' Ls (.long (i ^^^ j) :: st)))) : Goes p.tables e below P (T.setTop (mkF m pc Ls (.long j :: .long i :: st))) := by
  subst hp
  exact go (fun t q => XT.lxor K.at K.hx rfl (hb K.hby hd) rfl q) k
theorem k_lshl (K : Wk p l e R s m args below meth c Z a0 EL n0 y bytes maxL ret b T h locs cells slots) {i : Int64} {j : Int32} (hd : decode bytes pc = .ok (.lshl, 1)) (hp : pc + 1 = pc') (k : Goes p.tables e below P (T.setTop (mkF m pc' Ls (.long (i <<< (j.toInt64 &&& 63)) :: st)))) : Goes p.tables e below P (T.setTop (mkF m pc Ls (.int j :: .long i :: st))) := by
  subst hp
  exact go (fun t q => XT.lshl K.at K.hx rfl (hb K.hby hd) rfl q) k
theorem k_lshr (K : Wk p l e R s m args below meth c Z a0 EL n0 y bytes maxL ret b T h locs cells slots) {i : Int64} {j : Int32} (hd : decode bytes pc = .ok (.lshr, 1)) (hp : pc + 1 = pc') (k : Goes p.tables e below P (T.setTop (mkF m pc' Ls (.long (i >>> (j.toInt64 &&& 63)) :: st)))) : Goes p.tables e below P (T.setTop (mkF m pc Ls (.int j :: .long i :: st))) := by
  subst hp
  exact go (fun t q => XT.lshr K.at K.hx rfl (hb K.hby hd) rfl q) k
theorem k_lushr (K : Wk p l e R s m args below meth c Z a0 EL n0 y bytes maxL ret b T h locs cells slots) {i : Int64} {j : Int32} (hd : decode bytes pc = .ok (.lushr, 1)) (hp : pc + 1 = pc') (k : Goes p.tables e below P (T.setTop (mkF m pc' Ls (.long (XT.ushrL i j) :: st)))) : Goes p.tables e below P (T.setTop (mkF m pc Ls (.int j :: .long i :: st))) := by
  subst hp
  exact go (fun t q => XT.lushr K.at K.hx rfl (hb K.hby hd) rfl q) k
theorem k_idiv (K : Wk p l e R s m args below meth c Z a0 EL n0 y bytes maxL ret b T h locs cells slots) {i j : Int32} (hd : decode bytes pc = .ok (.idiv, 1)) (hp : pc + 1 = pc') (hj : j ≠ 0) (k : Goes p.tables e below P (T.setTop (mkF m pc' Ls (.int (i / j) :: st)))) : Goes p.tables e below P (T.setTop (mkF m pc Ls (.int j :: .int i :: st))) := by
  subst hp
  exact go (fun t q => XS.idiv K.at K.hx rfl (hb K.hby hd) rfl hj q) k
theorem k_irem (K : Wk p l e R s m args below meth c Z a0 EL n0 y bytes maxL ret b T h locs cells slots) {i j : Int32} (hd : decode bytes pc = .ok (.irem, 1)) (hp : pc + 1 = pc') (hj : j ≠ 0) (k : Goes p.tables e below P (T.setTop (mkF m pc' Ls (.int (i % j) :: st)))) : Goes p.tables e below P (T.setTop (mkF m pc Ls (.int j :: .int i :: st))) := by
  subst hp
  exact go (fun t q => Jvm.RoadKit.iremM K.X K.hx rfl (hb K.hby hd) rfl hj q) k
theorem k_ldiv (K : Wk p l e R s m args below meth c Z a0 EL n0 y bytes maxL ret b T h locs cells slots) {i j : Int64} (hd : decode bytes pc = .ok (.ldiv, 1)) (hp : pc + 1 = pc') (hj : j ≠ 0) (k : Goes p.tables e below P (T.setTop (mkF m pc' Ls (.long (i / j) :: st)))) : Goes p.tables e below P (T.setTop (mkF m pc Ls (.long j :: .long i :: st))) := by
  subst hp
  exact go (fun t q => XT.ldiv K.at K.hx rfl (hb K.hby hd) rfl hj q) k
theorem k_lrem (K : Wk p l e R s m args below meth c Z a0 EL n0 y bytes maxL ret b T h locs cells slots) {i j : Int64} (hd : decode bytes pc = .ok (.lrem, 1)) (hp : pc + 1 = pc') (hj : j ≠ 0) (k : Goes p.tables e below P (T.setTop (mkF m pc' Ls (.long (i - (i / j) * j) :: st)))) : Goes p.tables e below P (T.setTop (mkF m pc Ls (.long j :: .long i :: st))) := by
  subst hp
  exact go (fun t q => XT.lrem K.at K.hx rfl (hb K.hby hd) rfl hj q) k
theorem k_lcmp (K : Wk p l e R s m args below meth c Z a0 EL n0 y bytes maxL ret b T h locs cells slots) {i j : Int64} (hd : decode bytes pc = .ok (.lcmp, 1)) (hp : pc + 1 = pc') (k : Goes p.tables e below P (T.setTop (mkF m pc' Ls (.int (XT.cmpL i j) :: st)))) : Goes p.tables e below P (T.setTop (mkF m pc Ls (.long j :: .long i :: st))) := by
  subst hp
  exact go (fun t q => XT.lcmp K.at K.hx rfl (hb K.hby hd) rfl q) k
theorem k_ineg (K : Wk p l e R s m args below meth c Z a0 EL n0 y bytes maxL ret b T h locs cells slots) {i : Int32} (hd : decode bytes pc = .ok (.ineg, 1)) (hp : pc + 1 = pc') (k : Goes p.tables e below P (T.setTop (mkF m pc' Ls (.int (-i) :: st)))) : Goes p.tables e below P (T.setTop (mkF m pc Ls (.int i :: st))) := by
  subst hp
  exact go (fun t q => XS.ineg K.at K.hx rfl (hb K.hby hd) rfl q) k
theorem k_lneg (K : Wk p l e R s m args below meth c Z a0 EL n0 y bytes maxL ret b T h locs cells slots) {i : Int64} (hd : decode bytes pc = .ok (.lneg, 1)) (hp : pc + 1 = pc') (k : Goes p.tables e below P (T.setTop (mkF m pc' Ls (.long (-i) :: st)))) : Goes p.tables e below P (T.setTop (mkF m pc Ls (.long i :: st))) := by
  subst hp
  exact go (fun t q => XT.lneg K.at K.hx rfl (hb K.hby hd) rfl q) k
theorem k_i2l (K : Wk p l e R s m args below meth c Z a0 EL n0 y bytes maxL ret b T h locs cells slots) {i : Int32} (hd : decode bytes pc = .ok (.i2l, 1)) (hp : pc + 1 = pc') (k : Goes p.tables e below P (T.setTop (mkF m pc' Ls (.long i.toInt64 :: st)))) : Goes p.tables e below P (T.setTop (mkF m pc Ls (.int i :: st))) := by
  subst hp
  exact go (fun t q => XT.i2l K.at K.hx rfl (hb K.hby hd) rfl q) k
theorem k_l2i (K : Wk p l e R s m args below meth c Z a0 EL n0 y bytes maxL ret b T h locs cells slots) {i : Int64} (hd : decode bytes pc = .ok (.l2i, 1)) (hp : pc + 1 = pc') (k : Goes p.tables e below P (T.setTop (mkF m pc' Ls (.int i.toInt32 :: st)))) : Goes p.tables e below P (T.setTop (mkF m pc Ls (.long i :: st))) := by
  subst hp
  exact go (fun t q => XT.l2i K.at K.hx rfl (hb K.hby hd) rfl q) k
theorem k_i2b (K : Wk p l e R s m args below meth c Z a0 EL n0 y bytes maxL ret b T h locs cells slots) {i : Int32} (hd : decode bytes pc = .ok (.i2b, 1)) (hp : pc + 1 = pc') (k : Goes p.tables e below P (T.setTop (mkF m pc' Ls (.int i.toInt8.toInt32 :: st)))) : Goes p.tables e below P (T.setTop (mkF m pc Ls (.int i :: st))) := by
  subst hp
  exact go (fun t q => XT.i2b K.at K.hx rfl (hb K.hby hd) rfl q) k
theorem k_i2c (K : Wk p l e R s m args below meth c Z a0 EL n0 y bytes maxL ret b T h locs cells slots) {i : Int32} (hd : decode bytes pc = .ok (.i2c, 1)) (hp : pc + 1 = pc') (k : Goes p.tables e below P (T.setTop (mkF m pc' Ls (.int i.toUInt32.toUInt16.toUInt32.toInt32 :: st)))) : Goes p.tables e below P (T.setTop (mkF m pc Ls (.int i :: st))) := by
  subst hp
  exact go (fun t q => XT.i2c K.at K.hx rfl (hb K.hby hd) rfl q) k
theorem k_i2s (K : Wk p l e R s m args below meth c Z a0 EL n0 y bytes maxL ret b T h locs cells slots) {i : Int32} (hd : decode bytes pc = .ok (.i2s, 1)) (hp : pc + 1 = pc') (k : Goes p.tables e below P (T.setTop (mkF m pc' Ls (.int i.toInt16.toInt32 :: st)))) : Goes p.tables e below P (T.setTop (mkF m pc Ls (.int i :: st))) := by
  subst hp
  exact go (fun t q => XT.i2s K.at K.hx rfl (hb K.hby hd) rfl q) k
theorem k_iinc (K : Wk p l e R s m args below meth c Z a0 EL n0 y bytes maxL ret b T h locs cells slots) {i : Int32} {k : Nat} {ct : Int} {L' : Array Slot} (v : Int32) (hd : decode bytes pc = .ok (.iinc k ct, 3)) (hp : pc + 3 = pc') (hv : Int32.ofInt ct = v) (hl : Ls[k]? = some (.val (.int i))) (hl' : storeLocals Ls k (.int (i + v)) = some L') (k : Goes p.tables e below P (T.setTop (mkF m pc' L' st))) : Goes p.tables e below P (T.setTop (mkF m pc Ls st)) := by
  subst hp
  exact go (fun t q => XT.iincV K.at K.hx rfl v (hb K.hby hd) hv hl hl' q) k
theorem k_dup (K : Wk p l e R s m args below meth c Z a0 EL n0 y bytes maxL ret b T h locs cells slots) {v : Value} (hd : decode bytes pc = .ok (.dup, 1)) (hp : pc + 1 = pc') (hc : v.category = 1) (k : Goes p.tables e below P (T.setTop (mkF m pc' Ls (v :: v :: st)))) : Goes p.tables e below P (T.setTop (mkF m pc Ls (v :: st))) := by
  subst hp
  exact go (fun t q => XS.dup K.at K.hx rfl (hb K.hby hd) rfl hc q) k
theorem k_pop (K : Wk p l e R s m args below meth c Z a0 EL n0 y bytes maxL ret b T h locs cells slots) {v : Value} (hd : decode bytes pc = .ok (.pop, 1)) (hp : pc + 1 = pc') (hc : v.category = 1) (k : Goes p.tables e below P (T.setTop (mkF m pc' Ls st))) : Goes p.tables e below P (T.setTop (mkF m pc Ls (v :: st))) := by
  subst hp
  exact go (fun t q => XT.pop K.at K.hx rfl (hb K.hby hd) rfl hc q) k
theorem k_dup_x1 (K : Wk p l e R s m args below meth c Z a0 EL n0 y bytes maxL ret b T h locs cells slots) {v u : Value} (hd : decode bytes pc = .ok (.dup_x1, 1)) (hp : pc + 1 = pc') (hc : v.category = 1) (hc' : u.category = 1) (k : Goes p.tables e below P (T.setTop (mkF m pc' Ls (v :: u :: v :: st)))) : Goes p.tables e below P (T.setTop (mkF m pc Ls (v :: u :: st))) := by
  subst hp
  exact go (fun t q => XT.dupX1 K.at K.hx rfl (hb K.hby hd) rfl hc hc' q) k
theorem k_dup2J (K : Wk p l e R s m args below meth c Z a0 EL n0 y bytes maxL ret b T h locs cells slots) {i : Int64} (hd : decode bytes pc = .ok (.dup2, 1)) (hp : pc + 1 = pc') (k : Goes p.tables e below P (T.setTop (mkF m pc' Ls (.long i :: .long i :: st)))) : Goes p.tables e below P (T.setTop (mkF m pc Ls (.long i :: st))) := by
  subst hp
  refine go (fun t q => ?_) k
  have hd' := (hb K.hby hd)
  have hA := K.at
  have hx := K.hx
  jvm_step hA [hA.top, hx, hd', Value.category]
  exact q
theorem k_dup2II (K : Wk p l e R s m args below meth c Z a0 EL n0 y bytes maxL ret b T h locs cells slots) {i j : Int32} (hd : decode bytes pc = .ok (.dup2, 1)) (hp : pc + 1 = pc') (k : Goes p.tables e below P (T.setTop (mkF m pc' Ls (.int j :: .int i :: .int j :: .int i :: st)))) : Goes p.tables e below P (T.setTop (mkF m pc Ls (.int j :: .int i :: st))) := by
  subst hp
  refine go (fun t q => ?_) k
  have hd' := (hb K.hby hd)
  have hA := K.at
  have hx := K.hx
  jvm_step hA [hA.top, hx, hd', Value.category]
  exact q
theorem k_dup2AI (K : Wk p l e R s m args below meth c Z a0 EL n0 y bytes maxL ret b T h locs cells slots) {a : Addr} {j : Int32} (hd : decode bytes pc = .ok (.dup2, 1)) (hp : pc + 1 = pc') (k : Goes p.tables e below P (T.setTop (mkF m pc' Ls (.int j :: .ref a :: .int j :: .ref a :: st)))) : Goes p.tables e below P (T.setTop (mkF m pc Ls (.int j :: .ref a :: st))) := by
  subst hp
  refine go (fun t q => ?_) k
  have hd' := (hb K.hby hd)
  have hA := K.at
  have hx := K.hx
  jvm_step hA [hA.top, hx, hd', Value.category]
  exact q
theorem k_pop2J (K : Wk p l e R s m args below meth c Z a0 EL n0 y bytes maxL ret b T h locs cells slots) {i : Int64} (hd : decode bytes pc = .ok (.pop2, 1)) (hp : pc + 1 = pc') (k : Goes p.tables e below P (T.setTop (mkF m pc' Ls st))) : Goes p.tables e below P (T.setTop (mkF m pc Ls (.long i :: st))) := by
  subst hp
  refine go (fun t q => ?_) k
  have hd' := (hb K.hby hd)
  have hA := K.at
  have hx := K.hx
  jvm_step hA [hA.top, hx, hd', Value.category]
  exact q
theorem k_dup_x2AI (K : Wk p l e R s m args below meth c Z a0 EL n0 y bytes maxL ret b T h locs cells slots) {a : Addr} {i j : Int32} (hd : decode bytes pc = .ok (.dup_x2, 1)) (hp : pc + 1 = pc') (k : Goes p.tables e below P (T.setTop (mkF m pc' Ls (.int i :: .int j :: .ref a :: .int i :: st)))) : Goes p.tables e below P (T.setTop (mkF m pc Ls (.int i :: .int j :: .ref a :: st))) := by
  subst hp
  refine go (fun t q => ?_) k
  have hd' := (hb K.hby hd)
  have hA := K.at
  have hx := K.hx
  jvm_step hA [hA.top, hx, hd', Value.category]
  exact q
theorem k_dup2_x1JA (K : Wk p l e R s m args below meth c Z a0 EL n0 y bytes maxL ret b T h locs cells slots) {i : Int64} {a : Addr} (hd : decode bytes pc = .ok (.dup2_x1, 1)) (hp : pc + 1 = pc') (k : Goes p.tables e below P (T.setTop (mkF m pc' Ls (.long i :: .ref a :: .long i :: st)))) : Goes p.tables e below P (T.setTop (mkF m pc Ls (.long i :: .ref a :: st))) := by
  subst hp
  refine go (fun t q => ?_) k
  have hd' := (hb K.hby hd)
  have hA := K.at
  have hx := K.hx
  jvm_step hA [hA.top, hx, hd', Value.category]
  exact q
theorem k_dup2_x2JAI (K : Wk p l e R s m args below meth c Z a0 EL n0 y bytes maxL ret b T h locs cells slots) {i : Int64} {a : Addr} {j : Int32} (hd : decode bytes pc = .ok (.dup2_x2, 1)) (hp : pc + 1 = pc') (k : Goes p.tables e below P (T.setTop (mkF m pc' Ls (.long i :: .int j :: .ref a :: .long i :: st)))) : Goes p.tables e below P (T.setTop (mkF m pc Ls (.long i :: .int j :: .ref a :: st))) := by
  subst hp
  refine go (fun t q => ?_) k
  have hd' := (hb K.hby hd)
  have hA := K.at
  have hx := K.hx
  jvm_step hA [hA.top, hx, hd', Value.category]
  exact q
theorem k_goto (K : Wk p l e R s m args below meth c Z a0 EL n0 y bytes maxL ret b T h locs cells slots) {o : Int} (hd : decode bytes pc = .ok (.goto o, 3)) (ho : 0 ≤ (pc : Int) + o) (hp : ((pc : Int) + o).toNat = pc') (k : Goes p.tables e below P (T.setTop (mkF m pc' Ls st))) : Goes p.tables e below P (T.setTop (mkF m pc Ls st)) := go (fun t q => XS.goto K.at K.hx rfl rfl (hb K.hby hd) ho hp q) k
theorem k_icmp_eq (K : Wk p l e R s m args below meth c Z a0 EL n0 y bytes maxL ret b T h locs cells slots) {i j : Int32} {o : Int} {pc2 : Nat} (hd : decode bytes pc = .ok (.if_icmp .eq o, 3)) (ho : 0 ≤ (pc : Int) + o) (hp : ((pc : Int) + o).toNat = pc') (hp2 : pc + 3 = pc2) (kT : i = j → Goes p.tables e below P (T.setTop (mkF m pc' Ls st))) (kF : ¬ i = j → Goes p.tables e below P (T.setTop (mkF m pc2 Ls st))) : Goes p.tables e below P (T.setTop (mkF m pc Ls (.int j :: .int i :: st))) := by
  subst hp2
  by_cases q : i = j
  · exact go (fun t r => XS.icmpYes K.at K.hx rfl rfl (hb K.hby hd) rfl (XT.ii_eq_t q) ho hp r) (kT q)
  · exact go (fun t r => XS.icmpNo K.at K.hx rfl (hb K.hby hd) rfl (XT.ii_eq_f q) r) (kF q)
theorem k_if_eq (K : Wk p l e R s m args below meth c Z a0 EL n0 y bytes maxL ret b T h locs cells slots) {i : Int32} {o : Int} {pc2 : Nat} (hd : decode bytes pc = .ok (.ifCond .eq o, 3)) (ho : 0 ≤ (pc : Int) + o) (hp : ((pc : Int) + o).toNat = pc') (hp2 : pc + 3 = pc2) (kT : i = 0 → Goes p.tables e below P (T.setTop (mkF m pc' Ls st))) (kF : ¬ i = 0 → Goes p.tables e below P (T.setTop (mkF m pc2 Ls st))) : Goes p.tables e below P (T.setTop (mkF m pc Ls (.int i :: st))) := by
  subst hp2
  by_cases q : i = 0
  · exact go (fun t r => XS.ifYes K.at K.hx rfl rfl (hb K.hby hd) rfl (XT.i0_eq_t q) ho hp r) (kT q)
  · exact go (fun t r => XS.ifNo K.at K.hx rfl (hb K.hby hd) rfl (XT.i0_eq_f q) r) (kF q)
theorem k_lif_eq (K : Wk p l e R s m args below meth c Z a0 EL n0 y bytes maxL ret b T h locs cells slots) {i j : Int64} {o : Int} {pc2 : Nat} (hd : decode bytes pc = .ok (.ifCond .eq o, 3)) (ho : 0 ≤ (pc : Int) + o) (hp : ((pc : Int) + o).toNat = pc') (hp2 : pc + 3 = pc2) (kT : i = j → Goes p.tables e below P (T.setTop (mkF m pc' Ls st))) (kF : ¬ i = j → Goes p.tables e below P (T.setTop (mkF m pc2 Ls st))) : Goes p.tables e below P (T.setTop (mkF m pc Ls (.int (XT.cmpL i j) :: st))) := by
  subst hp2
  by_cases q : i = j
  · exact go (fun t r => XS.ifYes K.at K.hx rfl rfl (hb K.hby hd) rfl (XT.ll_eq_t q) ho hp r) (kT q)
  · exact go (fun t r => XS.ifNo K.at K.hx rfl (hb K.hby hd) rfl (XT.ll_eq_f q) r) (kF q)
theorem k_icmp_ne (K : Wk p l e R s m args below meth c Z a0 EL n0 y bytes maxL ret b T h locs cells slots) {i j : Int32} {o : Int} {pc2 : Nat} (hd : decode bytes pc = .ok (.if_icmp .ne o, 3)) (ho : 0 ≤ (pc : Int) + o) (hp : ((pc : Int) + o).toNat = pc') (hp2 : pc + 3 = pc2) (kT : ¬ i = j → Goes p.tables e below P (T.setTop (mkF m pc' Ls st))) (kF : i = j → Goes p.tables e below P (T.setTop (mkF m pc2 Ls st))) : Goes p.tables e below P (T.setTop (mkF m pc Ls (.int j :: .int i :: st))) := by
  subst hp2
  by_cases q : ¬ i = j
  · exact go (fun t r => XS.icmpYes K.at K.hx rfl rfl (hb K.hby hd) rfl (XT.ii_ne_t q) ho hp r) (kT q)
  · exact go (fun t r => XS.icmpNo K.at K.hx rfl (hb K.hby hd) rfl (XT.ii_ne_f (Classical.not_not.mp q)) r) (kF (Classical.not_not.mp q))
theorem k_if_ne (K : Wk p l e R s m args below meth c Z a0 EL n0 y bytes maxL ret b T h locs cells slots) {i : Int32} {o : Int} {pc2 : Nat} (hd : decode bytes pc = .ok (.ifCond .ne o, 3)) (ho : 0 ≤ (pc : Int) + o) (hp : ((pc : Int) + o).toNat = pc') (hp2 : pc + 3 = pc2) (kT : ¬ i = 0 → Goes p.tables e below P (T.setTop (mkF m pc' Ls st))) (kF : i = 0 → Goes p.tables e below P (T.setTop (mkF m pc2 Ls st))) : Goes p.tables e below P (T.setTop (mkF m pc Ls (.int i :: st))) := by
  subst hp2
  by_cases q : ¬ i = 0
  · exact go (fun t r => XS.ifYes K.at K.hx rfl rfl (hb K.hby hd) rfl (XT.i0_ne_t q) ho hp r) (kT q)
  · exact go (fun t r => XS.ifNo K.at K.hx rfl (hb K.hby hd) rfl (XT.i0_ne_f (Classical.not_not.mp q)) r) (kF (Classical.not_not.mp q))
theorem k_lif_ne (K : Wk p l e R s m args below meth c Z a0 EL n0 y bytes maxL ret b T h locs cells slots) {i j : Int64} {o : Int} {pc2 : Nat} (hd : decode bytes pc = .ok (.ifCond .ne o, 3)) (ho : 0 ≤ (pc : Int) + o) (hp : ((pc : Int) + o).toNat = pc') (hp2 : pc + 3 = pc2) (kT : ¬ i = j → Goes p.tables e below P (T.setTop (mkF m pc' Ls st))) (kF : i = j → Goes p.tables e below P (T.setTop (mkF m pc2 Ls st))) : Goes p.tables e below P (T.setTop (mkF m pc Ls (.int (XT.cmpL i j) :: st))) := by
  subst hp2
  by_cases q : ¬ i = j
  · exact go (fun t r => XS.ifYes K.at K.hx rfl rfl (hb K.hby hd) rfl (XT.ll_ne_t q) ho hp r) (kT q)
  · exact go (fun t r => XS.ifNo K.at K.hx rfl (hb K.hby hd) rfl (XT.ll_ne_f (Classical.not_not.mp q)) r) (kF (Classical.not_not.mp q))
theorem k_icmp_lt (K : Wk p l e R s m args below meth c Z a0 EL n0 y bytes maxL ret b T h locs cells slots) {i j : Int32} {o : Int} {pc2 : Nat} (hd : decode bytes pc = .ok (.if_icmp .lt o, 3)) (ho : 0 ≤ (pc : Int) + o) (hp : ((pc : Int) + o).toNat = pc') (hp2 : pc + 3 = pc2) (kT : i < j → Goes p.tables e below P (T.setTop (mkF m pc' Ls st))) (kF : ¬ i < j → Goes p.tables e below P (T.setTop (mkF m pc2 Ls st))) : Goes p.tables e below P (T.setTop (mkF m pc Ls (.int j :: .int i :: st))) := by
  subst hp2
  by_cases q : i < j
  · exact go (fun t r => XS.icmpYes K.at K.hx rfl rfl (hb K.hby hd) rfl (XT.ii_lt_t q) ho hp r) (kT q)
  · exact go (fun t r => XS.icmpNo K.at K.hx rfl (hb K.hby hd) rfl (XT.ii_lt_f q) r) (kF q)
theorem k_if_lt (K : Wk p l e R s m args below meth c Z a0 EL n0 y bytes maxL ret b T h locs cells slots) {i : Int32} {o : Int} {pc2 : Nat} (hd : decode bytes pc = .ok (.ifCond .lt o, 3)) (ho : 0 ≤ (pc : Int) + o) (hp : ((pc : Int) + o).toNat = pc') (hp2 : pc + 3 = pc2) (kT : i < 0 → Goes p.tables e below P (T.setTop (mkF m pc' Ls st))) (kF : ¬ i < 0 → Goes p.tables e below P (T.setTop (mkF m pc2 Ls st))) : Goes p.tables e below P (T.setTop (mkF m pc Ls (.int i :: st))) := by
  subst hp2
  by_cases q : i < 0
  · exact go (fun t r => XS.ifYes K.at K.hx rfl rfl (hb K.hby hd) rfl (XT.i0_lt_t q) ho hp r) (kT q)
  · exact go (fun t r => XS.ifNo K.at K.hx rfl (hb K.hby hd) rfl (XT.i0_lt_f q) r) (kF q)
theorem k_lif_lt (K : Wk p l e R s m args below meth c Z a0 EL n0 y bytes maxL ret b T h locs cells slots) {i j : Int64} {o : Int} {pc2 : Nat} (hd : decode bytes pc = .ok (.ifCond .lt o, 3)) (ho : 0 ≤ (pc : Int) + o) (hp : ((pc : Int) + o).toNat = pc') (hp2 : pc + 3 = pc2) (kT : i < j → Goes p.tables e below P (T.setTop (mkF m pc' Ls st))) (kF : ¬ i < j → Goes p.tables e below P (T.setTop (mkF m pc2 Ls st))) : Goes p.tables e below P (T.setTop (mkF m pc Ls (.int (XT.cmpL i j) :: st))) := by
  subst hp2
  by_cases q : i < j
  · exact go (fun t r => XS.ifYes K.at K.hx rfl rfl (hb K.hby hd) rfl (XT.ll_lt_t q) ho hp r) (kT q)
  · exact go (fun t r => XS.ifNo K.at K.hx rfl (hb K.hby hd) rfl (XT.ll_lt_f q) r) (kF q)
theorem k_icmp_ge (K : Wk p l e R s m args below meth c Z a0 EL n0 y bytes maxL ret b T h locs cells slots) {i j : Int32} {o : Int} {pc2 : Nat} (hd : decode bytes pc = .ok (.if_icmp .ge o, 3)) (ho : 0 ≤ (pc : Int) + o) (hp : ((pc : Int) + o).toNat = pc') (hp2 : pc + 3 = pc2) (kT : ¬ i < j → Goes p.tables e below P (T.setTop (mkF m pc' Ls st))) (kF : i < j → Goes p.tables e below P (T.setTop (mkF m pc2 Ls st))) : Goes p.tables e below P (T.setTop (mkF m pc Ls (.int j :: .int i :: st))) := by
  subst hp2
  by_cases q : ¬ i < j
  · exact go (fun t r => XS.icmpYes K.at K.hx rfl rfl (hb K.hby hd) rfl (XT.ii_ge_t q) ho hp r) (kT q)
  · exact go (fun t r => XS.icmpNo K.at K.hx rfl (hb K.hby hd) rfl (XT.ii_ge_f (Classical.not_not.mp q)) r) (kF (Classical.not_not.mp q))
theorem k_if_ge (K : Wk p l e R s m args below meth c Z a0 EL n0 y bytes maxL ret b T h locs cells slots) {i : Int32} {o : Int} {pc2 : Nat} (hd : decode bytes pc = .ok (.ifCond .ge o, 3)) (ho : 0 ≤ (pc : Int) + o) (hp : ((pc : Int) + o).toNat = pc') (hp2 : pc + 3 = pc2) (kT : ¬ i < 0 → Goes p.tables e below P (T.setTop (mkF m pc' Ls st))) (kF : i < 0 → Goes p.tables e below P (T.setTop (mkF m pc2 Ls st))) : Goes p.tables e below P (T.setTop (mkF m pc Ls (.int i :: st))) := by
  subst hp2
  by_cases q : ¬ i < 0
  · exact go (fun t r => XS.ifYes K.at K.hx rfl rfl (hb K.hby hd) rfl (XT.i0_ge_t q) ho hp r) (kT q)
  · exact go (fun t r => XS.ifNo K.at K.hx rfl (hb K.hby hd) rfl (XT.i0_ge_f (Classical.not_not.mp q)) r) (kF (Classical.not_not.mp q))
theorem k_lif_ge (K : Wk p l e R s m args below meth c Z a0 EL n0 y bytes maxL ret b T h locs cells slots) {i j : Int64} {o : Int} {pc2 : Nat} (hd : decode bytes pc = .ok (.ifCond .ge o, 3)) (ho : 0 ≤ (pc : Int) + o) (hp : ((pc : Int) + o).toNat = pc') (hp2 : pc + 3 = pc2) (kT : ¬ i < j → Goes p.tables e below P (T.setTop (mkF m pc' Ls st))) (kF : i < j → Goes p.tables e below P (T.setTop (mkF m pc2 Ls st))) : Goes p.tables e below P (T.setTop (mkF m pc Ls (.int (XT.cmpL i j) :: st))) := by
  subst hp2
  by_cases q : ¬ i < j
  · exact go (fun t r => XS.ifYes K.at K.hx rfl rfl (hb K.hby hd) rfl (XT.ll_ge_t q) ho hp r) (kT q)
  · exact go (fun t r => XS.ifNo K.at K.hx rfl (hb K.hby hd) rfl (XT.ll_ge_f (Classical.not_not.mp q)) r) (kF (Classical.not_not.mp q))
theorem k_icmp_gt (K : Wk p l e R s m args below meth c Z a0 EL n0 y bytes maxL ret b T h locs cells slots) {i j : Int32} {o : Int} {pc2 : Nat} (hd : decode bytes pc = .ok (.if_icmp .gt o, 3)) (ho : 0 ≤ (pc : Int) + o) (hp : ((pc : Int) + o).toNat = pc') (hp2 : pc + 3 = pc2) (kT : j < i → Goes p.tables e below P (T.setTop (mkF m pc' Ls st))) (kF : ¬ j < i → Goes p.tables e below P (T.setTop (mkF m pc2 Ls st))) : Goes p.tables e below P (T.setTop (mkF m pc Ls (.int j :: .int i :: st))) := by
  subst hp2
  by_cases q : j < i
  · exact go (fun t r => XS.icmpYes K.at K.hx rfl rfl (hb K.hby hd) rfl (XT.ii_gt_t q) ho hp r) (kT q)
  · exact go (fun t r => XS.icmpNo K.at K.hx rfl (hb K.hby hd) rfl (XT.ii_gt_f q) r) (kF q)
theorem k_if_gt (K : Wk p l e R s m args below meth c Z a0 EL n0 y bytes maxL ret b T h locs cells slots) {i : Int32} {o : Int} {pc2 : Nat} (hd : decode bytes pc = .ok (.ifCond .gt o, 3)) (ho : 0 ≤ (pc : Int) + o) (hp : ((pc : Int) + o).toNat = pc') (hp2 : pc + 3 = pc2) (kT : 0 < i → Goes p.tables e below P (T.setTop (mkF m pc' Ls st))) (kF : ¬ 0 < i → Goes p.tables e below P (T.setTop (mkF m pc2 Ls st))) : Goes p.tables e below P (T.setTop (mkF m pc Ls (.int i :: st))) := by
  subst hp2
  by_cases q : 0 < i
  · exact go (fun t r => XS.ifYes K.at K.hx rfl rfl (hb K.hby hd) rfl (XT.i0_gt_t q) ho hp r) (kT q)
  · exact go (fun t r => XS.ifNo K.at K.hx rfl (hb K.hby hd) rfl (XT.i0_gt_f q) r) (kF q)
theorem k_lif_gt (K : Wk p l e R s m args below meth c Z a0 EL n0 y bytes maxL ret b T h locs cells slots) {i j : Int64} {o : Int} {pc2 : Nat} (hd : decode bytes pc = .ok (.ifCond .gt o, 3)) (ho : 0 ≤ (pc : Int) + o) (hp : ((pc : Int) + o).toNat = pc') (hp2 : pc + 3 = pc2) (kT : j < i → Goes p.tables e below P (T.setTop (mkF m pc' Ls st))) (kF : ¬ j < i → Goes p.tables e below P (T.setTop (mkF m pc2 Ls st))) : Goes p.tables e below P (T.setTop (mkF m pc Ls (.int (XT.cmpL i j) :: st))) := by
  subst hp2
  by_cases q : j < i
  · exact go (fun t r => XS.ifYes K.at K.hx rfl rfl (hb K.hby hd) rfl (XT.ll_gt_t q) ho hp r) (kT q)
  · exact go (fun t r => XS.ifNo K.at K.hx rfl (hb K.hby hd) rfl (XT.ll_gt_f q) r) (kF q)
theorem k_icmp_le (K : Wk p l e R s m args below meth c Z a0 EL n0 y bytes maxL ret b T h locs cells slots) {i j : Int32} {o : Int} {pc2 : Nat} (hd : decode bytes pc = .ok (.if_icmp .le o, 3)) (ho : 0 ≤ (pc : Int) + o) (hp : ((pc : Int) + o).toNat = pc') (hp2 : pc + 3 = pc2) (kT : ¬ j < i → Goes p.tables e below P (T.setTop (mkF m pc' Ls st))) (kF : j < i → Goes p.tables e below P (T.setTop (mkF m pc2 Ls st))) : Goes p.tables e below P (T.setTop (mkF m pc Ls (.int j :: .int i :: st))) := by
  subst hp2
  by_cases q : ¬ j < i
  · exact go (fun t r => XS.icmpYes K.at K.hx rfl rfl (hb K.hby hd) rfl (XT.ii_le_t q) ho hp r) (kT q)
  · exact go (fun t r => XS.icmpNo K.at K.hx rfl (hb K.hby hd) rfl (XT.ii_le_f (Classical.not_not.mp q)) r) (kF (Classical.not_not.mp q))
theorem k_if_le (K : Wk p l e R s m args below meth c Z a0 EL n0 y bytes maxL ret b T h locs cells slots) {i : Int32} {o : Int} {pc2 : Nat} (hd : decode bytes pc = .ok (.ifCond .le o, 3)) (ho : 0 ≤ (pc : Int) + o) (hp : ((pc : Int) + o).toNat = pc') (hp2 : pc + 3 = pc2) (kT : ¬ 0 < i → Goes p.tables e below P (T.setTop (mkF m pc' Ls st))) (kF : 0 < i → Goes p.tables e below P (T.setTop (mkF m pc2 Ls st))) : Goes p.tables e below P (T.setTop (mkF m pc Ls (.int i :: st))) := by
  subst hp2
  by_cases q : ¬ 0 < i
  · exact go (fun t r => XS.ifYes K.at K.hx rfl rfl (hb K.hby hd) rfl (XT.i0_le_t q) ho hp r) (kT q)
  · exact go (fun t r => XS.ifNo K.at K.hx rfl (hb K.hby hd) rfl (XT.i0_le_f (Classical.not_not.mp q)) r) (kF (Classical.not_not.mp q))
theorem k_lif_le (K : Wk p l e R s m args below meth c Z a0 EL n0 y bytes maxL ret b T h locs cells slots) {i j : Int64} {o : Int} {pc2 : Nat} (hd : decode bytes pc = .ok (.ifCond .le o, 3)) (ho : 0 ≤ (pc : Int) + o) (hp : ((pc : Int) + o).toNat = pc') (hp2 : pc + 3 = pc2) (kT : ¬ j < i → Goes p.tables e below P (T.setTop (mkF m pc' Ls st))) (kF : j < i → Goes p.tables e below P (T.setTop (mkF m pc2 Ls st))) : Goes p.tables e below P (T.setTop (mkF m pc Ls (.int (XT.cmpL i j) :: st))) := by
  subst hp2
  by_cases q : ¬ j < i
  · exact go (fun t r => XS.ifYes K.at K.hx rfl rfl (hb K.hby hd) rfl (XT.ll_le_t q) ho hp r) (kT q)
  · exact go (fun t r => XS.ifNo K.at K.hx rfl (hb K.hby hd) rfl (XT.ll_le_f (Classical.not_not.mp q)) r) (kF (Classical.not_not.mp q))
theorem k_acmp_eq (K : Wk p l e R s m args below meth c Z a0 EL n0 y bytes maxL ret b T h locs cells slots) {u v : Value} (hu : u.isRef = true) (hv : v.isRef = true) {o : Int} {pc2 : Nat} (hd : decode bytes pc = .ok (.if_acmp .eq o, 3)) (ho : 0 ≤ (pc : Int) + o) (hp : ((pc : Int) + o).toNat = pc') (hp2 : pc + 3 = pc2) (kE : u = v → Goes p.tables e below P (T.setTop (mkF m pc' Ls st))) (kN : ¬ u = v → Goes p.tables e below P (T.setTop (mkF m pc2 Ls st))) : Goes p.tables e below P (T.setTop (mkF m pc Ls (v :: u :: st))) := by
  subst hp2 hp
  by_cases q : u = v
  · exact go (fun t r => Jvm.RoadKit.acmp (g := mkF m pc Ls (v :: u :: st)) K.X K.hx rfl hu hv (pc0 := pc) (same := true) rfl (hb K.hby hd) rfl (decide_eq_true q) ho rfl r) (kE q)
  · exact go (fun t r => Jvm.RoadKit.acmp (g := mkF m pc Ls (v :: u :: st)) K.X K.hx rfl hu hv (pc0 := pc) (same := false) rfl (hb K.hby hd) rfl (decide_eq_false q) ho rfl r) (kN q)
theorem k_acmp_ne (K : Wk p l e R s m args below meth c Z a0 EL n0 y bytes maxL ret b T h locs cells slots) {u v : Value} (hu : u.isRef = true) (hv : v.isRef = true) {o : Int} {pc2 : Nat} (hd : decode bytes pc = .ok (.if_acmp .ne o, 3)) (ho : 0 ≤ (pc : Int) + o) (hp : ((pc : Int) + o).toNat = pc') (hp2 : pc + 3 = pc2) (kE : u = v → Goes p.tables e below P (T.setTop (mkF m pc2 Ls st))) (kN : ¬ u = v → Goes p.tables e below P (T.setTop (mkF m pc' Ls st))) : Goes p.tables e below P (T.setTop (mkF m pc Ls (v :: u :: st))) := by
  subst hp2 hp
  by_cases q : u = v
  · exact go (fun t r => Jvm.RoadKit.acmp (g := mkF m pc Ls (v :: u :: st)) K.X K.hx rfl hu hv (pc0 := pc) (same := true) rfl (hb K.hby hd) rfl (decide_eq_true q) ho rfl r) (kE q)
  · exact go (fun t r => Jvm.RoadKit.acmp (g := mkF m pc Ls (v :: u :: st)) K.X K.hx rfl hu hv (pc0 := pc) (same := false) rfl (hb K.hby hd) rfl (decide_eq_false q) ho rfl r) (kN q)
theorem k_ifnull (K : Wk p l e R s m args below meth c Z a0 EL n0 y bytes maxL ret b T h locs cells slots) {v : Value} (hv : v.isRef = true) {o : Int} {pc2 : Nat} (hd : decode bytes pc = .ok (.ifnull o, 3)) (ho : 0 ≤ (pc : Int) + o) (hp : ((pc : Int) + o).toNat = pc') (hp2 : pc + 3 = pc2) (kT : v = .null → Goes p.tables e below P (T.setTop (mkF m pc' Ls st))) (kF : ¬ v = .null → Goes p.tables e below P (T.setTop (mkF m pc2 Ls st))) : Goes p.tables e below P (T.setTop (mkF m pc Ls (v :: st))) := by
  subst hp2
  by_cases qn : v = .null
  · exact go (fun t r => XT.nullYes K.at K.hx rfl rfl (hb K.hby hd) rfl qn ho hp r) (kT qn)
  · exact go (fun t r => XT.nullNo K.at K.hx rfl (hb K.hby hd) rfl hv qn r) (kF qn)
theorem k_ifnonnull (K : Wk p l e R s m args below meth c Z a0 EL n0 y bytes maxL ret b T h locs cells slots) {v : Value} (hv : v.isRef = true) {o : Int} {pc2 : Nat} (hd : decode bytes pc = .ok (.ifnonnull o, 3)) (ho : 0 ≤ (pc : Int) + o) (hp : ((pc : Int) + o).toNat = pc') (hp2 : pc + 3 = pc2) (kT : ¬ v = .null → Goes p.tables e below P (T.setTop (mkF m pc' Ls st))) (kF : v = .null → Goes p.tables e below P (T.setTop (mkF m pc2 Ls st))) : Goes p.tables e below P (T.setTop (mkF m pc Ls (v :: st))) := by
  subst hp2
  by_cases qn : v = .null
  · exact go (fun t r => XT.nonnullNo K.at K.hx rfl (hb K.hby hd) rfl qn r) (kF qn)
  · exact go (fun t r => XT.nonnullYes K.at K.hx rfl rfl (hb K.hby hd) rfl hv qn ho hp r) (kT qn)
theorem k_getF (K : Wk p l e R s m args below meth c Z a0 EL n0 y bytes maxL ret b T h locs cells slots) {R0 O n d : String} {i : Nat} {a : Addr} {v : Value} (wd : (Cond.fieldLink y.cls i R0 n d).before a0 Z = true) (via : Via Z R0 O n d) (F : Fld Z h a O n d v) (hd : decode bytes pc = .ok (.getfield i, 3)) (hp : pc + 3 = pc') (k : ∀ T', Wk p l e R s m args below meth c Z a0 EL n0 y bytes maxL ret b T' h locs cells slots → Goes p.tables e below P (T'.setTop (mkF m pc' Ls (v :: st)))) : Goes p.tables e below P (T.setTop (mkF m pc Ls (.ref a :: st))) := by
  subst hp
  obtain ⟨T', X', e', q⟩ := Jvm.RoadKit.getF K.X K.hx K.hZ (host := "") K.hown (Or.inl wd) via K.eT F (g := mkF m pc Ls (.ref a :: st)) rfl rfl (hb K.hby hd)
  exact go q (k T' (K.move X' e' K.fr K.old K.bs))
theorem k_getFN (K : Wk p l e R s m args below meth c Z a0 EL n0 y bytes maxL ret b T h locs cells slots) {R0 O n d host : String} {i : Nat} {a : Addr} {v : Value} (wd : (Cond.fieldLinkNest y.cls i R0 n d host).before a0 Z = true) (via : Via Z R0 O n d) (F : Fld Z h a O n d v) (hd : decode bytes pc = .ok (.getfield i, 3)) (hp : pc + 3 = pc') (k : ∀ T', Wk p l e R s m args below meth c Z a0 EL n0 y bytes maxL ret b T' h locs cells slots → Goes p.tables e below P (T'.setTop (mkF m pc' Ls (v :: st)))) : Goes p.tables e below P (T.setTop (mkF m pc Ls (.ref a :: st))) := by
  subst hp
  obtain ⟨T', X', e', q⟩ := Jvm.RoadKit.getF K.X K.hx K.hZ K.hown (Or.inr wd) via K.eT F (g := mkF m pc Ls (.ref a :: st)) rfl rfl (hb K.hby hd)
  exact go q (k T' (K.move X' e' K.fr K.old K.bs))
theorem k_getS (K : Wk p l e R s m args below meth c Z a0 EL n0 y bytes maxL ret b T h locs cells slots) {R0 O n d : String} {i : Nat} {v : Value} (wd : (Cond.fieldLink y.cls i R0 n d).before a0 Z = true) (via : Via Z R0 O n d) (F : Sta Z Z.heap O n d v) (hd : decode bytes pc = .ok (.getstatic i, 3)) (hp : pc + 3 = pc') (k : ∀ T', Wk p l e R s m args below meth c Z a0 EL n0 y bytes maxL ret b T' h locs cells slots → Goes p.tables e below P (T'.setTop (mkF m pc' Ls (v :: st)))) : Goes p.tables e below P (T.setTop (mkF m pc Ls st)) := by
  subst hp
  obtain ⟨T', X', e', q⟩ := getS2 K.X K.hx K.hZ K.hown (host := "") (Or.inl wd) via K.eT (F.ext K.old.2) (g := mkF m pc Ls st) rfl (hb K.hby hd)
  exact go q (k T' (K.move X' e' K.fr K.old K.bs))
theorem k_getSN (K : Wk p l e R s m args below meth c Z a0 EL n0 y bytes maxL ret b T h locs cells slots) {R0 O n d host : String} {i : Nat} {v : Value} (wd : (Cond.fieldLinkNest y.cls i R0 n d host).before a0 Z = true) (via : Via Z R0 O n d) (F : Sta Z Z.heap O n d v) (hd : decode bytes pc = .ok (.getstatic i, 3)) (hp : pc + 3 = pc') (k : ∀ T', Wk p l e R s m args below meth c Z a0 EL n0 y bytes maxL ret b T' h locs cells slots → Goes p.tables e below P (T'.setTop (mkF m pc' Ls (v :: st)))) : Goes p.tables e below P (T.setTop (mkF m pc Ls st)) := by
  subst hp
  obtain ⟨T', X', e', q⟩ := getS2 K.X K.hx K.hZ K.hown (Or.inr wd) via K.eT (F.ext K.old.2) (g := mkF m pc Ls st) rfl (hb K.hby hd)
  exact go q (k T' (K.move X' e' K.fr K.old K.bs))
theorem k_castY (K : Wk p l e R s m args below meth c Z a0 EL n0 y bytes maxL ret b T h locs cells slots) {C : String} {i : Nat} {a : Addr} (wd : (Cond.classLink y.cls i C).before a0 Z = true) (F : Ins Z h a C true) (hd : decode bytes pc = .ok (.checkcast i, 3)) (hp : pc + 3 = pc') (k : ∀ T', Wk p l e R s m args below meth c Z a0 EL n0 y bytes maxL ret b T' h locs cells slots → Goes p.tables e below P (T'.setTop (mkF m pc' Ls (.ref a :: st)))) : Goes p.tables e below P (T.setTop (mkF m pc Ls (.ref a :: st))) := by
  subst hp
  obtain ⟨T', X', e', q⟩ := castY K.X K.hx K.hZ K.hown wd K.eT F (g := mkF m pc Ls (.ref a :: st)) rfl rfl (hb K.hby hd)
  exact go q (k T' (K.move X' e' K.fr K.old K.bs))
theorem k_instY (K : Wk p l e R s m args below meth c Z a0 EL n0 y bytes maxL ret b T h locs cells slots) {C : String} {i : Nat} {a : Addr} (wd : (Cond.classLink y.cls i C).before a0 Z = true) (F : Ins Z h a C true) (hd : decode bytes pc = .ok (.instanceof i, 3)) (hp : pc + 3 = pc') (k : ∀ T', Wk p l e R s m args below meth c Z a0 EL n0 y bytes maxL ret b T' h locs cells slots → Goes p.tables e below P (T'.setTop (mkF m pc' Ls (.int 1 :: st)))) : Goes p.tables e below P (T.setTop (mkF m pc Ls (.ref a :: st))) := by
  subst hp
  obtain ⟨T', X', e', q⟩ := instY K.X K.hx K.hZ K.hown wd K.eT F (g := mkF m pc Ls (.ref a :: st)) rfl rfl (hb K.hby hd)
  exact go q (k T' (K.move X' e' K.fr K.old K.bs))
theorem instN_at (X : Stand p l e R s m args below meth c T locs cells slots) (hx : p.tables.exec = Jvm.exec) (hZ : Z.Warmed39 s.vm) {own C D : String} {index : Nat} (hown : s.vm.findClass own = some m.cls) (w : (Cond.classLink own index C).before a0 Z = true) (eT : T.heap = h) {a : Addr} (F : Ins Z h a C false) (E : Exa Z h a D)
    {g : JFrame} (hg : g.method = m) {rest : List Value} (hs : g.stack = .ref a :: rest) (hd : decode c.code g.pc = .ok (.instanceof index, 3)) : ∃ T', Stand p l e R s m args below meth c T' locs cells slots ∧ T'.heap = h ∧ ∀ target, Steps p.tables e below (T'.setTop { g with pc := g.pc + 3, stack := .int 0 :: rest }) target → Steps p.tables e below (T.setTop g) target := by
  obtain ⟨cell, cT, h1, h2, h3⟩ := F
  obtain ⟨cell', k, e1, -, e3, e4, -⟩ := E
  cases h1.symm.trans e1
  obtain ⟨k', q, -⟩ := hZ.alike.2.2 _ _ e3
  obtain ⟨vm', X', st⟩ := Jvm.Sym.instanceofNoAt X hx hown (mvT hZ w) (by rw [eT]; exact h1) e4 q (by rw [hZ.alike.findClass]; exact h2) (by rw [hZ.alike.assignable]; simpa [e4] using h3) hg hs hd
  exact ⟨_, X', eT, st⟩
theorem k_instN (K : Wk p l e R s m args below meth c Z a0 EL n0 y bytes maxL ret b T h locs cells slots) {C D : String} {i : Nat} {a : Addr} (wd : (Cond.classLink y.cls i C).before a0 Z = true) (F : Ins Z h a C false) (E : Exa Z h a D) (hd : decode bytes pc = .ok (.instanceof i, 3)) (hp : pc + 3 = pc') (k : ∀ T', Wk p l e R s m args below meth c Z a0 EL n0 y bytes maxL ret b T' h locs cells slots → Goes p.tables e below P (T'.setTop (mkF m pc' Ls (.int 0 :: st)))) : Goes p.tables e below P (T.setTop (mkF m pc Ls (.ref a :: st))) := by
  subst hp
  obtain ⟨T', X', e', q⟩ := instN_at K.X K.hx K.hZ K.hown wd K.eT F E (g := mkF m pc Ls (.ref a :: st)) rfl rfl (hb K.hby hd)
  exact go q (k T' (K.move X' e' K.fr K.old K.bs))
theorem k_instNull (K : Wk p l e R s m args below meth c Z a0 EL n0 y bytes maxL ret b T h locs cells slots) {i : Nat} (hd : decode bytes pc = .ok (.instanceof i, 3)) (hp : pc + 3 = pc') (k : Goes p.tables e below P (T.setTop (mkF m pc' Ls (.int 0 :: st)))) : Goes p.tables e below P (T.setTop (mkF m pc Ls (.null :: st))) := by
  subst hp
  exact go (fun t q => K.X.instanceofNull K.hx (g := mkF m pc Ls (.null :: st)) rfl rfl (hb K.hby hd) _ q) k
theorem k_castNull (K : Wk p l e R s m args below meth c Z a0 EL n0 y bytes maxL ret b T h locs cells slots) {i : Nat} (hd : decode bytes pc = .ok (.checkcast i, 3)) (hp : pc + 3 = pc') (k : Goes p.tables e below P (T.setTop (mkF m pc' Ls (.null :: st)))) : Goes p.tables e below P (T.setTop (mkF m pc Ls (.null :: st))) := by
  subst hp
  exact go (fun t q => K.X.checkcastNull K.hx (g := mkF m pc Ls (.null :: st)) rfl rfl (hb K.hby hd) _ q) k
theorem k_iaload (K : Wk p l e R s m args below meth c Z a0 EL n0 y bytes maxL ret b T h locs cells slots) {a : Addr} {kk : ClassId} {z j : Int32} {vs : List Value} {dv : Value} {v : Int32} (F : Arv Z h a kk .int z vs dv) (hj : ¬ j < 0 ∧ j < z) (hv : vs.getD j.toNatClampNeg dv = .int v) (hd : decode bytes pc = .ok (.iaload, 1)) (hp : pc + 1 = pc') (k : Goes p.tables e below P (T.setTop (mkF m pc' Ls (.int v :: st)))) : Goes p.tables e below P (T.setTop (mkF m pc Ls (.int j :: .ref a :: st))) := by
  subst hp
  obtain ⟨cl, Ar, -, S, -, H, -⟩ := F
  exact go (fun t q => K.X.iaload K.hx (j := j) (v := .int v) (by rw [K.eT]; exact Ar.1) (State.isArrayOf_alike K.hZ.alike Ar.2.1) Ar.2.2 (inb_of S hj) (H.at (inb_of S hj) hv) (g := mkF m pc Ls (.int j :: .ref a :: st)) rfl rfl (hb K.hby hd) _ q) k
theorem k_caload (K : Wk p l e R s m args below meth c Z a0 EL n0 y bytes maxL ret b T h locs cells slots) {a : Addr} {kk : ClassId} {z j : Int32} {vs : List Value} {dv : Value} {v : Int32} (F : Arv Z h a kk .char z vs dv) (hj : ¬ j < 0 ∧ j < z) (hv : vs.getD j.toNatClampNeg dv = .int v) (hd : decode bytes pc = .ok (.caload, 1)) (hp : pc + 1 = pc') (k : Goes p.tables e below P (T.setTop (mkF m pc' Ls (.int v :: st)))) : Goes p.tables e below P (T.setTop (mkF m pc Ls (.int j :: .ref a :: st))) := by
  subst hp
  obtain ⟨cl, Ar, -, S, -, H, -⟩ := F
  exact go (fun t q => K.X.caload K.hx (j := j) (v := .int v) (by rw [K.eT]; exact Ar.1) (State.isArrayOf_alike K.hZ.alike Ar.2.1) Ar.2.2 (inb_of S hj) (H.at (inb_of S hj) hv) (g := mkF m pc Ls (.int j :: .ref a :: st)) rfl rfl (hb K.hby hd) _ q) k
theorem k_baload (K : Wk p l e R s m args below meth c Z a0 EL n0 y bytes maxL ret b T h locs cells slots) {a : Addr} {kk : ClassId} {z j : Int32} {vs : List Value} {dv : Value} {v : Int32} (F : Arv Z h a kk .byte z vs dv) (hj : ¬ j < 0 ∧ j < z) (hv : vs.getD j.toNatClampNeg dv = .int v) (hd : decode bytes pc = .ok (.baload, 1)) (hp : pc + 1 = pc') (k : Goes p.tables e below P (T.setTop (mkF m pc' Ls (.int v :: st)))) : Goes p.tables e below P (T.setTop (mkF m pc Ls (.int j :: .ref a :: st))) := by
  subst hp
  obtain ⟨cl, Ar, -, S, -, H, -⟩ := F
  exact go (fun t q => K.X.baloadBytes K.hx (j := j) (v := .int v) (by rw [K.eT]; exact Ar.1) (State.isArrayOf_alike K.hZ.alike Ar.2.1) Ar.2.2 (inb_of S hj) (H.at (inb_of S hj) hv) (g := mkF m pc Ls (.int j :: .ref a :: st)) rfl rfl (hb K.hby hd) _ q) k
theorem k_laload (K : Wk p l e R s m args below meth c Z a0 EL n0 y bytes maxL ret b T h locs cells slots) {a : Addr} {kk : ClassId} {z j : Int32} {vs : List Value} {dv : Value} {v : Int64} (F : Arv Z h a kk .long z vs dv) (hj : ¬ j < 0 ∧ j < z) (hv : vs.getD j.toNatClampNeg dv = .long v) (hd : decode bytes pc = .ok (.laload, 1)) (hp : pc + 1 = pc') (k : Goes p.tables e below P (T.setTop (mkF m pc' Ls (.long v :: st)))) : Goes p.tables e below P (T.setTop (mkF m pc Ls (.int j :: .ref a :: st))) := by
  subst hp
  obtain ⟨cl, Ar, -, S, -, H, -⟩ := F
  exact go (fun t q => K.X.laload K.hx (j := j) (v := .long v) (by rw [K.eT]; exact Ar.1) (State.isArrayOf_alike K.hZ.alike Ar.2.1) Ar.2.2 (inb_of S hj) (H.at (inb_of S hj) hv) (g := mkF m pc Ls (.int j :: .ref a :: st)) rfl rfl (hb K.hby hd) _ q) k
theorem k_aaload (K : Wk p l e R s m args below meth c Z a0 EL n0 y bytes maxL ret b T h locs cells slots) {a : Addr} {kk : ClassId} {ty : FieldType} {z j : Int32} {vs : List Value} {dv v : Value} (F : Arv Z h a kk ty z vs dv) (hty : ty.isReference = true) (hj : ¬ j < 0 ∧ j < z) (hv : vs.getD j.toNatClampNeg dv = v) (hd : decode bytes pc = .ok (.aaload, 1)) (hp : pc + 1 = pc') (k : Goes p.tables e below P (T.setTop (mkF m pc' Ls (v :: st)))) : Goes p.tables e below P (T.setTop (mkF m pc Ls (.int j :: .ref a :: st))) := by
  subst hp
  obtain ⟨cl, Ar, -, S, -, H, -⟩ := F
  exact go (fun t q => K.X.aaload K.hx (j := j) (v := v) (by rw [K.eT]; exact Ar.1) (State.isArrayOf_alike K.hZ.alike Ar.2.1) hty Ar.2.2 (inb_of S hj) (H.at (inb_of S hj) hv) (g := mkF m pc Ls (.int j :: .ref a :: st)) rfl rfl (hb K.hby hd) _ q) k
theorem k_len (K : Wk p l e R s m args below meth c Z a0 EL n0 y bytes maxL ret b T h locs cells slots) {a : Addr} {kk : ClassId} {ty : FieldType} {z : Int32} {vs : List Value} {dv : Value} (F : Arv Z h a kk ty z vs dv) (hd : decode bytes pc = .ok (.arraylength, 1)) (hp : pc + 1 = pc') (k : Goes p.tables e below P (T.setTop (mkF m pc' Ls (.int z :: st)))) : Goes p.tables e below P (T.setTop (mkF m pc Ls (.ref a :: st))) := by
  subst hp
  obtain ⟨cl, Ar, -, S, N, -, -⟩ := F
  refine go (fun t q => K.X.arraylength K.hx (by rw [K.eT]; exact Ar.1) (State.isArrayOf_alike K.hZ.alike Ar.2.1) (g := mkF m pc Ls (.ref a :: st)) rfl rfl (hb K.hby hd) _ (by rw [len_of S N]; exact q)) k
theorem bs_ext (K : Wk p l e R s m args below meth c Z a0 EL n0 y bytes maxL ret b T h locs cells slots) {h' : Heap} (E : Ext h h') : Bs Z a0 EL s b h' := K.bs
theorem bs_wr (K : Wk p l e R s m args below meth c Z a0 EL n0 y bytes maxL ret b T h locs cells slots) {h' : Heap} {a : Addr} {sl : Nat} {v : Value} (W : Wr h h' a sl v) (sf : Sfe Z EL b.vm h a) : Bs Z a0 EL s b h' := K.bs
theorem sfe_ext (K : Wk p l e R s m args below meth c Z a0 EL n0 y bytes maxL ret b T h locs cells slots) {h' : Heap} (E : Ext h h') (x : Addr) (_ : x < h.size) (q : Sfe Z EL b.vm h x) : Sfe Z EL b.vm h' x := trivial
theorem sfe_wr (K : Wk p l e R s m args below meth c Z a0 EL n0 y bytes maxL ret b T h locs cells slots) {h' : Heap} {a : Addr} {sl : Nat} {v : Value} (W : Wr h h' a sl v) (sf : Sfe Z EL b.vm h a) (x : Addr) (_ : x < h.size) (q : Sfe Z EL b.vm h x) : Sfe Z EL b.vm h' x := trivial
theorem sfe_ext_new (K : Wk p l e R s m args below meth c Z a0 EL n0 y bytes maxL ret b T h locs cells slots) {h' : Heap} (E : Ext h h') : Sfe Z EL b.vm h' h.size := trivial
theorem k_new (K : Wk p l e R s m args below meth c Z a0 EL n0 y bytes maxL ret b T h locs cells slots) {C : String} {i n : Nat} (wl : (Cond.classLink y.cls i C).before a0 Z = true) (wi : (Cond.instantiable C n).before a0 Z = true) (wz : (Cond.initialized C).before a0 Z = true) (hd : decode bytes pc = .ok (.new i, 3)) (hp : pc + 3 = pc') (hce : cells + 1 ≤ R.cells) (hsl : slots + n ≤ R.slots) (k : ∀ T' h' a, a = h.size → Wk p l e R s m args below meth c Z a0 EL n0 y bytes maxL ret b T' h' locs (cells + 1) (slots + n) → Ext h h' → (∀ x, x < h.size → Sfe Z EL b.vm h x → Sfe Z EL b.vm h' x) → Sfe Z EL b.vm h' a → Exa Z h' a C → (∀ {O nm d : String} {ty : FieldType}, Laid Z a0 C O nm d → parseFieldDescriptor d = some ty → Fld Z h' a O nm d (defaultValue ty)) → Unt h' a → Goes p.tables e below P (T'.setTop (mkF m pc' Ls (.ref a :: st)))) : Goes p.tables e below P (T.setTop (mkF m pc Ls st)) := by
  subst hp
  obtain ⟨T', h', X', e', E', A', D', U', q⟩ := newO K.X K.hx K.hZ K.hown wl wi wz K.eT (g := mkF m pc Ls st) rfl (hb K.hby hd) hce hsl
  exact go q (k T' h' _ rfl (K.move X' e' K.fr (K.old.ext E') (bs_ext K E')) E' (sfe_ext K E') (sfe_ext_new K E') A' D' U')
theorem k_putF (K : Wk p l e R s m args below meth c Z a0 EL n0 y bytes maxL ret b T h locs cells slots) {R0 O n d C : String} {i kk : Nat} {ty : FieldType} {a : Addr} {v old : Value} (wd : (Cond.fieldLink y.cls i R0 n d).before a0 Z = true) (via : Via Z R0 O n d) (F : Fld Z h a O n d old) (E : Exa Z h a C) (L : (Cond.lays C O n d).before a0 Z = true ∨ ((Cond.laysFinal C O n d).before a0 Z = true ∧ y.cls = O ∧ y.name = "<init>")) (wi : (Cond.instantiable C kk).before a0 Z = true) (hty : parseFieldDescriptor d = some ty) (hn : narrow ty v = v) (hf : fits ty v = true) (ga : n0 ≤ a) (sf : Sfe Z EL b.vm h a) (hd : decode bytes pc = .ok (.putfield i, 3)) (hp : pc + 3 = pc') (k : ∀ T' h', Wk p l e R s m args below meth c Z a0 EL n0 y bytes maxL ret b T' h' (locs ++ [⟨a, Jvm.RoadKit.slotOf Z O n d⟩]) cells slots → Wr h h' a (Jvm.RoadKit.slotOf Z O n d) v → (∀ x, x < h.size → Sfe Z EL b.vm h x → Sfe Z EL b.vm h' x) → Goes p.tables e below P (T'.setTop (mkF m pc' Ls st))) : Goes p.tables e below P (T.setTop (mkF m pc Ls (v :: .ref a :: st))) := by
  subst hp
  obtain ⟨T', h', X', e', W', q⟩ := putF K.X K.hx K.hZ (host := "") K.hown (Or.inl wd) via K.eT F E (L.imp id fun ⟨q1, q2, q3⟩ => ⟨q1, q2, K.hnm.trans q3⟩) wi hty hn hf (g := mkF m pc Ls (v :: .ref a :: st)) rfl rfl (hb K.hby hd)
  exact go q (k T' h' (K.move X' e' (Fr.snoc X' K.fr ga) (K.old.wr W' ga) (bs_wr K W' sf)) W' (sfe_wr K W' sf))
theorem k_putFH (K : Wk p l e R s m args below meth c Z a0 EL n0 y bytes maxL ret b T h locs cells slots) {R0 O n d C host : String} {i kk : Nat} {ty : FieldType} {a : Addr} {v old : Value} (wd : (Cond.fieldLinkNest y.cls i R0 n d host).before a0 Z = true) (via : Via Z R0 O n d) (F : Fld Z h a O n d old) (E : Exa Z h a C) (L : (Cond.lays C O n d).before a0 Z = true ∨ ((Cond.laysFinal C O n d).before a0 Z = true ∧ y.cls = O ∧ y.name = "<init>")) (wi : (Cond.instantiable C kk).before a0 Z = true) (hty : parseFieldDescriptor d = some ty) (hn : narrow ty v = v) (hf : fits ty v = true) (ga : n0 ≤ a) (sf : Sfe Z EL b.vm h a) (hd : decode bytes pc = .ok (.putfield i, 3)) (hp : pc + 3 = pc') (k : ∀ T' h', Wk p l e R s m args below meth c Z a0 EL n0 y bytes maxL ret b T' h' (locs ++ [⟨a, Jvm.RoadKit.slotOf Z O n d⟩]) cells slots → Wr h h' a (Jvm.RoadKit.slotOf Z O n d) v → (∀ x, x < h.size → Sfe Z EL b.vm h x → Sfe Z EL b.vm h' x) → Goes p.tables e below P (T'.setTop (mkF m pc' Ls st))) : Goes p.tables e below P (T.setTop (mkF m pc Ls (v :: .ref a :: st))) := by
  subst hp
  obtain ⟨T', h', X', e', W', q⟩ := putF K.X K.hx K.hZ K.hown (Or.inr wd) via K.eT F E (L.imp id fun ⟨q1, q2, q3⟩ => ⟨q1, q2, K.hnm.trans q3⟩) wi hty hn hf (g := mkF m pc Ls (v :: .ref a :: st)) rfl rfl (hb K.hby hd)
  exact go q (k T' h' (K.move X' e' (Fr.snoc X' K.fr ga) (K.old.wr W' ga) (bs_wr K W' sf)) W' (sfe_wr K W' sf))
theorem k_putFN (K : Wk p l e R s m args below meth c Z a0 EL n0 y bytes maxL ret b T h locs cells slots) {R0 O n d C : String} {i kk : Nat} {ty : FieldType} {a : Addr} {v v' old : Value} (wd : (Cond.fieldLink y.cls i R0 n d).before a0 Z = true) (via : Via Z R0 O n d) (F : Fld Z h a O n d old) (E : Exa Z h a C) (L : (Cond.lays C O n d).before a0 Z = true ∨ ((Cond.laysFinal C O n d).before a0 Z = true ∧ y.cls = O ∧ y.name = "<init>")) (wi : (Cond.instantiable C kk).before a0 Z = true) (hty : parseFieldDescriptor d = some ty) (hn : narrow ty v = v') (hf : fits ty v' = true) (ga : n0 ≤ a) (sf : Sfe Z EL b.vm h a) (hd : decode bytes pc = .ok (.putfield i, 3)) (hp : pc + 3 = pc') (k : ∀ T' h', Wk p l e R s m args below meth c Z a0 EL n0 y bytes maxL ret b T' h' (locs ++ [⟨a, Jvm.RoadKit.slotOf Z O n d⟩]) cells slots → Wr h h' a (Jvm.RoadKit.slotOf Z O n d) v' → (∀ x, x < h.size → Sfe Z EL b.vm h x → Sfe Z EL b.vm h' x) → Goes p.tables e below P (T'.setTop (mkF m pc' Ls st))) : Goes p.tables e below P (T.setTop (mkF m pc Ls (v :: .ref a :: st))) := by
  subst hp
  obtain ⟨T', h', X', e', W', q⟩ := putFN K.X K.hx K.hZ K.hown wd via K.eT F E (L.imp id fun ⟨q1, q2, q3⟩ => ⟨q1, q2, K.hnm.trans q3⟩) wi hty hn hf (g := mkF m pc Ls (v :: .ref a :: st)) rfl rfl (hb K.hby hd)
  exact go q (k T' h' (K.move X' e' (Fr.snoc X' K.fr ga) (K.old.wr W' ga) (bs_wr K W' sf)) W' (sfe_wr K W' sf))
theorem k_newarray (K : Wk p l e R s m args below meth c Z a0 EL n0 y bytes maxL ret b T h locs cells slots) {aty : ArrayType} {z : Int32} (wa : (Cond.arrayClass (newarray.typeOf aty)).before a0 Z = true) (hz : ¬ z < 0) {cap : Nat} (hcap : z.toNatClampNeg ≤ cap) (hbig : cap * 8 ≤ 536870912) (hd : decode bytes pc = .ok (.newarray aty, 2)) (hp : pc + 2 = pc') (hce : cells + 1 ≤ R.cells) (hsl : slots + cap ≤ R.slots) (k : ∀ T' h' a kk, a = h.size → Wk p l e R s m args below meth c Z a0 EL n0 y bytes maxL ret b T' h' locs (cells + 1) (slots + cap) → Ext h h' → (∀ x, x < h.size → Sfe Z EL b.vm h x → Sfe Z EL b.vm h' x) → Sfe Z EL b.vm h' a → Arv Z h' a kk (newarray.typeOf aty) z [] (defaultValue (newarray.typeOf aty)) → Goes p.tables e below P (T'.setTop (mkF m pc' Ls (.ref a :: st)))) : Goes p.tables e below P (T.setTop (mkF m pc Ls (.int z :: st))) := by
  subst hp
  obtain ⟨T', h', kk, X', e', E', A', q⟩ := newP K.X K.hx K.hZ wa K.eT (g := mkF m pc Ls (.int z :: st)) rfl (hb K.hby hd) rfl hz hcap hbig hce hsl
  exact go q (k T' h' _ kk rfl (K.move X' e' K.fr (K.old.ext E') (bs_ext K E')) E' (sfe_ext K E') (sfe_ext_new K E') (Arv.new A' hz))
theorem k_anewarray (K : Wk p l e R s m args below meth c Z a0 EL n0 y bytes maxL ret b T h locs cells slots) {C : String} {i : Nat} {z : Int32} (wl : (Cond.classLink y.cls i C).before a0 Z = true) (wa : (Cond.arrayOver (.object C)).before a0 Z = true) (hz : ¬ z < 0) {cap : Nat} (hcap : z.toNatClampNeg ≤ cap) (hbig : cap * 8 ≤ 536870912) (hd : decode bytes pc = .ok (.anewarray i, 3)) (hp : pc + 3 = pc') (hce : cells + 1 ≤ R.cells) (hsl : slots + cap ≤ R.slots) (k : ∀ T' h' a kk, a = h.size → Wk p l e R s m args below meth c Z a0 EL n0 y bytes maxL ret b T' h' locs (cells + 1) (slots + cap) → Ext h h' → (∀ x, x < h.size → Sfe Z EL b.vm h x → Sfe Z EL b.vm h' x) → Sfe Z EL b.vm h' a → Arv Z h' a kk (.object C) z [] .null → Ovr Z kk C → Goes p.tables e below P (T'.setTop (mkF m pc' Ls (.ref a :: st)))) : Goes p.tables e below P (T.setTop (mkF m pc Ls (.int z :: st))) := by
  subst hp
  obtain ⟨T', h', kk, X', e', E', A', O', q⟩ := newR K.X K.hx K.hZ K.hown wl wa K.eT (g := mkF m pc Ls (.int z :: st)) rfl (hb K.hby hd) rfl hz hcap hbig hce hsl
  exact go q (k T' h' _ kk rfl (K.move X' e' K.fr (K.old.ext E') (bs_ext K E')) E' (sfe_ext K E') (sfe_ext_new K E') (Arv.new A' hz) O')
theorem k_iastore (K : Wk p l e R s m args below meth c Z a0 EL n0 y bytes maxL ret b T h locs cells slots) {a : Addr} {kk : ClassId} {z j : Int32} {vs : List Value} {dv : Value} {v : Int32} (F : Arv Z h a kk .int z vs dv) (hj : ¬ j < 0 ∧ j < z) (hlen : j.toNatClampNeg < vs.length) (ga : n0 ≤ a) (sf : Sfe Z EL b.vm h a) (hd : decode bytes pc = .ok (.iastore, 1)) (hp : pc + 1 = pc') (k : ∀ T' h', Wk p l e R s m args below meth c Z a0 EL n0 y bytes maxL ret b T' h' (locs ++ [⟨a, j.toNatClampNeg⟩]) cells slots → Wr h h' a j.toNatClampNeg (.int v) → (∀ x, x < h.size → Sfe Z EL b.vm h x → Sfe Z EL b.vm h' x) → Arv Z h' a kk .int z (vs.set j.toNatClampNeg (.int v)) dv → Goes p.tables e below P (T'.setTop (mkF m pc' Ls st))) : Goes p.tables e below P (T.setTop (mkF m pc Ls (.int v :: .int j :: .ref a :: st))) := by
  subst hp
  obtain ⟨cl, Ar, q1, S, N, H, G⟩ := F
  obtain ⟨T', h', X', e', W', q⟩ := stI K.X K.hx K.hZ K.eT Ar (j := j) (inb_of S hj) (g := mkF m pc Ls (.int v :: .int j :: .ref a :: st)) rfl rfl (hb K.hby hd)
  exact go q (k T' h' (K.move X' e' (Fr.snoc X' K.fr ga) (K.old.wr W' ga) (bs_wr K W' sf)) W' (sfe_wr K W' sf) (Arv.set Ar q1 S N H G rfl W' _ rfl hlen))
theorem k_castore (K : Wk p l e R s m args below meth c Z a0 EL n0 y bytes maxL ret b T h locs cells slots) {a : Addr} {kk : ClassId} {z j : Int32} {vs : List Value} {dv : Value} {v : Int32} (F : Arv Z h a kk .char z vs dv) (hj : ¬ j < 0 ∧ j < z) (hlen : j.toNatClampNeg < vs.length) (ga : n0 ≤ a) (sf : Sfe Z EL b.vm h a) (hd : decode bytes pc = .ok (.castore, 1)) (hp : pc + 1 = pc') (k : ∀ T' h', Wk p l e R s m args below meth c Z a0 EL n0 y bytes maxL ret b T' h' (locs ++ [⟨a, j.toNatClampNeg⟩]) cells slots → Wr h h' a j.toNatClampNeg (.int (nar .char v)) → (∀ x, x < h.size → Sfe Z EL b.vm h x → Sfe Z EL b.vm h' x) → Arv Z h' a kk .char z (vs.set j.toNatClampNeg (.int (nar .char v))) dv → Goes p.tables e below P (T'.setTop (mkF m pc' Ls st))) : Goes p.tables e below P (T.setTop (mkF m pc Ls (.int v :: .int j :: .ref a :: st))) := by
  subst hp
  obtain ⟨cl, Ar, q1, S, N, H, G⟩ := F
  obtain ⟨T', h', X', e', W', q⟩ := stC K.X K.hx K.hZ K.eT Ar (j := j) (inb_of S hj) (g := mkF m pc Ls (.int v :: .int j :: .ref a :: st)) rfl rfl (hb K.hby hd)
  exact go q (k T' h' (K.move X' e' (Fr.snoc X' K.fr ga) (K.old.wr W' ga) (bs_wr K W' sf)) W' (sfe_wr K W' sf) (Arv.set Ar q1 S N H G (fits_nar_char _) W' _ rfl hlen))
theorem k_bastore (K : Wk p l e R s m args below meth c Z a0 EL n0 y bytes maxL ret b T h locs cells slots) {a : Addr} {kk : ClassId} {z j : Int32} {vs : List Value} {dv : Value} {v : Int32} (F : Arv Z h a kk .byte z vs dv) (hj : ¬ j < 0 ∧ j < z) (hlen : j.toNatClampNeg < vs.length) (ga : n0 ≤ a) (sf : Sfe Z EL b.vm h a) (hd : decode bytes pc = .ok (.bastore, 1)) (hp : pc + 1 = pc') (k : ∀ T' h', Wk p l e R s m args below meth c Z a0 EL n0 y bytes maxL ret b T' h' (locs ++ [⟨a, j.toNatClampNeg⟩]) cells slots → Wr h h' a j.toNatClampNeg (.int (nar .byte v)) → (∀ x, x < h.size → Sfe Z EL b.vm h x → Sfe Z EL b.vm h' x) → Arv Z h' a kk .byte z (vs.set j.toNatClampNeg (.int (nar .byte v))) dv → Goes p.tables e below P (T'.setTop (mkF m pc' Ls st))) : Goes p.tables e below P (T.setTop (mkF m pc Ls (.int v :: .int j :: .ref a :: st))) := by
  subst hp
  obtain ⟨cl, Ar, q1, S, N, H, G⟩ := F
  obtain ⟨T', h', X', e', W', q⟩ := stB K.X K.hx K.hZ K.eT Ar (j := j) (inb_of S hj) (g := mkF m pc Ls (.int v :: .int j :: .ref a :: st)) rfl rfl (hb K.hby hd)
  exact go q (k T' h' (K.move X' e' (Fr.snoc X' K.fr ga) (K.old.wr W' ga) (bs_wr K W' sf)) W' (sfe_wr K W' sf) (Arv.set Ar q1 S N H G (fits_nar_byte _) W' _ rfl hlen))
theorem k_lastore (K : Wk p l e R s m args below meth c Z a0 EL n0 y bytes maxL ret b T h locs cells slots) {a : Addr} {kk : ClassId} {z j : Int32} {vs : List Value} {dv : Value} {v : Int64} (F : Arv Z h a kk .long z vs dv) (hj : ¬ j < 0 ∧ j < z) (hlen : j.toNatClampNeg < vs.length) (ga : n0 ≤ a) (sf : Sfe Z EL b.vm h a) (hd : decode bytes pc = .ok (.lastore, 1)) (hp : pc + 1 = pc') (k : ∀ T' h', Wk p l e R s m args below meth c Z a0 EL n0 y bytes maxL ret b T' h' (locs ++ [⟨a, j.toNatClampNeg⟩]) cells slots → Wr h h' a j.toNatClampNeg (.long v) → (∀ x, x < h.size → Sfe Z EL b.vm h x → Sfe Z EL b.vm h' x) → Arv Z h' a kk .long z (vs.set j.toNatClampNeg (.long v)) dv → Goes p.tables e below P (T'.setTop (mkF m pc' Ls st))) : Goes p.tables e below P (T.setTop (mkF m pc Ls (.long v :: .int j :: .ref a :: st))) := by
  subst hp
  obtain ⟨cl, Ar, q1, S, N, H, G⟩ := F
  obtain ⟨T', h', X', e', W', q⟩ := stJ K.X K.hx K.hZ K.eT Ar (j := j) (inb_of S hj) (g := mkF m pc Ls (.long v :: .int j :: .ref a :: st)) rfl rfl (hb K.hby hd)
  exact go q (k T' h' (K.move X' e' (Fr.snoc X' K.fr ga) (K.old.wr W' ga) (bs_wr K W' sf)) W' (sfe_wr K W' sf) (Arv.set Ar q1 S N H G rfl W' _ rfl hlen))
theorem k_aastore (K : Wk p l e R s m args below meth c Z a0 EL n0 y bytes maxL ret b T h locs cells slots) {a : Addr} {kk : ClassId} {ty : FieldType} {z j : Int32} {vs : List Value} {dv v : Value} (F : Arv Z h a kk ty z vs dv) (hty : ty.isReference = true) (hs : Sto Z h a v) (hfit : fits ty v = true) (hj : ¬ j < 0 ∧ j < z) (hlen : j.toNatClampNeg < vs.length) (ga : n0 ≤ a) (sf : Sfe Z EL b.vm h a) (hd : decode bytes pc = .ok (.aastore, 1)) (hp : pc + 1 = pc') (k : ∀ T' h', Wk p l e R s m args below meth c Z a0 EL n0 y bytes maxL ret b T' h' (locs ++ [⟨a, j.toNatClampNeg⟩]) cells slots → Wr h h' a j.toNatClampNeg v → (∀ x, x < h.size → Sfe Z EL b.vm h x → Sfe Z EL b.vm h' x) → Arv Z h' a kk ty z (vs.set j.toNatClampNeg v) dv → Goes p.tables e below P (T'.setTop (mkF m pc' Ls st))) : Goes p.tables e below P (T.setTop (mkF m pc Ls (v :: .int j :: .ref a :: st))) := by
  subst hp
  obtain ⟨cl, Ar, q1, S, N, H, G⟩ := F
  obtain ⟨T', h', X', e', W', q⟩ := stR K.X K.hx K.hZ K.eT Ar (j := j) (inb_of S hj) hty hs (g := mkF m pc Ls (v :: .int j :: .ref a :: st)) rfl rfl (hb K.hby hd)
  exact go q (k T' h' (K.move X' e' (Fr.snoc X' K.fr ga) (K.old.wr W' ga) (bs_wr K W' sf)) W' (sfe_wr K W' sf) (Arv.set Ar q1 S N H G hfit W' _ rfl hlen))
def Fin (Z : State) (EL : List (String × Nat)) (U : State) (n0 : Nat) (rm : Room) (Q : Option Value → Heap → (Addr → Prop) → Prop) (o : Outcome) (U' : State) : Prop := ∃ v L, o = .returned v ∧ (Fr n0 L ∧ Old Z n0 U'.heap ∧ Q v U'.heap (Sfe Z EL U'.vm U'.heap)) ∧ FrameEnd U o U' L rm.cells rm.slots
def Ct (l : Launch) (Z : State) (EL : List (String × Nat)) (n0 : Nat) (y : MethodName) (bytes : ByteArray) (maxL : Nat) (ret : Option FieldType) (rm : Room) (as : Array Value) (h : Heap) (SP : List Addr) (Q : Option Value → Heap → (Addr → Prop) → Prop) : Prop := ∀ ws, MetFree l y (head1 (Cond.code y bytes maxL ret :: ws) rm) (fun a U => a = as ∧ Z.Warmed39 U.vm ∧ U.heap = h ∧ (∀ x ∈ SP, Sfe Z EL U.vm h x)) (fun _ _ _ _ _ => True) (fun _ U o U' => ∃ v L, o = .returned v ∧ (Fr n0 L ∧ Old Z n0 U'.heap ∧ Q v U'.heap (Sfe Z EL U'.vm U'.heap)) ∧ FrameEnd U o U' L rm.cells rm.slots)
theorem Ct.of {as : Array Value} {rm : Room} {SP : List Addr} {Q : Option Value → Heap → (Addr → Prop) → Prop} (LE : Array Slot) (hO : Old Z n0 h) (hpl : plainFor y = true) (hef : ∀ m, entryFrame m as maxL = mkF m 0 LE []) (body : ∀ {p : Program} {e : Env} {s : State} {m : MethodId} {below : List Frame} {meth : Method} {c : Code} {b T : State}, Wk p l e rm s m as below meth c Z a0 EL n0 y bytes maxL ret b T h [] 0 0 → (∀ x ∈ SP, Sfe Z EL b.vm h x) → Goes p.tables e below (Fin Z EL s n0 rm Q) (T.setTop (mkF m 0 LE []))) : Ct l Z EL n0 y bytes maxL ret rm as h SP Q := by
  intro ws
  refine MetFree.of_bodySF hpl hisR ?_
  intro p e s m args below meth c s₁ Bd hml0 hP hK
  obtain ⟨ha, hZ, hh, hSP⟩ := hP
  subst ha
  have K : Wk p l e rm s m args below meth c Z a0 EL n0 y bytes maxL ret s s₁ h [] 0 0 := ⟨Stand.of_body Bd, by rw [← hh, Bd.state]; rfl, Fr.nil n0, Bd.exec, hZ, findClass_of_methodNamed Bd.named, Bd.bytes, hml0, Bd.returns, Bd.notSynchronized, (name_of_methodNamed Bd.named Bd.method).1, hO, rfl⟩
  obtain ⟨t, o, h1, h2, h3, h4⟩ := body K hSP
  exact ⟨t, o, castTop (hef m) h1, h2, h3, h4⟩
theorem k_return (K : Wk p l e R s m args below meth c Z a0 EL n0 y bytes maxL ret b T h locs cells slots) {Q : Option Value → Heap → (Addr → Prop) → Prop} (hd : decode bytes pc = .ok (.return_, 1)) (hr : ret = none) (hq : ∀ sf : Addr → Prop, (∀ x, x < h.size → Sfe Z EL b.vm h x → sf x) → Q none h sf) (hc : cells ≤ R.cells) (hs : slots ≤ R.slots) : Goes p.tables e below (Fin Z EL s n0 R Q) (T.setTop (mkF m pc Ls [])) := by
  have e0 : b = s := K.bs
  subst e0
  obtain ⟨fs, hr', hrun, hended, hW, hsame⟩ := K.X.leave (v := none) (fun _ => rfl) K.hlk
  refine ⟨_, _, ?_, hrun, hended, _, _, rfl, ⟨K.fr, ?_, ?_⟩, ⟨_, rfl⟩, hW, hsame.mono hc hs⟩
  · exact K.X.returnOut K.hx (K.hret.trans hr) (hb K.hby hd) hr'
  · show Old Z n0 T.heap
    rw [K.eT]; exact K.old
  · show Q _ T.heap (Sfe Z EL T.vm T.heap)
    rw [K.eT]; exact hq _ fun _ _ _ => trivial
theorem k_ret (K : Wk p l e R s m args below meth c Z a0 EL n0 y bytes maxL ret b T h locs cells slots) {Q : Option Value → Heap → (Addr → Prop) → Prop} {t : FieldType} {v : Value} {i : Instr} (hd : decode bytes pc = .ok (i, 1)) (hr : ret = some t) (hn : narrow t v = v) (hi : (i = .ireturn ∧ (t = .int ∨ t = .boolean ∨ t = .byte ∨ t = .char ∨ t = .short) ∧ ∃ z, v = .int z) ∨ (i = .lreturn ∧ t = .long ∧ ∃ z, v = .long z) ∨ (i = .dreturn ∧ t = .double ∧ ∃ z, v = .double z) ∨ (i = .freturn ∧ t = .float ∧ ∃ z, v = .float z) ∨ (i = .areturn ∧ t.isReference = true ∧ v.isRef = true)) (hq : ∀ sf : Addr → Prop, (∀ x, x < h.size → Sfe Z EL b.vm h x → sf x) → Q (some v) h sf) (hc : cells ≤ R.cells) (hs : slots ≤ R.slots) : Goes p.tables e below (Fin Z EL s n0 R Q) (T.setTop (mkF m pc Ls (v :: st))) := by
  have e0 : b = s := K.bs
  subst e0
  obtain ⟨fs, hr', hrun, hended, hW, hsame⟩ := K.X.leave (v := some v) (fun h => by rw [K.hret, hr] at h; cases h) K.hlk
  refine ⟨_, _, ?_, hrun, hended, _, _, rfl, ⟨K.fr, ?_, ?_⟩, ⟨_, rfl⟩, hW, hsame.mono hc hs⟩
  · exact retOut K.X K.hx (K.hret.trans hr) hn hi (hb K.hby hd) hr'
  · show Old Z n0 T.heap
    rw [K.eT]; exact K.old
  · show Q _ T.heap (Sfe Z EL T.vm T.heap)
    rw [K.eT]; exact hq _ fun _ _ _ => trivial
theorem k_iret (K : Wk p l e R s m args below meth c Z a0 EL n0 y bytes maxL ret b T h locs cells slots) {Q : Option Value → Heap → (Addr → Prop) → Prop} {i : Int32} (hd : decode bytes pc = .ok (.ireturn, 1)) (hr : ret = some .int) (hq : ∀ sf : Addr → Prop, (∀ x, x < h.size → Sfe Z EL b.vm h x → sf x) → Q (some (.int i)) h sf) (hc : cells ≤ R.cells) (hs : slots ≤ R.slots) : Goes p.tables e below (Fin Z EL s n0 R Q) (T.setTop (mkF m pc Ls (.int i :: st))) := k_ret K hd hr rfl (Or.inl ⟨rfl, Or.inl rfl, i, rfl⟩) hq hc hs
theorem k_lret (K : Wk p l e R s m args below meth c Z a0 EL n0 y bytes maxL ret b T h locs cells slots) {Q : Option Value → Heap → (Addr → Prop) → Prop} {i : Int64} (hd : decode bytes pc = .ok (.lreturn, 1)) (hr : ret = some .long) (hq : ∀ sf : Addr → Prop, (∀ x, x < h.size → Sfe Z EL b.vm h x → sf x) → Q (some (.long i)) h sf) (hc : cells ≤ R.cells) (hs : slots ≤ R.slots) : Goes p.tables e below (Fin Z EL s n0 R Q) (T.setTop (mkF m pc Ls (.long i :: st))) := k_ret K hd hr rfl (Or.inr (Or.inl ⟨rfl, rfl, i, rfl⟩)) hq hc hs
theorem k_aret (K : Wk p l e R s m args below meth c Z a0 EL n0 y bytes maxL ret b T h locs cells slots) {Q : Option Value → Heap → (Addr → Prop) → Prop} {v : Value} {t : FieldType} (hd : decode bytes pc = .ok (.areturn, 1)) (hr : ret = some t) (ht : t.isReference = true) (hv : v.isRef = true) (hq : ∀ sf : Addr → Prop, (∀ x, x < h.size → Sfe Z EL b.vm h x → sf x) → Q (some v) h sf) (hc : cells ≤ R.cells) (hs : slots ≤ R.slots) : Goes p.tables e below (Fin Z EL s n0 R Q) (T.setTop (mkF m pc Ls (v :: st))) := k_ret K hd hr (by cases t <;> first | rfl | cases ht) (Or.inr (Or.inr (Or.inr (Or.inr ⟨rfl, ht, hv⟩)))) hq hc hs
theorem k_nret (K : Wk p l e R s m args below meth c Z a0 EL n0 y bytes maxL ret b T h locs cells slots) {Q : Option Value → Heap → (Addr → Prop) → Prop} {i : Int32} {t : FieldType} (hd : decode bytes pc = .ok (.ireturn, 1)) (hr : ret = some t) (ht : t = .boolean ∨ t = .byte ∨ t = .char ∨ t = .short) (hn : narrow t (.int i) = .int i) (hq : ∀ sf : Addr → Prop, (∀ x, x < h.size → Sfe Z EL b.vm h x → sf x) → Q (some (.int i)) h sf) (hc : cells ≤ R.cells) (hs : slots ≤ R.slots) : Goes p.tables e below (Fin Z EL s n0 R Q) (T.setTop (mkF m pc Ls (.int i :: st))) := k_ret K hd hr hn (Or.inl ⟨rfl, Or.inr ht, i, rfl⟩) hq hc hs
def Pu (w : Option Value) (h : Heap) (v : Option Value) (h' : Heap) (_ : Addr → Prop) : Prop := v = w ∧ h' = h
theorem own_met {yy : MethodName} {yb : ByteArray} {yml : Nat} {yret : Option FieldType} {rm : Room} {as' : Array Value} {SP : List Addr} {Q : Option Value → Heap → (Addr → Prop) → Prop} (C : Ct l Z EL n0 yy yb yml yret rm as' h SP Q) : MetFree l yy (head1 [Cond.code yy yb yml yret] rm) (fun a U => a = as' ∧ Z.Warmed39 U.vm ∧ U.heap = h) (fun _ _ _ _ _ => True) (fun _ U o U' => ∃ v L, o = .returned v ∧ (Fr n0 L ∧ Old Z n0 U'.heap ∧ Q v U'.heap (fun _ => True)) ∧ FrameEnd U o U' L rm.cells rm.slots) := fun p e ha hc hk s m args below hf happ hP hK => C [] p e ha hc hk s m args below hf happ ⟨hP.1, hP.2.1, hP.2.2, fun _ _ => trivial⟩ hK
theorem k_static (K : Wk p l e R s m args below meth c Z a0 EL n0 y bytes maxL ret b T h locs cells slots) {i : Nat} {yy : MethodName} {yb : ByteArray} {yml : Nat} {yret : Option FieldType} {rm : Room} {SP : List Addr} {Q : Option Value → Heap → (Addr → Prop) → Prop} {ps : List FieldType} {r : Option FieldType} (argsL rest : List Value) (W : Nat) (wl : (Cond.methodLink y.cls i yy).before a0 Z = true) (ws : (Cond.static yy).before a0 Z = true) (wz : (Cond.initialized yy.cls).before a0 Z = true) (wc : (Cond.code yy yb yml yret).before a0 Z = true) (hy : yy.cls ≠ "java/lang/invoke/MethodHandle" ∧ yy.cls ≠ "java/lang/invoke/VarHandle") (hpd : parseMethodDescriptor yy.desc = some ⟨ps, r⟩) (C : Ct l Z EL n0 yy yb yml yret rm argsL.toArray h SP Q) (hd : decode bytes pc = .ok (.invokestatic i, 3)) (hSP : ∀ x ∈ SP, x < h.size ∧ Sfe Z EL b.vm h x) (hp : pc + 3 = pc') (hsz : Ls.size = maxL) (hlen : argsL.length = ps.length) (hst : st = argsL.reverse ++ rest) (hW : (rest.map fun v => v.category).sum ≤ W) (hfr : rm.frames + 1 ≤ R.frames) (hlo : W + (yml + 11) + rm.locals ≤ R.locals) (hce : cells + rm.cells ≤ R.cells) (hsl : slots + rm.slots ≤ R.slots) (k : ∀ b' T' h' locs' v, Wk p l e R s m args below meth c Z a0 EL n0 y bytes maxL ret b' T' h' locs' (cells + rm.cells) (slots + rm.slots) → (∀ x, x < h.size → Sfe Z EL b.vm h x → Sfe Z EL b'.vm h' x) → Q v h' (Sfe Z EL b'.vm h') → Goes p.tables e below P (T'.setTop (mkF m pc' Ls (v.toList ++ rest)))) : Goes p.tables e below P (T.setTop (mkF m pc Ls st)) := by
  subst hp
  obtain ⟨v, _, ⟨T', L', c', n'⟩, -, X', ⟨Lc, ⟨hF, hO', hQ⟩, l', y', z'⟩, q⟩ := Jvm.LawKit.callS K.X K.hx (y := yy) K.hown (mvT K.hZ wl) (mvT K.hZ ws) (mvT K.hZ wz) (mvT K.hZ wc) hy (backOf (Q := fun v hh L => Fr n0 L ∧ Old Z n0 hh ∧ Q v hh (fun _ => True)) (W := W) (own_met C) K.hZ wc wz hfr hlo) (g := mkF m pc Ls st) rfl (hsz.trans K.hml.symm) (argsL := argsL) (rest := rest) (lenOf hpd hlen) hst (by show 2 * 0 + _ ≤ _; rw [Nat.mul_zero, Nat.zero_add]; exact hW) (hb K.hby hd) (fun _ _ => ⟨rfl, K.eT, hce, hsl⟩)
  dsimp only [Pt.U, Pt.locs, Pt.cells, Pt.slots] at X' l' y' z' q hQ hO'
  subst l' y' z'
  exact go q (k _ _ _ _ _ (K.move X' rfl (K.fr.app hF) hO' K.bs) (fun _ _ _ => trivial) hQ)
theorem k_staticP (K : Wk p l e R s m args below meth c Z a0 EL n0 y bytes maxL ret b T h locs cells slots) {i : Nat} {yy : MethodName} {yb : ByteArray} {yml : Nat} {yret : Option FieldType} {rm : Room} {SP : List Addr} {ps : List FieldType} {r : Option FieldType} (argsL rest : List Value) (W : Nat) (wl : (Cond.methodLink y.cls i yy).before a0 Z = true) (ws : (Cond.static yy).before a0 Z = true) (wz : (Cond.initialized yy.cls).before a0 Z = true) (wc : (Cond.code yy yb yml yret).before a0 Z = true) (hy : yy.cls ≠ "java/lang/invoke/MethodHandle" ∧ yy.cls ≠ "java/lang/invoke/VarHandle") (hpd : parseMethodDescriptor yy.desc = some ⟨ps, r⟩) {vv : Option Value} (C : Ct l Z EL n0 yy yb yml yret rm argsL.toArray h SP (Pu vv h)) (hd : decode bytes pc = .ok (.invokestatic i, 3)) (hSP : ∀ x ∈ SP, x < h.size ∧ Sfe Z EL b.vm h x) (hp : pc + 3 = pc') (hsz : Ls.size = maxL) (hlen : argsL.length = ps.length) (hst : st = argsL.reverse ++ rest) (hW : (rest.map fun v => v.category).sum ≤ W) (hfr : rm.frames + 1 ≤ R.frames) (hlo : W + (yml + 11) + rm.locals ≤ R.locals) (hce : cells + rm.cells ≤ R.cells) (hsl : slots + rm.slots ≤ R.slots) (k : ∀ b' T' locs', Wk p l e R s m args below meth c Z a0 EL n0 y bytes maxL ret b' T' h locs' (cells + rm.cells) (slots + rm.slots) → (∀ x, x < h.size → Sfe Z EL b.vm h x → Sfe Z EL b'.vm h x) → Goes p.tables e below P (T'.setTop (mkF m pc' Ls (vv.toList ++ rest)))) : Goes p.tables e below P (T.setTop (mkF m pc Ls st)) := k_static K argsL rest W wl ws wz wc hy hpd C hd hSP hp hsz hlen hst hW hfr hlo hce hsl (fun b' T' h' locs' v K' tr q => by obtain ⟨rfl, rfl⟩ := q; exact k _ _ _ K' tr)
theorem k_special (K : Wk p l e R s m args below meth c Z a0 EL n0 y bytes maxL ret b T h locs cells slots) {i : Nat} {yy : MethodName} {yb : ByteArray} {yml : Nat} {yret : Option FieldType} {rm : Room} {SP : List Addr} {Q : Option Value → Heap → (Addr → Prop) → Prop} {ps : List FieldType} {r : Option FieldType} (argsL rest : List Value) (W : Nat) {a : Addr} (wl : (Cond.methodLink y.cls i yy).before a0 Z = true) (wi : (Cond.instanceMethod yy).before a0 Z = true) (wz : (Cond.initialized yy.cls).before a0 Z = true) (wc : (Cond.code yy yb yml yret).before a0 Z = true) (hin : yy.name = "<init>") (hnr : yret = none) (hy : yy.cls ≠ "java/lang/invoke/MethodHandle" ∧ yy.cls ≠ "java/lang/invoke/VarHandle") (hpd : parseMethodDescriptor yy.desc = some ⟨ps, r⟩) (C : Ct l Z EL n0 yy yb yml yret rm (.ref a :: argsL).toArray h SP Q) (hd : decode bytes pc = .ok (.invokespecial i, 3)) (hSP : ∀ x ∈ SP, x < h.size ∧ Sfe Z EL b.vm h x) (hp : pc + 3 = pc') (hsz : Ls.size = maxL) (hlen : argsL.length = ps.length) (hst : st = argsL.reverse ++ .ref a :: rest) (hW : (rest.map fun v => v.category).sum ≤ W) (hfr : rm.frames + 1 ≤ R.frames) (hlo : W + (yml + 11) + rm.locals ≤ R.locals) (hce : cells + rm.cells ≤ R.cells) (hsl : slots + rm.slots ≤ R.slots) (k : ∀ b' T' h' locs' v, Wk p l e R s m args below meth c Z a0 EL n0 y bytes maxL ret b' T' h' locs' (cells + rm.cells) (slots + rm.slots) → (∀ x, x < h.size → Sfe Z EL b.vm h x → Sfe Z EL b'.vm h' x) → Q v h' (Sfe Z EL b'.vm h') → Goes p.tables e below P (T'.setTop (mkF m pc' Ls (v.toList ++ rest)))) : Goes p.tables e below P (T.setTop (mkF m pc Ls st)) := by
  subst hp
  subst hnr
  obtain ⟨v, _, ⟨T', L', c', n'⟩, -, X', ⟨Lc, ⟨hF, hO', hQ⟩, l', y', z'⟩, q⟩ := K.X.specialBack K.hx (y := yy) hin K.hown (mvT K.hZ wl) (mvT K.hZ wi) (mvT K.hZ wc) hy (backOf (Q := fun v hh L => Fr n0 L ∧ Old Z n0 hh ∧ Q v hh (fun _ => True)) (W := W) (own_met C) K.hZ wc wz hfr hlo) (g := mkF m pc Ls st) rfl (hsz.trans K.hml.symm) (Steps.refl _) (a := a) (argsL := argsL) (rest := rest) (lenOf hpd hlen) hst (by show 2 * 0 + _ ≤ _; rw [Nat.mul_zero, Nat.zero_add]; exact hW) (hb K.hby hd) (fun _ _ => ⟨rfl, K.eT, hce, hsl⟩)
  dsimp only [Pt.U, Pt.locs, Pt.cells, Pt.slots] at X' l' y' z' q hQ hO'
  subst l' y' z'
  exact go (fun _ z => q.trans z) (k _ _ _ _ _ (K.move X' rfl (K.fr.app hF) hO' K.bs) (fun _ _ _ => trivial) hQ)
theorem k_specialP (K : Wk p l e R s m args below meth c Z a0 EL n0 y bytes maxL ret b T h locs cells slots) {i : Nat} {yy : MethodName} {yb : ByteArray} {yml : Nat} {yret : Option FieldType} {rm : Room} {SP : List Addr} {ps : List FieldType} {r : Option FieldType} (argsL rest : List Value) (W : Nat) {a : Addr} (wl : (Cond.methodLink y.cls i yy).before a0 Z = true) (wi : (Cond.instanceMethod yy).before a0 Z = true) (wz : (Cond.initialized yy.cls).before a0 Z = true) (wc : (Cond.code yy yb yml yret).before a0 Z = true) (hin : yy.name = "<init>") (hnr : yret = none) (hy : yy.cls ≠ "java/lang/invoke/MethodHandle" ∧ yy.cls ≠ "java/lang/invoke/VarHandle") (hpd : parseMethodDescriptor yy.desc = some ⟨ps, r⟩) {vv : Option Value} (C : Ct l Z EL n0 yy yb yml yret rm (.ref a :: argsL).toArray h SP (Pu vv h)) (hd : decode bytes pc = .ok (.invokespecial i, 3)) (hSP : ∀ x ∈ SP, x < h.size ∧ Sfe Z EL b.vm h x) (hp : pc + 3 = pc') (hsz : Ls.size = maxL) (hlen : argsL.length = ps.length) (hst : st = argsL.reverse ++ .ref a :: rest) (hW : (rest.map fun v => v.category).sum ≤ W) (hfr : rm.frames + 1 ≤ R.frames) (hlo : W + (yml + 11) + rm.locals ≤ R.locals) (hce : cells + rm.cells ≤ R.cells) (hsl : slots + rm.slots ≤ R.slots) (k : ∀ b' T' locs', Wk p l e R s m args below meth c Z a0 EL n0 y bytes maxL ret b' T' h locs' (cells + rm.cells) (slots + rm.slots) → (∀ x, x < h.size → Sfe Z EL b.vm h x → Sfe Z EL b'.vm h x) → Goes p.tables e below P (T'.setTop (mkF m pc' Ls (vv.toList ++ rest)))) : Goes p.tables e below P (T.setTop (mkF m pc Ls st)) := k_special K argsL rest W wl wi wz wc hin hnr hy hpd C hd hSP hp hsz hlen hst hW hfr hlo hce hsl (fun b' T' h' locs' v K' tr q => by obtain ⟨rfl, rfl⟩ := q; exact k _ _ _ K' tr)
theorem k_virtual (K : Wk p l e R s m args below meth c Z a0 EL n0 y bytes maxL ret b T h locs cells slots) {i : Nat} {yy : MethodName} {yb : ByteArray} {yml : Nat} {yret : Option FieldType} {rm : Room} {SP : List Addr} {Q : Option Value → Heap → (Addr → Prop) → Prop} {ps : List FieldType} {r : Option FieldType} (argsL rest : List Value) (W : Nat) {a : Addr} {C0 : String} {yv : MethodName} (wl : (Cond.methodLink y.cls i yv).before a0 Z = true) (wd : (Cond.declares yv).before a0 Z = true) (wi : (Cond.instanceMethod yy).before a0 Z = true) (wse : (Cond.selects C0 yv yy).before a0 Z = true) (wz : (Cond.initialized yy.cls).before a0 Z = true) (wc : (Cond.code yy yb yml yret).before a0 Z = true) (hnf : NotFace b yv) (hvd : yv.desc = yy.desc) (hyv : yv.cls ≠ "java/lang/invoke/MethodHandle" ∧ yv.cls ≠ "java/lang/invoke/VarHandle") (E : Exa Z h a C0) (hy : yy.cls ≠ "java/lang/invoke/MethodHandle" ∧ yy.cls ≠ "java/lang/invoke/VarHandle") (hpd : parseMethodDescriptor yy.desc = some ⟨ps, r⟩) (C : Ct l Z EL n0 yy yb yml yret rm (.ref a :: argsL).toArray h SP Q) (hd : decode bytes pc = .ok (.invokevirtual i, 3)) (hSP : ∀ x ∈ SP, x < h.size ∧ Sfe Z EL b.vm h x) (hp : pc + 3 = pc') (hsz : Ls.size = maxL) (hlen : argsL.length = ps.length) (hst : st = argsL.reverse ++ .ref a :: rest) (hW : (rest.map fun v => v.category).sum ≤ W) (hfr : rm.frames + 1 ≤ R.frames) (hlo : W + (yml + 11) + rm.locals ≤ R.locals) (hce : cells + rm.cells ≤ R.cells) (hsl : slots + rm.slots ≤ R.slots) (k : ∀ b' T' h' locs' v, Wk p l e R s m args below meth c Z a0 EL n0 y bytes maxL ret b' T' h' locs' (cells + rm.cells) (slots + rm.slots) → (∀ x, x < h.size → Sfe Z EL b.vm h x → Sfe Z EL b'.vm h' x) → Q v h' (Sfe Z EL b'.vm h') → Goes p.tables e below P (T'.setTop (mkF m pc' Ls (v.toList ++ rest)))) : Goes p.tables e below P (T.setTop (mkF m pc Ls st)) := by
  subst hp
  obtain ⟨cq, kq, qa, qb, qc⟩ := isOf K.hZ K.eT E
  obtain ⟨v, _, ⟨T', L', c', n'⟩, -, X', ⟨Lc, ⟨hF, hO', hQ⟩, l', y', z'⟩, q⟩ := K.X.virtualBack K.hx (y := yv) (z := yy) K.hown (mvT K.hZ wl) (mvT K.hZ wd) hnf (mvT K.hZ wse) (mvT K.hZ wi) hyv (backOf (Q := fun v hh L => Fr n0 L ∧ Old Z n0 hh ∧ Q v hh (fun _ => True)) (W := W) (own_met C) K.hZ wc wz hfr hlo) qa qc (g := mkF m pc Ls st) rfl (hsz.trans K.hml.symm) (Steps.refl _) (argsL := argsL) (rest := rest) (lenOf (hvd ▸ hpd) hlen) hst (by show 2 * 0 + _ ≤ _; rw [Nat.mul_zero, Nat.zero_add]; exact hW) (hb K.hby hd) (fun _ _ => ⟨rfl, K.eT, hce, hsl⟩)
  dsimp only [Pt.U, Pt.locs, Pt.cells, Pt.slots] at X' l' y' z' q hQ hO'
  subst l' y' z'
  exact go (fun _ z => q.trans z) (k _ _ _ _ _ (K.move X' rfl (K.fr.app hF) hO' K.bs) (fun _ _ _ => trivial) hQ)
theorem k_virtualP (K : Wk p l e R s m args below meth c Z a0 EL n0 y bytes maxL ret b T h locs cells slots) {i : Nat} {yy : MethodName} {yb : ByteArray} {yml : Nat} {yret : Option FieldType} {rm : Room} {SP : List Addr} {ps : List FieldType} {r : Option FieldType} (argsL rest : List Value) (W : Nat) {a : Addr} {C0 : String} {yv : MethodName} (wl : (Cond.methodLink y.cls i yv).before a0 Z = true) (wd : (Cond.declares yv).before a0 Z = true) (wi : (Cond.instanceMethod yy).before a0 Z = true) (wse : (Cond.selects C0 yv yy).before a0 Z = true) (wz : (Cond.initialized yy.cls).before a0 Z = true) (wc : (Cond.code yy yb yml yret).before a0 Z = true) (hnf : NotFace b yv) (hvd : yv.desc = yy.desc) (hyv : yv.cls ≠ "java/lang/invoke/MethodHandle" ∧ yv.cls ≠ "java/lang/invoke/VarHandle") (E : Exa Z h a C0) (hy : yy.cls ≠ "java/lang/invoke/MethodHandle" ∧ yy.cls ≠ "java/lang/invoke/VarHandle") (hpd : parseMethodDescriptor yy.desc = some ⟨ps, r⟩) {vv : Option Value} (C : Ct l Z EL n0 yy yb yml yret rm (.ref a :: argsL).toArray h SP (Pu vv h)) (hd : decode bytes pc = .ok (.invokevirtual i, 3)) (hSP : ∀ x ∈ SP, x < h.size ∧ Sfe Z EL b.vm h x) (hp : pc + 3 = pc') (hsz : Ls.size = maxL) (hlen : argsL.length = ps.length) (hst : st = argsL.reverse ++ .ref a :: rest) (hW : (rest.map fun v => v.category).sum ≤ W) (hfr : rm.frames + 1 ≤ R.frames) (hlo : W + (yml + 11) + rm.locals ≤ R.locals) (hce : cells + rm.cells ≤ R.cells) (hsl : slots + rm.slots ≤ R.slots) (k : ∀ b' T' locs', Wk p l e R s m args below meth c Z a0 EL n0 y bytes maxL ret b' T' h locs' (cells + rm.cells) (slots + rm.slots) → (∀ x, x < h.size → Sfe Z EL b.vm h x → Sfe Z EL b'.vm h x) → Goes p.tables e below P (T'.setTop (mkF m pc' Ls (vv.toList ++ rest)))) : Goes p.tables e below P (T.setTop (mkF m pc Ls st)) := k_virtual K argsL rest W wl wd wi wse wz wc hnf hvd hyv E hy hpd C hd hSP hp hsz hlen hst hW hfr hlo hce hsl (fun b' T' h' locs' v K' tr q => by obtain ⟨rfl, rfl⟩ := q; exact k _ _ _ K' tr)
theorem own_sel {args args' : Array Value} {C0 : String} {yv yy : MethodName} (w : (Cond.selects C0 yv yy).before args b = true) : (Cond.selects C0 yv yy).before args' b = true := mvT (State.Warmed39.refl b) w
theorem own_priv (K : Wk p l e R s m args below meth c Z a0 EL n0 y bytes maxL ret b T h locs cells slots) {C0 : String} {n : Nat} {yy : MethodName} (hc0 : C0 = yy.cls) (wi : (Cond.instantiable C0 n).before a0 Z = true) (wim : (Cond.instanceMethod yy).before a0 Z = true) (wpr : (Cond.privateMethod yy).before a0 Z = true) (hy : yy.cls ≠ "java/lang/invoke/MethodHandle" ∧ yy.cls ≠ "java/lang/invoke/VarHandle") : (Cond.selects yy.cls yy yy).before a0 b = true := by
  subst hc0
  have q : (Cond.instantiable yy.cls n).before a0 b = true := mvT K.hZ wi
  obtain ⟨c, k, h1, h2, h3, h4, -⟩ := Cond.instantiable_spec q
  simp only [Bool.or_eq_false_iff] at h4
  exact selects_self_of_private h1 h2 h4.1 (Cond.privateMethod_at (mvP K.hZ wpr (args := #[]))) (mvT K.hZ wim) hy
theorem k_private (K : Wk p l e R s m args below meth c Z a0 EL n0 y bytes maxL ret b T h locs cells slots) {i : Nat} {yy : MethodName} {yb : ByteArray} {yml : Nat} {yret : Option FieldType} {rm : Room} {SP : List Addr} {Q : Option Value → Heap → (Addr → Prop) → Prop} {ps : List FieldType} {r : Option FieldType} (argsL rest : List Value) (W : Nat) {a : Addr} {C0 : String} (wl : (Cond.methodLink y.cls i yy).before a0 Z = true) (wi : (Cond.instanceMethod yy).before a0 Z = true) (wse : (Cond.selects yy.cls yy yy).before a0 b = true) (wpr : (Cond.privateMethod yy).before a0 Z = true) (wz : (Cond.initialized yy.cls).before a0 Z = true) (wc : (Cond.code yy yb yml yret).before a0 Z = true) (E : Exa Z h a C0) (hy : yy.cls ≠ "java/lang/invoke/MethodHandle" ∧ yy.cls ≠ "java/lang/invoke/VarHandle") (hpd : parseMethodDescriptor yy.desc = some ⟨ps, r⟩) (C : Ct l Z EL n0 yy yb yml yret rm (.ref a :: argsL).toArray h SP Q) (hd : decode bytes pc = .ok (.invokevirtual i, 3)) (hSP : ∀ x ∈ SP, x < h.size ∧ Sfe Z EL b.vm h x) (hp : pc + 3 = pc') (hsz : Ls.size = maxL) (hlen : argsL.length = ps.length) (hst : st = argsL.reverse ++ .ref a :: rest) (hW : (rest.map fun v => v.category).sum ≤ W) (hfr : rm.frames + 1 ≤ R.frames) (hlo : W + (yml + 11) + rm.locals ≤ R.locals) (hce : cells + rm.cells ≤ R.cells) (hsl : slots + rm.slots ≤ R.slots) (k : ∀ b' T' h' locs' v, Wk p l e R s m args below meth c Z a0 EL n0 y bytes maxL ret b' T' h' locs' (cells + rm.cells) (slots + rm.slots) → (∀ x, x < h.size → Sfe Z EL b.vm h x → Sfe Z EL b'.vm h' x) → Q v h' (Sfe Z EL b'.vm h') → Goes p.tables e below P (T'.setTop (mkF m pc' Ls (v.toList ++ rest)))) : Goes p.tables e below P (T.setTop (mkF m pc Ls st)) := by
  subst hp
  obtain ⟨cq, qa, qb⟩ := E.cell
  obtain ⟨v, _, ⟨T', L', c', n'⟩, -, X', ⟨Lc, ⟨hF, hO', hQ⟩, l', y', z'⟩, q⟩ := K.X.privateBack K.hx (y := yy) K.hown (mvT K.hZ wl) (mvT K.hZ wi) (own_sel wse) (Cond.privateMethod_at (mvP K.hZ wpr (args := #[]))) (mvT K.hZ wc) hy (backOf (Q := fun v hh L => Fr n0 L ∧ Old Z n0 hh ∧ Q v hh (fun _ => True)) (W := W) (own_met C) K.hZ wc wz hfr hlo) (g := mkF m pc Ls st) rfl (hsz.trans K.hml.symm) (Steps.refl _) (a := a) (by rw [K.eT]; exact qa) qb (argsL := argsL) (rest := rest) (lenOf hpd hlen) hst (by show 2 * 0 + _ ≤ _; rw [Nat.mul_zero, Nat.zero_add]; exact hW) (hb K.hby hd) (fun _ _ => ⟨rfl, K.eT, hce, hsl⟩)
  dsimp only [Pt.U, Pt.locs, Pt.cells, Pt.slots] at X' l' y' z' q hQ hO'
  subst l' y' z'
  exact go (fun _ z => q.trans z) (k _ _ _ _ _ (K.move X' rfl (K.fr.app hF) hO' K.bs) (fun _ _ _ => trivial) hQ)
theorem k_privateP (K : Wk p l e R s m args below meth c Z a0 EL n0 y bytes maxL ret b T h locs cells slots) {i : Nat} {yy : MethodName} {yb : ByteArray} {yml : Nat} {yret : Option FieldType} {rm : Room} {SP : List Addr} {ps : List FieldType} {r : Option FieldType} (argsL rest : List Value) (W : Nat) {a : Addr} {C0 : String} (wl : (Cond.methodLink y.cls i yy).before a0 Z = true) (wi : (Cond.instanceMethod yy).before a0 Z = true) (wse : (Cond.selects yy.cls yy yy).before a0 b = true) (wpr : (Cond.privateMethod yy).before a0 Z = true) (wz : (Cond.initialized yy.cls).before a0 Z = true) (wc : (Cond.code yy yb yml yret).before a0 Z = true) (E : Exa Z h a C0) (hy : yy.cls ≠ "java/lang/invoke/MethodHandle" ∧ yy.cls ≠ "java/lang/invoke/VarHandle") (hpd : parseMethodDescriptor yy.desc = some ⟨ps, r⟩) {vv : Option Value} (C : Ct l Z EL n0 yy yb yml yret rm (.ref a :: argsL).toArray h SP (Pu vv h)) (hd : decode bytes pc = .ok (.invokevirtual i, 3)) (hSP : ∀ x ∈ SP, x < h.size ∧ Sfe Z EL b.vm h x) (hp : pc + 3 = pc') (hsz : Ls.size = maxL) (hlen : argsL.length = ps.length) (hst : st = argsL.reverse ++ .ref a :: rest) (hW : (rest.map fun v => v.category).sum ≤ W) (hfr : rm.frames + 1 ≤ R.frames) (hlo : W + (yml + 11) + rm.locals ≤ R.locals) (hce : cells + rm.cells ≤ R.cells) (hsl : slots + rm.slots ≤ R.slots) (k : ∀ b' T' locs', Wk p l e R s m args below meth c Z a0 EL n0 y bytes maxL ret b' T' h locs' (cells + rm.cells) (slots + rm.slots) → (∀ x, x < h.size → Sfe Z EL b.vm h x → Sfe Z EL b'.vm h x) → Goes p.tables e below P (T'.setTop (mkF m pc' Ls (vv.toList ++ rest)))) : Goes p.tables e below P (T.setTop (mkF m pc Ls st)) := k_private K argsL rest W wl wi wse wpr wz wc E hy hpd C hd hSP hp hsz hlen hst hW hfr hlo hce hsl (fun b' T' h' locs' v K' tr q => by obtain ⟨rfl, rfl⟩ := q; exact k _ _ _ K' tr)
theorem k_interface (K : Wk p l e R s m args below meth c Z a0 EL n0 y bytes maxL ret b T h locs cells slots) {i : Nat} {yy : MethodName} {yb : ByteArray} {yml : Nat} {yret : Option FieldType} {rm : Room} {SP : List Addr} {Q : Option Value → Heap → (Addr → Prop) → Prop} {ps : List FieldType} {r : Option FieldType} (argsL rest : List Value) (W : Nat) {a : Addr} {C0 : String} {yv : MethodName} {cnt : Nat} (wl : (Cond.methodLink y.cls i yv).before a0 Z = true) (wd : (Cond.declares yv).before a0 Z = true) (wf : (Cond.interfaceMethod yv.cls yv.cls yv.name yv.desc).before args b = true) (wse : (Cond.selects C0 yv yy).before a0 Z = true) (wi : (Cond.instanceMethod yy).before a0 Z = true) (wpu : (Cond.publicMethod yy).before a0 Z = true) (wun : (Cond.unhidden C0 yv.name yv.desc).before a0 Z = true) (wca : (Cond.castable C0 yv.cls).before a0 Z = true) (wz : (Cond.initialized yy.cls).before a0 Z = true) (wc : (Cond.code yy yb yml yret).before a0 Z = true) (hvd : yv.desc = yy.desc) (hyv : yv.cls ≠ "java/lang/invoke/MethodHandle" ∧ yv.cls ≠ "java/lang/invoke/VarHandle") (E : Exa Z h a C0) (hy : yy.cls ≠ "java/lang/invoke/MethodHandle" ∧ yy.cls ≠ "java/lang/invoke/VarHandle") (hpd : parseMethodDescriptor yy.desc = some ⟨ps, r⟩) (C : Ct l Z EL n0 yy yb yml yret rm (.ref a :: argsL).toArray h SP Q) (hd : decode bytes pc = .ok (.invokeinterface i cnt, 5)) (hSP : ∀ x ∈ SP, x < h.size ∧ Sfe Z EL b.vm h x) (hp : pc + 5 = pc') (hsz : Ls.size = maxL) (hlen : argsL.length = ps.length) (hst : st = argsL.reverse ++ .ref a :: rest) (hW : (rest.map fun v => v.category).sum ≤ W) (hfr : rm.frames + 1 ≤ R.frames) (hlo : W + (yml + 11) + rm.locals ≤ R.locals) (hce : cells + rm.cells ≤ R.cells) (hsl : slots + rm.slots ≤ R.slots) (k : ∀ b' T' h' locs' v, Wk p l e R s m args below meth c Z a0 EL n0 y bytes maxL ret b' T' h' locs' (cells + rm.cells) (slots + rm.slots) → (∀ x, x < h.size → Sfe Z EL b.vm h x → Sfe Z EL b'.vm h' x) → Q v h' (Sfe Z EL b'.vm h') → Goes p.tables e below P (T'.setTop (mkF m pc' Ls (v.toList ++ rest)))) : Goes p.tables e below P (T.setTop (mkF m pc Ls st)) := by
  subst hp
  obtain ⟨cq, kq, qa, qb, qc⟩ := isOf K.hZ K.eT E
  obtain ⟨v, _, ⟨T', L', c', n'⟩, -, X', ⟨Lc, ⟨hF, hO', hQ⟩, l', y', z'⟩, q⟩ := K.X.interfaceBack K.hx (xi := yv) (y := yy) K.hown (mvT K.hZ wl) (mvT K.hZ wd) wf (mvT K.hZ wse) (mvT K.hZ wi) (mvT K.hZ wpu) (mvT K.hZ wun) (mvT K.hZ wca) hyv (backOf (Q := fun v hh L => Fr n0 L ∧ Old Z n0 hh ∧ Q v hh (fun _ => True)) (W := W) (own_met C) K.hZ wc wz hfr hlo) qa qb qc (g := mkF m pc Ls st) rfl (hsz.trans K.hml.symm) (Steps.refl _) (argsL := argsL) (rest := rest) (lenOf (hvd ▸ hpd) hlen) hst (by show 2 * 0 + _ ≤ _; rw [Nat.mul_zero, Nat.zero_add]; exact hW) (hb K.hby hd) (fun _ _ => ⟨rfl, K.eT, hce, hsl⟩)
  dsimp only [Pt.U, Pt.locs, Pt.cells, Pt.slots] at X' l' y' z' q hQ hO'
  subst l' y' z'
  exact go (fun _ z => q.trans z) (k _ _ _ _ _ (K.move X' rfl (K.fr.app hF) hO' K.bs) (fun _ _ _ => trivial) hQ)
theorem k_interfaceP (K : Wk p l e R s m args below meth c Z a0 EL n0 y bytes maxL ret b T h locs cells slots) {i : Nat} {yy : MethodName} {yb : ByteArray} {yml : Nat} {yret : Option FieldType} {rm : Room} {SP : List Addr} {ps : List FieldType} {r : Option FieldType} (argsL rest : List Value) (W : Nat) {a : Addr} {C0 : String} {yv : MethodName} {cnt : Nat} (wl : (Cond.methodLink y.cls i yv).before a0 Z = true) (wd : (Cond.declares yv).before a0 Z = true) (wf : (Cond.interfaceMethod yv.cls yv.cls yv.name yv.desc).before args b = true) (wse : (Cond.selects C0 yv yy).before a0 Z = true) (wi : (Cond.instanceMethod yy).before a0 Z = true) (wpu : (Cond.publicMethod yy).before a0 Z = true) (wun : (Cond.unhidden C0 yv.name yv.desc).before a0 Z = true) (wca : (Cond.castable C0 yv.cls).before a0 Z = true) (wz : (Cond.initialized yy.cls).before a0 Z = true) (wc : (Cond.code yy yb yml yret).before a0 Z = true) (hvd : yv.desc = yy.desc) (hyv : yv.cls ≠ "java/lang/invoke/MethodHandle" ∧ yv.cls ≠ "java/lang/invoke/VarHandle") (E : Exa Z h a C0) (hy : yy.cls ≠ "java/lang/invoke/MethodHandle" ∧ yy.cls ≠ "java/lang/invoke/VarHandle") (hpd : parseMethodDescriptor yy.desc = some ⟨ps, r⟩) {vv : Option Value} (C : Ct l Z EL n0 yy yb yml yret rm (.ref a :: argsL).toArray h SP (Pu vv h)) (hd : decode bytes pc = .ok (.invokeinterface i cnt, 5)) (hSP : ∀ x ∈ SP, x < h.size ∧ Sfe Z EL b.vm h x) (hp : pc + 5 = pc') (hsz : Ls.size = maxL) (hlen : argsL.length = ps.length) (hst : st = argsL.reverse ++ .ref a :: rest) (hW : (rest.map fun v => v.category).sum ≤ W) (hfr : rm.frames + 1 ≤ R.frames) (hlo : W + (yml + 11) + rm.locals ≤ R.locals) (hce : cells + rm.cells ≤ R.cells) (hsl : slots + rm.slots ≤ R.slots) (k : ∀ b' T' locs', Wk p l e R s m args below meth c Z a0 EL n0 y bytes maxL ret b' T' h locs' (cells + rm.cells) (slots + rm.slots) → (∀ x, x < h.size → Sfe Z EL b.vm h x → Sfe Z EL b'.vm h x) → Goes p.tables e below P (T'.setTop (mkF m pc' Ls (vv.toList ++ rest)))) : Goes p.tables e below P (T.setTop (mkF m pc Ls st)) := k_interface K argsL rest W wl wd wf wse wi wpu wun wca wz wc hvd hyv E hy hpd C hd hSP hp hsz hlen hst hW hfr hlo hce hsl (fun b' T' h' locs' v K' tr q => by obtain ⟨rfl, rfl⟩ := q; exact k _ _ _ K' tr)
theorem k_initO (K : Wk p l e R s m args below meth c Z a0 EL n0 y bytes maxL ret b T h locs cells slots) {i : Nat} {a : Addr} (wl : (Cond.methodLink y.cls i Lib.objectInit).before a0 Z = true) (wi : (Cond.instanceMethod Lib.objectInit).before a0 Z = true) (wc : (Cond.code Lib.objectInit ⟨#[0xb1]⟩ 1 none).before a0 Z = true) (hd : decode bytes pc = .ok (.invokespecial i, 3)) (hp : pc + 3 = pc') (hsz : Ls.size = maxL) (hfr : 1 ≤ R.frames) (W : Nat) (hW : (st.map fun v => v.category).sum ≤ W) (hlo : W + 12 ≤ R.locals) (k : ∀ T', Wk p l e R s m args below meth c Z a0 EL n0 y bytes maxL ret b T' h locs cells slots → Goes p.tables e below P (T'.setTop (mkF m pc' Ls st))) : Goes p.tables e below P (T.setTop (mkF m pc Ls (.ref a :: st))) := by
  subst hp
  obtain ⟨T', X', e', q⟩ := initO K.X K.hx K.hZ K.hown wl wi wc K.eT (g := mkF m pc Ls (.ref a :: st)) rfl (hsz.trans K.hml.symm) rfl (hb K.hby hd) hfr (W := W) (by show 2 * 0 + _ ≤ _; rw [Nat.mul_zero, Nat.zero_add]; exact hW) hlo
  exact go q (k T' (K.move X' e' K.fr K.old K.bs))
end Own
abbrev Tb (a0 : Array Value) (Z : State) : Prop := ∀ d ∈ tables_1, d.before a0 Z = true
def Fm (Z : State) (h : Heap) (f : Nat → Addr) : Prop := (∀ i, i < 9 → Exa Z h (f i) "com/example/gerbang/gerbang/script/Command$Form") ∧ (∀ i j, i < 9 → j < 9 → i ≠ j → f i ≠ f j) ∧ Sta Z h "com/example/gerbang/gerbang/script/Command$Form" "NONE" "Lcom/example/gerbang/gerbang/script/Command$Form;" (.ref (f 0)) ∧ Sta Z h "com/example/gerbang/gerbang/script/Command$Form" "FILE" "Lcom/example/gerbang/gerbang/script/Command$Form;" (.ref (f 1)) ∧ Sta Z h "com/example/gerbang/gerbang/script/Command$Form" "CHIP_FILE" "Lcom/example/gerbang/gerbang/script/Command$Form;" (.ref (f 2)) ∧ Sta Z h "com/example/gerbang/gerbang/script/Command$Form" "PROGRAM_FILE" "Lcom/example/gerbang/gerbang/script/Command$Form;" (.ref (f 3)) ∧ Sta Z h "com/example/gerbang/gerbang/script/Command$Form" "COLUMNS" "Lcom/example/gerbang/gerbang/script/Command$Form;" (.ref (f 4)) ∧ Sta Z h "com/example/gerbang/gerbang/script/Command$Form" "PIN_AND_VALUE" "Lcom/example/gerbang/gerbang/script/Command$Form;" (.ref (f 5)) ∧ Sta Z h "com/example/gerbang/gerbang/script/Command$Form" "TEXT" "Lcom/example/gerbang/gerbang/script/Command$Form;" (.ref (f 6)) ∧ Sta Z h "com/example/gerbang/gerbang/script/Command$Form" "COUNT_AND_BLOCK" "Lcom/example/gerbang/gerbang/script/Command$Form;" (.ref (f 7)) ∧ Sta Z h "com/example/gerbang/gerbang/script/Command$Form" "CONDITION_AND_BLOCK" "Lcom/example/gerbang/gerbang/script/Command$Form;" (.ref (f 8))
theorem fm_0 {Z : State} {h : Heap} {f : Nat → Addr} (H : Fm Z h f) : Sta Z h "com/example/gerbang/gerbang/script/Command$Form" "NONE" "Lcom/example/gerbang/gerbang/script/Command$Form;" (.ref (f 0)) := H.2.2.1
theorem fm_1 {Z : State} {h : Heap} {f : Nat → Addr} (H : Fm Z h f) : Sta Z h "com/example/gerbang/gerbang/script/Command$Form" "FILE" "Lcom/example/gerbang/gerbang/script/Command$Form;" (.ref (f 1)) := H.2.2.2.1
theorem fm_2 {Z : State} {h : Heap} {f : Nat → Addr} (H : Fm Z h f) : Sta Z h "com/example/gerbang/gerbang/script/Command$Form" "CHIP_FILE" "Lcom/example/gerbang/gerbang/script/Command$Form;" (.ref (f 2)) := H.2.2.2.2.1
theorem fm_3 {Z : State} {h : Heap} {f : Nat → Addr} (H : Fm Z h f) : Sta Z h "com/example/gerbang/gerbang/script/Command$Form" "PROGRAM_FILE" "Lcom/example/gerbang/gerbang/script/Command$Form;" (.ref (f 3)) := H.2.2.2.2.2.1
theorem fm_4 {Z : State} {h : Heap} {f : Nat → Addr} (H : Fm Z h f) : Sta Z h "com/example/gerbang/gerbang/script/Command$Form" "COLUMNS" "Lcom/example/gerbang/gerbang/script/Command$Form;" (.ref (f 4)) := H.2.2.2.2.2.2.1
theorem fm_5 {Z : State} {h : Heap} {f : Nat → Addr} (H : Fm Z h f) : Sta Z h "com/example/gerbang/gerbang/script/Command$Form" "PIN_AND_VALUE" "Lcom/example/gerbang/gerbang/script/Command$Form;" (.ref (f 5)) := H.2.2.2.2.2.2.2.1
theorem fm_6 {Z : State} {h : Heap} {f : Nat → Addr} (H : Fm Z h f) : Sta Z h "com/example/gerbang/gerbang/script/Command$Form" "TEXT" "Lcom/example/gerbang/gerbang/script/Command$Form;" (.ref (f 6)) := H.2.2.2.2.2.2.2.2.1
theorem fm_7 {Z : State} {h : Heap} {f : Nat → Addr} (H : Fm Z h f) : Sta Z h "com/example/gerbang/gerbang/script/Command$Form" "COUNT_AND_BLOCK" "Lcom/example/gerbang/gerbang/script/Command$Form;" (.ref (f 7)) := H.2.2.2.2.2.2.2.2.2.1
theorem fm_8 {Z : State} {h : Heap} {f : Nat → Addr} (H : Fm Z h f) : Sta Z h "com/example/gerbang/gerbang/script/Command$Form" "CONDITION_AND_BLOCK" "Lcom/example/gerbang/gerbang/script/Command$Form;" (.ref (f 8)) := H.2.2.2.2.2.2.2.2.2.2
def pickN (i : Int32) : Nat := if i = 0 then 0 else if i = 1 then 1 else if i = 2 then 2 else if i = 3 then 3 else if i = 4 then 4 else if i = 5 then 5 else if i = 6 then 6 else if i = 7 then 7 else 8
theorem d_method_3_code_0 : decode method_3_code 0 = .ok (.iload_n 0, 1) := by decide +kernel
theorem d_method_3_code_1 : decode method_3_code 1 = .ok (.ifCond .ne 7, 3) := by decide +kernel
theorem d_method_3_code_8 : decode method_3_code 8 = .ok (.iload_n 0, 1) := by decide +kernel
theorem d_method_3_code_9 : decode method_3_code 9 = .ok (.iconst 1, 1) := by decide +kernel
theorem d_method_3_code_10 : decode method_3_code 10 = .ok (.if_icmp .ne 7, 3) := by decide +kernel
theorem d_method_3_code_17 : decode method_3_code 17 = .ok (.iload_n 0, 1) := by decide +kernel
theorem d_method_3_code_18 : decode method_3_code 18 = .ok (.iconst 2, 1) := by decide +kernel
theorem d_method_3_code_19 : decode method_3_code 19 = .ok (.if_icmp .ne 7, 3) := by decide +kernel
theorem d_method_3_code_26 : decode method_3_code 26 = .ok (.iload_n 0, 1) := by decide +kernel
theorem d_method_3_code_27 : decode method_3_code 27 = .ok (.iconst 3, 1) := by decide +kernel
theorem d_method_3_code_28 : decode method_3_code 28 = .ok (.if_icmp .ne 7, 3) := by decide +kernel
theorem d_method_3_code_35 : decode method_3_code 35 = .ok (.iload_n 0, 1) := by decide +kernel
theorem d_method_3_code_36 : decode method_3_code 36 = .ok (.iconst 4, 1) := by decide +kernel
theorem d_method_3_code_37 : decode method_3_code 37 = .ok (.if_icmp .ne 7, 3) := by decide +kernel
theorem d_method_3_code_44 : decode method_3_code 44 = .ok (.iload_n 0, 1) := by decide +kernel
theorem d_method_3_code_45 : decode method_3_code 45 = .ok (.iconst 5, 1) := by decide +kernel
theorem d_method_3_code_46 : decode method_3_code 46 = .ok (.if_icmp .ne 7, 3) := by decide +kernel
theorem d_method_3_code_53 : decode method_3_code 53 = .ok (.iload_n 0, 1) := by decide +kernel
theorem d_method_3_code_54 : decode method_3_code 54 = .ok (.bipush 6, 2) := by decide +kernel
theorem d_method_3_code_56 : decode method_3_code 56 = .ok (.if_icmp .ne 7, 3) := by decide +kernel
theorem d_method_3_code_63 : decode method_3_code 63 = .ok (.iload_n 0, 1) := by decide +kernel
theorem d_method_3_code_64 : decode method_3_code 64 = .ok (.bipush 7, 2) := by decide +kernel
theorem d_method_3_code_66 : decode method_3_code 66 = .ok (.if_icmp .ne 7, 3) := by decide +kernel
theorem d_method_3_code_73 : decode method_3_code 73 = .ok (.getstatic 45, 3) := by decide +kernel
theorem w26 {Z : State} {a0 : Array Value} (hw : Tb a0 Z) : (Jvm.Cond.fieldLink "com/example/gerbang/gerbang/script/FormTakesBlockPinLaw" (45 : Nat) "com/example/gerbang/gerbang/script/Command$Form" "CONDITION_AND_BLOCK" "Lcom/example/gerbang/gerbang/script/Command$Form;").before a0 Z = true := hw _ (List.mem_of_getElem? (i := 26) rfl)
theorem d_method_3_code_76 : decode method_3_code 76 = .ok (.areturn, 1) := by decide +kernel
theorem d_method_3_code_69 : decode method_3_code 69 = .ok (.getstatic 42, 3) := by decide +kernel
theorem w23 {Z : State} {a0 : Array Value} (hw : Tb a0 Z) : (Jvm.Cond.fieldLink "com/example/gerbang/gerbang/script/FormTakesBlockPinLaw" (42 : Nat) "com/example/gerbang/gerbang/script/Command$Form" "COUNT_AND_BLOCK" "Lcom/example/gerbang/gerbang/script/Command$Form;").before a0 Z = true := hw _ (List.mem_of_getElem? (i := 23) rfl)
theorem d_method_3_code_72 : decode method_3_code 72 = .ok (.areturn, 1) := by decide +kernel
theorem d_method_3_code_59 : decode method_3_code 59 = .ok (.getstatic 39, 3) := by decide +kernel
theorem w27 {Z : State} {a0 : Array Value} (hw : Tb a0 Z) : (Jvm.Cond.fieldLink "com/example/gerbang/gerbang/script/FormTakesBlockPinLaw" (39 : Nat) "com/example/gerbang/gerbang/script/Command$Form" "TEXT" "Lcom/example/gerbang/gerbang/script/Command$Form;").before a0 Z = true := hw _ (List.mem_of_getElem? (i := 27) rfl)
theorem d_method_3_code_62 : decode method_3_code 62 = .ok (.areturn, 1) := by decide +kernel
theorem d_method_3_code_49 : decode method_3_code 49 = .ok (.getstatic 36, 3) := by decide +kernel
theorem w29 {Z : State} {a0 : Array Value} (hw : Tb a0 Z) : (Jvm.Cond.fieldLink "com/example/gerbang/gerbang/script/FormTakesBlockPinLaw" (36 : Nat) "com/example/gerbang/gerbang/script/Command$Form" "PIN_AND_VALUE" "Lcom/example/gerbang/gerbang/script/Command$Form;").before a0 Z = true := hw _ (List.mem_of_getElem? (i := 29) rfl)
theorem d_method_3_code_52 : decode method_3_code 52 = .ok (.areturn, 1) := by decide +kernel
theorem d_method_3_code_40 : decode method_3_code 40 = .ok (.getstatic 33, 3) := by decide +kernel
theorem w24 {Z : State} {a0 : Array Value} (hw : Tb a0 Z) : (Jvm.Cond.fieldLink "com/example/gerbang/gerbang/script/FormTakesBlockPinLaw" (33 : Nat) "com/example/gerbang/gerbang/script/Command$Form" "COLUMNS" "Lcom/example/gerbang/gerbang/script/Command$Form;").before a0 Z = true := hw _ (List.mem_of_getElem? (i := 24) rfl)
theorem d_method_3_code_43 : decode method_3_code 43 = .ok (.areturn, 1) := by decide +kernel
theorem d_method_3_code_31 : decode method_3_code 31 = .ok (.getstatic 30, 3) := by decide +kernel
theorem w17 {Z : State} {a0 : Array Value} (hw : Tb a0 Z) : (Jvm.Cond.fieldLink "com/example/gerbang/gerbang/script/FormTakesBlockPinLaw" (30 : Nat) "com/example/gerbang/gerbang/script/Command$Form" "PROGRAM_FILE" "Lcom/example/gerbang/gerbang/script/Command$Form;").before a0 Z = true := hw _ (List.mem_of_getElem? (i := 17) rfl)
theorem d_method_3_code_34 : decode method_3_code 34 = .ok (.areturn, 1) := by decide +kernel
theorem d_method_3_code_22 : decode method_3_code 22 = .ok (.getstatic 27, 3) := by decide +kernel
theorem w19 {Z : State} {a0 : Array Value} (hw : Tb a0 Z) : (Jvm.Cond.fieldLink "com/example/gerbang/gerbang/script/FormTakesBlockPinLaw" (27 : Nat) "com/example/gerbang/gerbang/script/Command$Form" "CHIP_FILE" "Lcom/example/gerbang/gerbang/script/Command$Form;").before a0 Z = true := hw _ (List.mem_of_getElem? (i := 19) rfl)
theorem d_method_3_code_25 : decode method_3_code 25 = .ok (.areturn, 1) := by decide +kernel
theorem d_method_3_code_13 : decode method_3_code 13 = .ok (.getstatic 24, 3) := by decide +kernel
theorem w21 {Z : State} {a0 : Array Value} (hw : Tb a0 Z) : (Jvm.Cond.fieldLink "com/example/gerbang/gerbang/script/FormTakesBlockPinLaw" (24 : Nat) "com/example/gerbang/gerbang/script/Command$Form" "FILE" "Lcom/example/gerbang/gerbang/script/Command$Form;").before a0 Z = true := hw _ (List.mem_of_getElem? (i := 21) rfl)
theorem d_method_3_code_16 : decode method_3_code 16 = .ok (.areturn, 1) := by decide +kernel
theorem d_method_3_code_4 : decode method_3_code 4 = .ok (.getstatic 20, 3) := by decide +kernel
theorem w5 {Z : State} {a0 : Array Value} (hw : Tb a0 Z) : (Jvm.Cond.fieldLink "com/example/gerbang/gerbang/script/FormTakesBlockPinLaw" (20 : Nat) "com/example/gerbang/gerbang/script/Command$Form" "NONE" "Lcom/example/gerbang/gerbang/script/Command$Form;").before a0 Z = true := hw _ (List.mem_of_getElem? (i := 5) rfl)
theorem d_method_3_code_7 : decode method_3_code 7 = .ok (.areturn, 1) := by decide +kernel
theorem pl_com_example_gerbang_gerbang_script_FormTakesBlockPinLaw : plainName "com/example/gerbang/gerbang/script/FormTakesBlockPinLaw" = true := by first | (simp [plainName, overriddenIn]; done) | decide +kernel
set_option maxRecDepth 65536 in
set_option maxHeartbeats 40000000 in
theorem c_pick (l : Launch) (Z : State) (a0 : Array Value) (hw : Tb a0 Z) (n0 : Nat) (i : Int32) (f : Nat → Addr) (h0 : Heap) (O : Old Z n0 h0) (H : Fm Z Z.heap f) :
    Ct l Z [] n0 (⟨"com/example/gerbang/gerbang/script/FormTakesBlockPinLaw", "pick", "(I)Lcom/example/gerbang/gerbang/script/Command$Form;"⟩ : MethodName) method_3_code 1 (some (.object "com/example/gerbang/gerbang/script/Command$Form")) ({ frames := 0, cells := 0, slots := 0, locals := 0 } : Room) #[(.int i)] h0 [] (Pu (some (.ref (f (pickN i)))) h0) := by
  refine Ct.of (a0 := a0) #[.val (.int i)] O (plainFor_of_name pl_com_example_gerbang_gerbang_script_FormTakesBlockPinLaw) (fun m => by first | (simp [entryFrame, mkF, argsToLocals, Value.category]; done) | rfl) ?_
  intro p e s m below meth c b T K hSP
  refine k_iloadN K d_method_3_code_0 (pc' := 1) rfl rfl ?_
  refine k_if_ne K d_method_3_code_1 (by decide) (pc' := 8) (pc2 := 4) (by decide) rfl (fun hc1 => ?_) (fun hc1 => ?_)
  · refine k_iloadN K d_method_3_code_8 (pc' := 9) rfl rfl ?_
    refine k_iconst K (1 : Int32) d_method_3_code_9 (pc' := 10) rfl rfl ?_
    refine k_icmp_ne K d_method_3_code_10 (by decide) (pc' := 17) (pc2 := 13) (by decide) rfl (fun hc10 => ?_) (fun hc10 => ?_)
    · refine k_iloadN K d_method_3_code_17 (pc' := 18) rfl rfl ?_
      refine k_iconst K (2 : Int32) d_method_3_code_18 (pc' := 19) rfl rfl ?_
      refine k_icmp_ne K d_method_3_code_19 (by decide) (pc' := 26) (pc2 := 22) (by decide) rfl (fun hc19 => ?_) (fun hc19 => ?_)
      · refine k_iloadN K d_method_3_code_26 (pc' := 27) rfl rfl ?_
        refine k_iconst K (3 : Int32) d_method_3_code_27 (pc' := 28) rfl rfl ?_
        refine k_icmp_ne K d_method_3_code_28 (by decide) (pc' := 35) (pc2 := 31) (by decide) rfl (fun hc28 => ?_) (fun hc28 => ?_)
        · refine k_iloadN K d_method_3_code_35 (pc' := 36) rfl rfl ?_
          refine k_iconst K (4 : Int32) d_method_3_code_36 (pc' := 37) rfl rfl ?_
          refine k_icmp_ne K d_method_3_code_37 (by decide) (pc' := 44) (pc2 := 40) (by decide) rfl (fun hc37 => ?_) (fun hc37 => ?_)
          · refine k_iloadN K d_method_3_code_44 (pc' := 45) rfl rfl ?_
            refine k_iconst K (5 : Int32) d_method_3_code_45 (pc' := 46) rfl rfl ?_
            refine k_icmp_ne K d_method_3_code_46 (by decide) (pc' := 53) (pc2 := 49) (by decide) rfl (fun hc46 => ?_) (fun hc46 => ?_)
            · refine k_iloadN K d_method_3_code_53 (pc' := 54) rfl rfl ?_
              refine k_bipush K (6 : Int32) d_method_3_code_54 (pc' := 56) rfl rfl ?_
              refine k_icmp_ne K d_method_3_code_56 (by decide) (pc' := 63) (pc2 := 59) (by decide) rfl (fun hc56 => ?_) (fun hc56 => ?_)
              · refine k_iloadN K d_method_3_code_63 (pc' := 64) rfl rfl ?_
                refine k_bipush K (7 : Int32) d_method_3_code_64 (pc' := 66) rfl rfl ?_
                refine k_icmp_ne K d_method_3_code_66 (by decide) (pc' := 73) (pc2 := 69) (by decide) rfl (fun hc66 => ?_) (fun hc66 => ?_)
                · refine k_getS K (w26 hw) Via.refl (fm_8 H) d_method_3_code_73 (pc' := 76) rfl ?_
                  intro T1 K1
                  exact k_aret K1 d_method_3_code_76 rfl rfl rfl (fun sf ht => ⟨by simp [pickN, hc1, hc10, hc19, hc28, hc37, hc46, hc56, hc66], rfl⟩) (by decide) (by decide)
                · refine k_getS K (w23 hw) Via.refl (fm_7 H) d_method_3_code_69 (pc' := 72) rfl ?_
                  intro T2 K2
                  exact k_aret K2 d_method_3_code_72 rfl rfl rfl (fun sf ht => ⟨by simp [pickN, hc1, hc10, hc19, hc28, hc37, hc46, hc56, hc66], rfl⟩) (by decide) (by decide)
              · refine k_getS K (w27 hw) Via.refl (fm_6 H) d_method_3_code_59 (pc' := 62) rfl ?_
                intro T3 K3
                exact k_aret K3 d_method_3_code_62 rfl rfl rfl (fun sf ht => ⟨by simp [pickN, hc1, hc10, hc19, hc28, hc37, hc46, hc56], rfl⟩) (by decide) (by decide)
            · refine k_getS K (w29 hw) Via.refl (fm_5 H) d_method_3_code_49 (pc' := 52) rfl ?_
              intro T4 K4
              exact k_aret K4 d_method_3_code_52 rfl rfl rfl (fun sf ht => ⟨by simp [pickN, hc1, hc10, hc19, hc28, hc37, hc46], rfl⟩) (by decide) (by decide)
          · refine k_getS K (w24 hw) Via.refl (fm_4 H) d_method_3_code_40 (pc' := 43) rfl ?_
            intro T5 K5
            exact k_aret K5 d_method_3_code_43 rfl rfl rfl (fun sf ht => ⟨by simp [pickN, hc1, hc10, hc19, hc28, hc37], rfl⟩) (by decide) (by decide)
        · refine k_getS K (w17 hw) Via.refl (fm_3 H) d_method_3_code_31 (pc' := 34) rfl ?_
          intro T6 K6
          exact k_aret K6 d_method_3_code_34 rfl rfl rfl (fun sf ht => ⟨by simp [pickN, hc1, hc10, hc19, hc28], rfl⟩) (by decide) (by decide)
      · refine k_getS K (w19 hw) Via.refl (fm_2 H) d_method_3_code_22 (pc' := 25) rfl ?_
        intro T7 K7
        exact k_aret K7 d_method_3_code_25 rfl rfl rfl (fun sf ht => ⟨by simp [pickN, hc1, hc10, hc19], rfl⟩) (by decide) (by decide)
    · refine k_getS K (w21 hw) Via.refl (fm_1 H) d_method_3_code_13 (pc' := 16) rfl ?_
      intro T8 K8
      exact k_aret K8 d_method_3_code_16 rfl rfl rfl (fun sf ht => ⟨by simp [pickN, hc1, hc10], rfl⟩) (by decide) (by decide)
  · refine k_getS K (w5 hw) Via.refl (fm_0 H) d_method_3_code_4 (pc' := 7) rfl ?_
    intro T9 K9
    exact k_aret K9 d_method_3_code_7 rfl rfl rfl (fun sf ht => ⟨by simp [pickN, hc1], rfl⟩) (by decide) (by decide)
theorem d_prog_14_method_4_code_0 : decode prog_14_method_4_code 0 = .ok (.aload_n 0, 1) := by decide +kernel
theorem d_prog_14_method_4_code_1 : decode prog_14_method_4_code 1 = .ok (.getstatic 25, 3) := by decide +kernel
theorem w13 {Z : State} {a0 : Array Value} (hw : Tb a0 Z) : (Jvm.Cond.fieldLink "com/example/gerbang/gerbang/script/Command$Form" (25 : Nat) "com/example/gerbang/gerbang/script/Command$Form" "COUNT_AND_BLOCK" "Lcom/example/gerbang/gerbang/script/Command$Form;").before a0 Z = true := hw _ (List.mem_of_getElem? (i := 13) rfl)
theorem d_prog_14_method_4_code_4 : decode prog_14_method_4_code 4 = .ok (.if_acmp .eq 10, 3) := by decide +kernel
theorem d_prog_14_method_4_code_14 : decode prog_14_method_4_code 14 = .ok (.iconst 1, 1) := by decide +kernel
theorem d_prog_14_method_4_code_15 : decode prog_14_method_4_code 15 = .ok (.goto 4, 3) := by decide +kernel
theorem d_prog_14_method_4_code_19 : decode prog_14_method_4_code 19 = .ok (.ireturn, 1) := by decide +kernel
theorem d_prog_14_method_4_code_7 : decode prog_14_method_4_code 7 = .ok (.aload_n 0, 1) := by decide +kernel
theorem d_prog_14_method_4_code_8 : decode prog_14_method_4_code 8 = .ok (.getstatic 28, 3) := by decide +kernel
theorem w15 {Z : State} {a0 : Array Value} (hw : Tb a0 Z) : (Jvm.Cond.fieldLink "com/example/gerbang/gerbang/script/Command$Form" (28 : Nat) "com/example/gerbang/gerbang/script/Command$Form" "CONDITION_AND_BLOCK" "Lcom/example/gerbang/gerbang/script/Command$Form;").before a0 Z = true := hw _ (List.mem_of_getElem? (i := 15) rfl)
theorem d_prog_14_method_4_code_11 : decode prog_14_method_4_code 11 = .ok (.if_acmp .ne 7, 3) := by decide +kernel
theorem d_prog_14_method_4_code_18 : decode prog_14_method_4_code 18 = .ok (.iconst 0, 1) := by decide +kernel
theorem pl_com_example_gerbang_gerbang_script_Command_Form : plainName "com/example/gerbang/gerbang/script/Command$Form" = true := by first | (simp [plainName, overriddenIn]; done) | decide +kernel
set_option maxRecDepth 65536 in
set_option maxHeartbeats 40000000 in
theorem c_takes (l : Launch) (Z : State) (a0 : Array Value) (hw : Tb a0 Z) (n0 : Nat) (k : Nat) (hk : k < 9) (f : Nat → Addr) (h0 : Heap) (O : Old Z n0 h0) (H : Fm Z Z.heap f) :
    Ct l Z [] n0 (⟨"com/example/gerbang/gerbang/script/Command$Form", "takesBlock", "()Z"⟩ : MethodName) prog_14_method_4_code 1 (some .boolean) ({ frames := 0, cells := 0, slots := 0, locals := 0 } : Room) #[(.ref (f k))] h0 [] (Pu (some (.int (if k < 7 then 0 else 1))) h0) := by
  refine Ct.of (a0 := a0) #[.val (.ref (f k))] O (plainFor_of_name pl_com_example_gerbang_gerbang_script_Command_Form) (fun m => by first | (simp [entryFrame, mkF, argsToLocals, Value.category]; done) | rfl) ?_
  intro p e s m below meth c b T K hSP
  refine k_aloadN K d_prog_14_method_4_code_0 (pc' := 1) rfl rfl rfl ?_
  refine k_getS K (w13 hw) Via.refl (fm_7 H) d_prog_14_method_4_code_1 (pc' := 4) rfl ?_
  intro T10 K10
  refine k_acmp_eq K10 rfl rfl d_prog_14_method_4_code_4 (by decide) (pc' := 14) (pc2 := 7) (by decide) rfl (fun hc4 => ?_) (fun hc4 => ?_)
  · refine k_iconst K10 (1 : Int32) d_prog_14_method_4_code_14 (pc' := 15) rfl rfl ?_
    refine k_goto K10 d_prog_14_method_4_code_15 (by decide) (pc' := 19) (by decide) ?_
    have e7 : k = 7 := Classical.byContradiction fun q => H.2.1 k 7 hk (by decide) q (Value.ref.inj hc4)
    subst e7
    exact k_nret K10 d_prog_14_method_4_code_19 rfl (by simp) rfl (fun sf ht => ⟨rfl, rfl⟩) (by decide) (by decide)
  · refine k_aloadN K10 d_prog_14_method_4_code_7 (pc' := 8) rfl rfl rfl ?_
    refine k_getS K10 (w15 hw) Via.refl (fm_8 H) d_prog_14_method_4_code_8 (pc' := 11) rfl ?_
    intro T11 K11
    refine k_acmp_ne K11 rfl rfl d_prog_14_method_4_code_11 (by decide) (pc' := 18) (pc2 := 14) (by decide) rfl (fun hc11 => ?_) (fun hc11 => ?_)
    · refine k_iconst K11 (1 : Int32) d_prog_14_method_4_code_14 (pc' := 15) rfl rfl ?_
      refine k_goto K11 d_prog_14_method_4_code_15 (by decide) (pc' := 19) (by decide) ?_
      have e8 : k = 8 := Classical.byContradiction fun q => H.2.1 k 8 hk (by decide) q (Value.ref.inj hc11)
      subst e8
      exact k_nret K11 d_prog_14_method_4_code_19 rfl (by simp) rfl (fun sf ht => ⟨rfl, rfl⟩) (by decide) (by decide)
    · refine k_iconst K11 (0 : Int32) d_prog_14_method_4_code_18 (pc' := 19) rfl rfl ?_
      have e7 : k ≠ 7 := fun q => hc4 (by rw [q])
      have e8 : k ≠ 8 := fun q => hc11 (by rw [q])
      exact k_nret K11 d_prog_14_method_4_code_19 rfl (by simp) rfl (fun sf ht => ⟨by rw [if_pos (by omega)], rfl⟩) (by decide) (by decide)
theorem own_and_pos (x : Int32) : 0 ≤ (x &&& 2147483647).toInt ∧ (x &&& 2147483647).toInt < 2147483648 := by
  have h1 : (x &&& 2147483647).toInt = (x &&& 2147483647).toBitVec.toInt := rfl
  have h2 : (x &&& 2147483647).toBitVec = x.toBitVec &&& 2147483647#32 := rfl
  have h3 : (x.toBitVec &&& 2147483647#32).toNat = x.toBitVec.toNat % 2147483648 := by
    rw [BitVec.toNat_and]; exact Nat.and_two_pow_sub_one_eq_mod _ 31
  have h4 := Nat.mod_lt x.toBitVec.toNat (show 0 < 2147483648 by decide)
  rw [h1, h2, BitVec.toInt_eq_toNat_of_lt (by rw [h3]; omega), h3]; omega
theorem own_i (x : Int32) : 0 ≤ ((x &&& 2147483647) % 9).toInt ∧ ((x &&& 2147483647) % 9).toInt < 9 := by
  have h := own_and_pos x
  have e : ((x &&& 2147483647) % 9).toInt = (x &&& 2147483647).toInt.tmod 9 := by rw [Int32.toInt_mod]; rfl
  rw [e, Int.tmod_eq_emod_of_nonneg h.1]; omega
theorem own_pick (i : Int32) : pickN i < 9 := by
  unfold pickN
  repeat' split
  all_goals decide
theorem own_big {i : Int32} (h1 : 0 ≤ i.toInt) (h2 : i.toInt < 9) : (pickN i < 7 ↔ i < 7) := by
  have hh : i.toInt = 0 ∨ i.toInt = 1 ∨ i.toInt = 2 ∨ i.toInt = 3 ∨ i.toInt = 4 ∨ i.toInt = 5 ∨ i.toInt = 6 ∨ i.toInt = 7 ∨ i.toInt = 8 := by omega
  have key : ∀ k : Int32, i.toInt = k.toInt → i = k := fun k q => Int32.toInt_inj.mp q
  rcases hh with q | q | q | q | q | q | q | q | q
  · rw [key 0 q]; decide
  · rw [key 1 q]; decide
  · rw [key 2 q]; decide
  · rw [key 3 q]; decide
  · rw [key 4 q]; decide
  · rw [key 5 q]; decide
  · rw [key 6 q]; decide
  · rw [key 7 q]; decide
  · rw [key 8 q]; decide
theorem w0 {Z : State} {a0 : Array Value} (hw : Tb a0 Z) : (Jvm.Cond.constant "com/example/gerbang/gerbang/script/FormTakesBlockPinLaw" (7 : Nat) (2147483647 : Int32)).before a0 Z = true := hw _ (List.mem_of_getElem? (i := 0) rfl)
theorem w1 {Z : State} {a0 : Array Value} (hw : Tb a0 Z) : (Jvm.Cond.methodLink "com/example/gerbang/gerbang/script/FormTakesBlockPinLaw" (8 : Nat) ({ cls := "com/example/gerbang/gerbang/script/FormTakesBlockPinLaw", name := "pick", desc := "(I)Lcom/example/gerbang/gerbang/script/Command$Form;" } : Jvm.MethodName)).before a0 Z = true := hw _ (List.mem_of_getElem? (i := 1) rfl)
theorem w3 {Z : State} {a0 : Array Value} (hw : Tb a0 Z) : (Jvm.Cond.initialized "com/example/gerbang/gerbang/script/FormTakesBlockPinLaw").before a0 Z = true := hw _ (List.mem_of_getElem? (i := 3) rfl)
theorem w4 {Z : State} {a0 : Array Value} (hw : Tb a0 Z) : (Jvm.Cond.code ({ cls := "com/example/gerbang/gerbang/script/FormTakesBlockPinLaw", name := "pick", desc := "(I)Lcom/example/gerbang/gerbang/script/Command$Form;" } : Jvm.MethodName) method_3_code (1 : Nat) (Option.some (Jvm.ClassFile.FieldType.object "com/example/gerbang/gerbang/script/Command$Form"))).before a0 Z = true := hw _ (List.mem_of_getElem? (i := 4) rfl)
theorem w2 {Z : State} {a0 : Array Value} (hw : Tb a0 Z) : (Jvm.Cond.static ({ cls := "com/example/gerbang/gerbang/script/FormTakesBlockPinLaw", name := "pick", desc := "(I)Lcom/example/gerbang/gerbang/script/Command$Form;" } : Jvm.MethodName)).before a0 Z = true := hw _ (List.mem_of_getElem? (i := 2) rfl)
theorem pd__I_Lcom_example_gerbang_gerbang_script_Command_Form__913 : parseMethodDescriptor "(I)Lcom/example/gerbang/gerbang/script/Command$Form;" = some ⟨[.int], some (.object "com/example/gerbang/gerbang/script/Command$Form")⟩ := by decide +kernel
theorem w8 {Z : State} {a0 : Array Value} (hw : Tb a0 Z) : (Jvm.Cond.methodLink "com/example/gerbang/gerbang/script/FormTakesBlockPinLaw" (14 : Nat) ({ cls := "com/example/gerbang/gerbang/script/Command$Form", name := "takesBlock", desc := "()Z" } : Jvm.MethodName)).before a0 Z = true := hw _ (List.mem_of_getElem? (i := 8) rfl)
theorem w6 {Z : State} {a0 : Array Value} (hw : Tb a0 Z) : (Jvm.Cond.initialized "com/example/gerbang/gerbang/script/Command$Form").before a0 Z = true := hw _ (List.mem_of_getElem? (i := 6) rfl)
theorem w12 {Z : State} {a0 : Array Value} (hw : Tb a0 Z) : (Jvm.Cond.code ({ cls := "com/example/gerbang/gerbang/script/Command$Form", name := "takesBlock", desc := "()Z" } : Jvm.MethodName) prog_14_method_4_code (1 : Nat) (Option.some Jvm.ClassFile.FieldType.boolean)).before a0 Z = true := hw _ (List.mem_of_getElem? (i := 12) rfl)
theorem w11 {Z : State} {a0 : Array Value} (hw : Tb a0 Z) : (Jvm.Cond.selects "com/example/gerbang/gerbang/script/Command$Form" ({ cls := "com/example/gerbang/gerbang/script/Command$Form", name := "takesBlock", desc := "()Z" } : Jvm.MethodName) ({ cls := "com/example/gerbang/gerbang/script/Command$Form", name := "takesBlock", desc := "()Z" } : Jvm.MethodName)).before a0 Z = true := hw _ (List.mem_of_getElem? (i := 11) rfl)
theorem w9 {Z : State} {a0 : Array Value} (hw : Tb a0 Z) : (Jvm.Cond.declares ({ cls := "com/example/gerbang/gerbang/script/Command$Form", name := "takesBlock", desc := "()Z" } : Jvm.MethodName)).before a0 Z = true := hw _ (List.mem_of_getElem? (i := 9) rfl)
theorem w10 {Z : State} {a0 : Array Value} (hw : Tb a0 Z) : (Jvm.Cond.instanceMethod ({ cls := "com/example/gerbang/gerbang/script/Command$Form", name := "takesBlock", desc := "()Z" } : Jvm.MethodName)).before a0 Z = true := hw _ (List.mem_of_getElem? (i := 10) rfl)
theorem pd___Z_392 : parseMethodDescriptor "()Z" = some ⟨[], some .boolean⟩ := by decide +kernel
set_option maxRecDepth 65536 in
set_option maxHeartbeats 40000000 in
theorem c_law (l : Launch) (Z : State) (a0 : Array Value) (hw : Tb a0 Z) (n0 : Nat) (x0 : Int32) (f : Nat → Addr) (h0 : Heap) (O : Old Z n0 h0) (H : Fm Z Z.heap f) :
    Ct l Z [] n0 x code maxLocals ret room_1 #[(.int x0)] h0 [] (Pu (some (.int 1)) h0) := by
  refine Ct.of (a0 := a0) #[.val (.int x0), .unset, .unset, .unset] O (plainFor_of_name pl_com_example_gerbang_gerbang_script_FormTakesBlockPinLaw) (fun m => by first | (simp [entryFrame, mkF, argsToLocals, Value.category, maxLocals]; done) | rfl) ?_
  intro p e s m below meth c b T K hSP
  refine k_iloadN K at_0 (pc' := 1) rfl rfl ?_
  refine k_ldcI K (w0 hw) at_1 (pc' := 3) rfl ?_
  refine k_iand K at_3 (pc' := 4) rfl ?_
  refine k_bipush K (9 : Int32) at_4 (pc' := 6) rfl rfl ?_
  refine k_irem K at_6 (pc' := 7) rfl (by decide) ?_
  refine k_istoreN K at_7 (pc' := 8) (L' := #[.val (.int x0), .val (.int ((x0 &&& (2147483647 : Int32)) % (9 : Int32))), .unset, .unset]) rfl rfl ?_
  refine k_iloadN K at_8 (pc' := 9) rfl rfl ?_
  have hi := own_i x0
  generalize hii : (x0 &&& (2147483647 : Int32)) % (9 : Int32) = i at hi ⊢
  refine k_staticP K [(.int i)] [] 0 (w1 hw) (w2 hw) (w3 hw) (w4 hw) (by decide) pd__I_Lcom_example_gerbang_gerbang_script_Command_Form__913 (c_pick l Z a0 hw n0 i f h0 K.old H) at_9 nofun (pc' := 12) rfl rfl rfl rfl (by decide) (by decide) (by decide) (by decide) (by decide) ?_
  intro b12 T12 L12 K12 tr12
  show Goes p.tables e below _ (T12.setTop (mkF m 12 #[.val (.int x0), .val (.int i), .unset, .unset] [(.ref (f (pickN i)))]))
  refine k_astoreN K12 at_12 (pc' := 13) (L' := #[.val (.int x0), .val (.int i), .val (.ref (f (pickN i))), .unset]) rfl rfl rfl ?_
  refine k_iloadN K12 at_13 (pc' := 14) rfl rfl ?_
  refine k_bipush K12 (7 : Int32) at_14 (pc' := 16) rfl rfl ?_
  refine k_icmp_lt K12 at_16 (by decide) (pc' := 23) (pc2 := 19) (by decide) rfl (fun hc16 => ?_) (fun hc16 => ?_)
  · refine k_iconst K12 (0 : Int32) at_23 (pc' := 24) rfl rfl ?_
    refine k_istoreN K12 at_24 (pc' := 25) (L' := #[.val (.int x0), .val (.int i), .val (.ref (f (pickN i))), .val (.int (0 : Int32))]) rfl rfl ?_
    refine k_aloadN K12 at_25 (pc' := 26) rfl rfl rfl ?_
    refine k_virtualP K12 [] [] 0 (w8 hw) (w9 hw) (w10 hw) (w11 hw) (w6 hw) (w12 hw) (notFace_of_selects (args := #[]) (mvT K12.hZ (w11 hw))) rfl (by decide) ((H.1 _ (own_pick i)).ext K12.old.2) (by decide) pd___Z_392 (c_takes l Z a0 hw n0 (pickN i) (own_pick i) f h0 K12.old H) at_26 nofun (pc' := 29) rfl rfl rfl rfl (by decide) (by decide) (by decide) (by decide) (by decide) ?_
    intro b13 T13 L13 K13 tr13
    show Goes p.tables e below _ (T13.setTop (mkF m 29 #[.val (.int x0), .val (.int i), .val (.ref (f (pickN i))), .val (.int (0 : Int32))] [(.int (if pickN i < 7 then 0 else 1))]))
    refine k_iloadN K13 at_29 (pc' := 30) rfl rfl ?_
    refine k_icmp_ne K13 at_30 (by decide) (pc' := 37) (pc2 := 33) (by decide) rfl (fun q => absurd (if_pos ((own_big hi.1 hi.2).mpr hc16)) q) (fun hc30 => ?_)
    refine k_iconst K13 (1 : Int32) at_33 (pc' := 34) rfl rfl ?_
    refine k_goto K13 at_34 (by decide) (pc' := 38) (by decide) ?_
    exact k_nret K13 at_38 rfl (by simp) rfl (fun sf ht => ⟨rfl, rfl⟩) (by decide) (by decide)
  · refine k_iconst K12 (1 : Int32) at_19 (pc' := 20) rfl rfl ?_
    refine k_goto K12 at_20 (by decide) (pc' := 24) (by decide) ?_
    refine k_istoreN K12 at_24 (pc' := 25) (L' := #[.val (.int x0), .val (.int i), .val (.ref (f (pickN i))), .val (.int (1 : Int32))]) rfl rfl ?_
    refine k_aloadN K12 at_25 (pc' := 26) rfl rfl rfl ?_
    refine k_virtualP K12 [] [] 0 (w8 hw) (w9 hw) (w10 hw) (w11 hw) (w6 hw) (w12 hw) (notFace_of_selects (args := #[]) (mvT K12.hZ (w11 hw))) rfl (by decide) ((H.1 _ (own_pick i)).ext K12.old.2) (by decide) pd___Z_392 (c_takes l Z a0 hw n0 (pickN i) (own_pick i) f h0 K12.old H) at_26 nofun (pc' := 29) rfl rfl rfl rfl (by decide) (by decide) (by decide) (by decide) (by decide) ?_
    intro b14 T14 L14 K14 tr14
    show Goes p.tables e below _ (T14.setTop (mkF m 29 #[.val (.int x0), .val (.int i), .val (.ref (f (pickN i))), .val (.int (1 : Int32))] [(.int (if pickN i < 7 then 0 else 1))]))
    refine k_iloadN K14 at_29 (pc' := 30) rfl rfl ?_
    refine k_icmp_ne K14 at_30 (by decide) (pc' := 37) (pc2 := 33) (by decide) rfl (fun q => absurd (if_neg fun q => hc16 ((own_big hi.1 hi.2).mp q)) q) (fun hc30 => ?_)
    refine k_iconst K14 (1 : Int32) at_33 (pc' := 34) rfl rfl ?_
    refine k_goto K14 at_34 (by decide) (pc' := 38) (by decide) ?_
    exact k_nret K14 at_38 rfl (by simp) rfl (fun sf ht => ⟨rfl, rfl⟩) (by decide) (by decide)
theorem w7 {Z : State} {a0 : Array Value} (hw : Tb a0 Z) : (Jvm.Cond.laysStatic "com/example/gerbang/gerbang/script/Command$Form" "NONE" "Lcom/example/gerbang/gerbang/script/Command$Form;").before a0 Z = true := hw _ (List.mem_of_getElem? (i := 7) rfl)
theorem w22 {Z : State} {a0 : Array Value} (hw : Tb a0 Z) : (Jvm.Cond.laysStatic "com/example/gerbang/gerbang/script/Command$Form" "FILE" "Lcom/example/gerbang/gerbang/script/Command$Form;").before a0 Z = true := hw _ (List.mem_of_getElem? (i := 22) rfl)
theorem w20 {Z : State} {a0 : Array Value} (hw : Tb a0 Z) : (Jvm.Cond.laysStatic "com/example/gerbang/gerbang/script/Command$Form" "CHIP_FILE" "Lcom/example/gerbang/gerbang/script/Command$Form;").before a0 Z = true := hw _ (List.mem_of_getElem? (i := 20) rfl)
theorem w18 {Z : State} {a0 : Array Value} (hw : Tb a0 Z) : (Jvm.Cond.laysStatic "com/example/gerbang/gerbang/script/Command$Form" "PROGRAM_FILE" "Lcom/example/gerbang/gerbang/script/Command$Form;").before a0 Z = true := hw _ (List.mem_of_getElem? (i := 18) rfl)
theorem w25 {Z : State} {a0 : Array Value} (hw : Tb a0 Z) : (Jvm.Cond.laysStatic "com/example/gerbang/gerbang/script/Command$Form" "COLUMNS" "Lcom/example/gerbang/gerbang/script/Command$Form;").before a0 Z = true := hw _ (List.mem_of_getElem? (i := 25) rfl)
theorem w30 {Z : State} {a0 : Array Value} (hw : Tb a0 Z) : (Jvm.Cond.laysStatic "com/example/gerbang/gerbang/script/Command$Form" "PIN_AND_VALUE" "Lcom/example/gerbang/gerbang/script/Command$Form;").before a0 Z = true := hw _ (List.mem_of_getElem? (i := 30) rfl)
theorem w28 {Z : State} {a0 : Array Value} (hw : Tb a0 Z) : (Jvm.Cond.laysStatic "com/example/gerbang/gerbang/script/Command$Form" "TEXT" "Lcom/example/gerbang/gerbang/script/Command$Form;").before a0 Z = true := hw _ (List.mem_of_getElem? (i := 28) rfl)
theorem w14 {Z : State} {a0 : Array Value} (hw : Tb a0 Z) : (Jvm.Cond.laysStatic "com/example/gerbang/gerbang/script/Command$Form" "COUNT_AND_BLOCK" "Lcom/example/gerbang/gerbang/script/Command$Form;").before a0 Z = true := hw _ (List.mem_of_getElem? (i := 14) rfl)
theorem w16 {Z : State} {a0 : Array Value} (hw : Tb a0 Z) : (Jvm.Cond.laysStatic "com/example/gerbang/gerbang/script/Command$Form" "CONDITION_AND_BLOCK" "Lcom/example/gerbang/gerbang/script/Command$Form;").before a0 Z = true := hw _ (List.mem_of_getElem? (i := 16) rfl)
theorem own_eqI {args : Array Value} {s : State} {t : Term} {k : Int32} (h : (Cond.eq t (.int k)).value args s none s [] = some true) : t.eval args s none [] s = some (.int k) := by
  obtain ⟨x, y, e1, e2, -, k2⟩ := cmp_v (Or.inl h)
  have e3 : y = .int k := (Option.some.inj e2).symm
  subst e3
  obtain ⟨z, rfl⟩ := k2
  have q : z = k := by simpa [Cond.value, Term.eval, e1] using h
  rw [e1, q]
theorem own_fld {args : Array Value} {s : State} {t : Term} {a : Addr} {C n d : String} {v : Value} (ht : t.eval args s none [] s = some (.ref a)) (h : (Term.field t C n d).eval args s none [] s = some v) : Fld s s.heap a C n d v := Fld.start (by rw [← fld_at ht]; exact h)
set_option maxRecDepth 65536 in
set_option maxHeartbeats 40000000 in
theorem comes_1 {Post : Tables → Env → Array Value → State → Outcome → State → Prop} (hpost : ∀ tb e args s v u, (limb_1_1.after args s (.returned v) u = true ∧ limb_1_2.after args s (.returned v) u = true ∧ True) → FrameEnd s (.returned v) u (Jvm.fieldLocs frame_1_writes args s ++ Jvm.arrayLocs frame_1_arrays args s ++ Jvm.staticLocs frame_1_statics s) 0 0 → Post tb e args s (.returned v) u) :
    ArmFor flags0 classFile x code maxLocals ret World_1 tables_1 room_1 Calls_1 rest_1 Pre_1 Post := by
  intro l hfl _ _ p e ha hc hk s m args below hf hA hF happ hP
  obtain ⟨hcalls, hrest, hpre⟩ := hP
  obtain ⟨-, -, -, hnamed, -, -, -, hat⟩ := (Spec.applies_iff hf).mp happ
  obtain ⟨hg, hn⟩ := and_e (Cond.before_iff.mp (show (Jvm.Cond.and given_1 narrow_1).before args s = true from hpre))
  obtain ⟨hg_0, hg⟩ := and_e hg
  obtain ⟨w0, rfl⟩ : ∃ w0 : Value, args = #[w0] := by
    have hs : args.size = 1 := by simpa [Cond.value, given_1] using hg_0
    obtain ⟨L⟩ := args
    match L, hs with
    | [w0], _ => exact ⟨w0, rfl⟩
  have hg_1 := hg
  have hw := fun d (hd : d ∈ tables_1) => atoms_spec (ws := Jvm.Cond.code x code maxLocals ret :: tables_1) hat d (List.mem_cons_of_mem _ hd)
  have hfit : Fit s := fun {y c} hc i hi => by
    obtain ⟨ha, rfl⟩ := Array.getElem?_eq_some_iff.mp hc
    have q := List.all_eq_true.mp ((Array.all_eq_true_iff_forall_mem.mp hF) _ (Array.getElem_mem ha)) i (List.mem_range.mpr hi)
    simpa [Array.getElem?_eq_getElem hi] using q
  obtain ⟨i0, ei0⟩ := is_v hg_1
  obtain rfl : w0 = (.int i0) := Option.some.inj ei0
  obtain ⟨hn_0, hn⟩ := and_e hn
  obtain ⟨hn_1, hn⟩ := and_e hn
  obtain ⟨hn_2, hn⟩ := and_e hn
  obtain ⟨hn_3, hn⟩ := and_e hn
  obtain ⟨hn_4, hn⟩ := and_e hn
  obtain ⟨hn_5, hn⟩ := and_e hn
  obtain ⟨hn_6, hn⟩ := and_e hn
  obtain ⟨hn_7, hn⟩ := and_e hn
  obtain ⟨hn_8, hn⟩ := and_e hn
  obtain ⟨hn_9, hn⟩ := and_e hn
  obtain ⟨hn_10, hn⟩ := and_e hn
  obtain ⟨hn_11, hn⟩ := and_e hn
  obtain ⟨hn_12, hn⟩ := and_e hn
  obtain ⟨hn_13, hn⟩ := and_e hn
  obtain ⟨hn_14, hn⟩ := and_e hn
  obtain ⟨hn_15, hn⟩ := and_e hn
  obtain ⟨hn_16, hn⟩ := and_e hn
  have hn_17 := hn
  obtain ⟨f0, ef0⟩ := exa_v hn_0
  have E0 := Exa.start ef0 hn_0
  have S0 := Sta.start ef0 (Or.inr ⟨(w6 hw), (w7 hw)⟩)
  have F0 := own_fld ef0 (own_eqI hn_2)
  obtain ⟨f1, ef1⟩ := exa_v hn_10
  have E1 := Exa.start ef1 hn_10
  have S1 := Sta.start ef1 (Or.inr ⟨(w6 hw), (w22 hw)⟩)
  have F1 := own_fld ef1 (own_eqI hn_11)
  obtain ⟨f2, ef2⟩ := exa_v hn_8
  have E2 := Exa.start ef2 hn_8
  have S2 := Sta.start ef2 (Or.inr ⟨(w6 hw), (w20 hw)⟩)
  have F2 := own_fld ef2 (own_eqI hn_9)
  obtain ⟨f3, ef3⟩ := exa_v hn_6
  have E3 := Exa.start ef3 hn_6
  have S3 := Sta.start ef3 (Or.inr ⟨(w6 hw), (w18 hw)⟩)
  have F3 := own_fld ef3 (own_eqI hn_7)
  obtain ⟨f4, ef4⟩ := exa_v hn_12
  have E4 := Exa.start ef4 hn_12
  have S4 := Sta.start ef4 (Or.inr ⟨(w6 hw), (w25 hw)⟩)
  have F4 := own_fld ef4 (own_eqI hn_13)
  obtain ⟨f5, ef5⟩ := exa_v hn_16
  have E5 := Exa.start ef5 hn_16
  have S5 := Sta.start ef5 (Or.inr ⟨(w6 hw), (w30 hw)⟩)
  have F5 := own_fld ef5 (own_eqI hn_17)
  obtain ⟨f6, ef6⟩ := exa_v hn_14
  have E6 := Exa.start ef6 hn_14
  have S6 := Sta.start ef6 (Or.inr ⟨(w6 hw), (w28 hw)⟩)
  have F6 := own_fld ef6 (own_eqI hn_15)
  obtain ⟨f7, ef7⟩ := exa_v hn_1
  have E7 := Exa.start ef7 hn_1
  have S7 := Sta.start ef7 (Or.inr ⟨(w6 hw), (w14 hw)⟩)
  have F7 := own_fld ef7 (own_eqI hn_3)
  obtain ⟨f8, ef8⟩ := exa_v hn_4
  have E8 := Exa.start ef8 hn_4
  have S8 := Sta.start ef8 (Or.inr ⟨(w6 hw), (w16 hw)⟩)
  have F8 := own_fld ef8 (own_eqI hn_5)
  let f : Nat → Addr := fun i => match i with | 0 => f0 | 1 => f1 | 2 => f2 | 3 => f3 | 4 => f4 | 5 => f5 | 6 => f6 | 7 => f7 | _ => f8
  let v : Nat → Int32 := fun i => match i with | 0 => 0 | 1 => 1 | 2 => 2 | 3 => 3 | 4 => 4 | 5 => 5 | 6 => 6 | 7 => 7 | _ => 8
  have hall : ∀ i, i < 9 → i = 0 ∨ i = 1 ∨ i = 2 ∨ i = 3 ∨ i = 4 ∨ i = 5 ∨ i = 6 ∨ i = 7 ∨ i = 8 := fun i hi => by omega
  have hFl : ∀ i, i < 9 → Fld s s.heap (f i) "java/lang/Enum" "ordinal" "I" (.int (v i)) := fun i hi => by
    rcases hall i hi with rfl | rfl | rfl | rfl | rfl | rfl | rfl | rfl | rfl
    · exact F0
    · exact F1
    · exact F2
    · exact F3
    · exact F4
    · exact F5
    · exact F6
    · exact F7
    · exact F8
  have hv : ∀ i, i < 9 → (v i).toInt = i := fun i hi => by
    rcases hall i hi with rfl | rfl | rfl | rfl | rfl | rfl | rfl | rfl | rfl
    · decide
    · decide
    · decide
    · decide
    · decide
    · decide
    · decide
    · decide
    · decide
  have hEx : ∀ i, i < 9 → Exa s s.heap (f i) "com/example/gerbang/gerbang/script/Command$Form" := fun i hi => by
    rcases hall i hi with rfl | rfl | rfl | rfl | rfl | rfl | rfl | rfl | rfl
    · exact E0
    · exact E1
    · exact E2
    · exact E3
    · exact E4
    · exact E5
    · exact E6
    · exact E7
    · exact E8
  have H : Fm s s.heap f := ⟨hEx, fun i j hi hj ne => (hFl i hi).ne (hFl j hj) (fun q => ne (by
    have q1 : v i = v j := Value.int.inj q
    have q2 := hv i hi
    have q3 := hv j hj
    rw [q1] at q2; omega)), S0, S1, S2, S3, S4, S5, S6, S7, S8⟩
  obtain ⟨n, o, h1, h2, h3, _, L, rfl, ⟨N, -, rfl, -⟩, hq⟩ := c_law l s _ hw s.heap.size i0 f s.heap (Old.start s) H tables_1 p e ha hc hk s m _ below hf ((Spec.applies_iff_loose hf).mp happ).1 ⟨rfl, State.Warmed39.refl s, rfl, nofun⟩ trivial
  refine ⟨n, _, h1, h2, h3, hpost _ _ _ _ _ _ ⟨Cond.after_iff.mpr rfl, Cond.after_iff.mpr (eq_i res_at (Term.int_eval (1)) rfl), trivial⟩ ⟨hq.1, hq.2.1, (hq.2.2.sift fun y hy => Or.inr (N y hy)).mono (by decide) (by decide)⟩⟩
theorem main_1_1 : Claimed_1_1 := comes_1 fun _ _ _ _ _ _ h hF => ⟨h.1, hF⟩
theorem main_1_2 : Claimed_1_2 := comes_1 fun _ _ _ _ _ _ h hF => ⟨h.2.1, hF⟩
end Jvm.Pilot.@@N@@
namespace Jvm.Pilot.@@N@@
open Jvm Jvm.ClassFile Sem Op Lib Jvm.Free Jvm.Stand Jvm.Pilot.@@N@@.Jvm.D
/-! MADE BY PROGRAM (witnessworld.py) out of the Statement's table words and the real class files: 12 classes; the members and pool entries that the words name. The judged class is class 1, her method 1. -/
namespace start1
open Jvm.ClassFile
def u (s : String) : CpInfo := .utf8 (stringToUtf16 s)
/-- a pool by its gaps: so many unusable entries, then the entry; so many at the end -/
def gap : Nat → List CpInfo → List CpInfo
  | 0, r => r
  | n + 1, r => .unusable :: gap n r
def poolList (es : List (Nat × CpInfo)) (last : Nat) : List CpInfo := es.foldr (fun e r => gap e.1 (e.2 :: r)) (gap last [])
def pool (es : List (Nat × CpInfo)) (last : Nat) : Array CpInfo := ⟨poolList es last⟩
def fileOf (pool : Array CpInfo) (this : Nat) (attrs : Array Attribute := #[]) (ms : Array MethodInfo := #[]) (fl : Nat := 33) (sup : Nat := 0) (ifs : Array Nat := #[]) (fds : Array FieldInfo := #[]) : ClassFile where
  minorVersion := 0
  majorVersion := 65
  constantPool := pool
  accessFlags := fl
  thisClass := this
  superClass := sup
  interfaces := ifs
  fields := fds
  methods := ms
  attributes := attrs
def plain (name : String) (sup : Option ClassId) : Class where
  name := name
  kind := .ordinary
  loader := none
  accessFlags := 33
  super := sup
  interfaces := #[]
  cf := none
  fields := #[]
  methods := #[]
  instanceTypes := #[]
  staticTypes := #[]
  resolved := #[]
  callSites := []
  init := .initialized
  statics := none
  mirror := none

def pool0 : Array CpInfo := pool [(5, u "<init>"), (0, u "()V"), (1, .class_ 10), (1, u "java/lang/Object")] 113

def k0m0 : Method := { name := "<init>", desc := "()V", sig := { parameters := [], returnType := none }, accessFlags := 1, code := none }
/-- java/lang/Object -/
def k0 : Class := { plain "java/lang/Object" none with
  accessFlags := 33
  interfaces := #[]
  cf := some (fileOf pool0 8 #[] #[{ accessFlags := 1, nameIndex := 5, descriptorIndex := 6, attributes := #[] }] 33 0 #[] #[])
  fields := #[]
  methods := #[k0m0]
  instanceTypes := #[]
  staticTypes := #[]
  resolved := Array.replicate 124 none
  statics := none }

def pool1 : Array CpInfo := pool [(2, .class_ 4), (1, u "java/lang/Object"), (0, u "<init>"), (0, u "()V"), (0, .integer 2147483647), (0, .methodref 9 10), (0, .class_ 11), (0, .nameAndType 12 13), (0, u "com/example/gerbang/gerbang/script/FormTakesBlockPinLaw"), (0, u "pick"), (0, u "(I)Lcom/example/gerbang/gerbang/script/Command$Form;"), (0, .methodref 15 16), (0, .class_ 17), (0, .nameAndType 18 19), (0, u "com/example/gerbang/gerbang/script/Command$Form"), (0, u "takesBlock"), (0, u "()Z"), (0, .fieldref 15 21), (0, .nameAndType 22 23), (0, u "NONE"), (0, u "Lcom/example/gerbang/gerbang/script/Command$Form;"), (0, .fieldref 15 25), (0, .nameAndType 26 23), (0, u "FILE"), (0, .fieldref 15 28), (0, .nameAndType 29 23), (0, u "CHIP_FILE"), (0, .fieldref 15 31), (0, .nameAndType 32 23), (0, u "PROGRAM_FILE"), (0, .fieldref 15 34), (0, .nameAndType 35 23), (0, u "COLUMNS"), (0, .fieldref 15 37), (0, .nameAndType 38 23), (0, u "PIN_AND_VALUE"), (0, .fieldref 15 40), (0, .nameAndType 41 23), (0, u "TEXT"), (0, .fieldref 15 43), (0, .nameAndType 44 23), (0, u "COUNT_AND_BLOCK"), (0, .fieldref 15 46), (0, .nameAndType 47 23), (0, u "CONDITION_AND_BLOCK"), (2, u "law"), (0, u "(I)Z")] 7

def k1m0 : Method := { name := "<init>", desc := "()V", sig := { parameters := [], returnType := none }, accessFlags := 2, code := none }
def k1c1 : Code := { maxStack := 2, maxLocals := 4, code := code, exceptionTable := #[], attributes := #[] }
def k1m1 : Method := { name := "law", desc := "(I)Z", sig := { parameters := [.int], returnType := some .boolean }, accessFlags := 9, code := some k1c1 }
def k1c2 : Code := { maxStack := 2, maxLocals := 1, code := method_3_code, exceptionTable := #[], attributes := #[] }
def k1m2 : Method := { name := "pick", desc := "(I)Lcom/example/gerbang/gerbang/script/Command$Form;", sig := { parameters := [.int], returnType := some (.object "com/example/gerbang/gerbang/script/Command$Form") }, accessFlags := 10, code := some k1c2 }
/-- com/example/gerbang/gerbang/script/FormTakesBlockPinLaw -/
def k1 : Class := { plain "com/example/gerbang/gerbang/script/FormTakesBlockPinLaw" (some 0) with
  accessFlags := 49
  interfaces := #[]
  cf := some (fileOf pool1 9 #[] #[{ accessFlags := 2, nameIndex := 5, descriptorIndex := 6, attributes := #[] }, { accessFlags := 9, nameIndex := 50, descriptorIndex := 51, attributes := #[] }, { accessFlags := 10, nameIndex := 12, descriptorIndex := 13, attributes := #[] }] 49 2 #[] #[])
  fields := #[]
  methods := #[k1m0, k1m1, k1m2]
  instanceTypes := #[]
  staticTypes := #[]
  resolved := Array.replicate 59 none
  statics := none }

def pool2 : Array CpInfo := pool [(1, .class_ 2), (0, u "java/lang/constant/Constable"), (0, .class_ 4), (0, u "java/lang/Object")] 6

/-- java/lang/constant/Constable -/
def k2 : Class := { plain "java/lang/constant/Constable" (some 0) with
  accessFlags := 1537
  interfaces := #[]
  cf := some (fileOf pool2 1 #[] #[] 1537 3 #[] #[])
  fields := #[]
  methods := #[]
  instanceTypes := #[]
  staticTypes := #[]
  resolved := Array.replicate 11 none
  statics := none }

def pool3 : Array CpInfo := pool [(1, .class_ 2), (0, u "java/lang/Comparable"), (0, .class_ 4), (0, u "java/lang/Object")] 7

/-- java/lang/Comparable -/
def k3 : Class := { plain "java/lang/Comparable" (some 0) with
  accessFlags := 1537
  interfaces := #[]
  cf := some (fileOf pool3 1 #[] #[] 1537 3 #[] #[])
  fields := #[]
  methods := #[]
  instanceTypes := #[]
  staticTypes := #[]
  resolved := Array.replicate 12 none
  statics := none }

def pool4 : Array CpInfo := pool [(1, .class_ 2), (0, u "java/io/Serializable"), (0, .class_ 4), (0, u "java/lang/Object")] 2

/-- java/io/Serializable -/
def k4 : Class := { plain "java/io/Serializable" (some 0) with
  accessFlags := 1537
  interfaces := #[]
  cf := some (fileOf pool4 1 #[] #[] 1537 3 #[] #[])
  fields := #[]
  methods := #[]
  instanceTypes := #[]
  staticTypes := #[]
  resolved := Array.replicate 7 none
  statics := none }

def pool5 : Array CpInfo := pool [(2, .class_ 4), (1, u "java/lang/Enum"), (0, u "name"), (0, u "Ljava/lang/String;"), (2, u "ordinal"), (0, u "I"), (1, .class_ 14), (1, u "java/lang/Object"), (4, u "hash"), (86, .class_ 108), (1, u "java/lang/Enum$EnumDesc"), (2, .class_ 112), (0, u "java/lang/constant/Constable"), (0, .class_ 114), (0, u "java/lang/Comparable"), (0, .class_ 116), (0, u "java/io/Serializable")] 87

/-- java/lang/Enum -/
def k5 : Class := { plain "java/lang/Enum" (some 0) with
  accessFlags := 1057
  interfaces := #[2, 3, 4]
  cf := some (fileOf pool5 2 #[.nestMembers #[106]] #[] 1057 12 #[111, 113, 115] #[{ accessFlags := 18, nameIndex := 5, descriptorIndex := 6, attributes := #[] }, { accessFlags := 18, nameIndex := 9, descriptorIndex := 10, attributes := #[] }, { accessFlags := 2, nameIndex := 19, descriptorIndex := 10, attributes := #[] }])
  fields := #[{ name := "name", type := (.object "java/lang/String"), accessFlags := 18, slot := 0, constantValue := 0 }, { name := "ordinal", type := .int, accessFlags := 18, slot := 1, constantValue := 0 }, { name := "hash", type := .int, accessFlags := 2, slot := 2, constantValue := 0 }]
  methods := #[]
  instanceTypes := #[(.object "java/lang/String"), .int, .int]
  staticTypes := #[]
  resolved := Array.replicate 204 none
  statics := none }

def pool6 : Array CpInfo := pool [(1, .class_ 2), (0, u "com/example/gerbang/gerbang/script/Command$Form"), (2, u "NONE"), (0, u "Lcom/example/gerbang/gerbang/script/Command$Form;"), (2, u "FILE"), (2, u "CHIP_FILE"), (2, u "PROGRAM_FILE"), (2, u "COLUMNS"), (2, u "PIN_AND_VALUE"), (2, u "TEXT"), (0, .fieldref 1 26), (0, .nameAndType 27 6), (0, u "COUNT_AND_BLOCK"), (0, .fieldref 1 29), (0, .nameAndType 30 6), (0, u "CONDITION_AND_BLOCK"), (2, u "$VALUES"), (0, u "[Lcom/example/gerbang/gerbang/script/Command$Form;"), (6, .class_ 43), (1, u "java/lang/Enum"), (27, u "takesBlock"), (0, u "()Z"), (6, .class_ 80), (0, u "com/example/gerbang/gerbang/script/Command")] 2

def k6c0 : Code := { maxStack := 2, maxLocals := 1, code := prog_14_method_4_code, exceptionTable := #[], attributes := #[] }
def k6m0 : Method := { name := "takesBlock", desc := "()Z", sig := { parameters := [], returnType := some .boolean }, accessFlags := 0, code := some k6c0 }
/-- com/example/gerbang/gerbang/script/Command$Form -/
def k6 : Class := { plain "com/example/gerbang/gerbang/script/Command$Form" (some 5) with
  accessFlags := 16432
  interfaces := #[]
  cf := some (fileOf pool6 1 #[.nestHost 79] #[{ accessFlags := 0, nameIndex := 71, descriptorIndex := 72, attributes := #[] }] 16432 41 #[] #[{ accessFlags := 16409, nameIndex := 5, descriptorIndex := 6, attributes := #[] }, { accessFlags := 16409, nameIndex := 9, descriptorIndex := 6, attributes := #[] }, { accessFlags := 16409, nameIndex := 12, descriptorIndex := 6, attributes := #[] }, { accessFlags := 16409, nameIndex := 15, descriptorIndex := 6, attributes := #[] }, { accessFlags := 16409, nameIndex := 18, descriptorIndex := 6, attributes := #[] }, { accessFlags := 16409, nameIndex := 21, descriptorIndex := 6, attributes := #[] }, { accessFlags := 16409, nameIndex := 24, descriptorIndex := 6, attributes := #[] }, { accessFlags := 16409, nameIndex := 27, descriptorIndex := 6, attributes := #[] }, { accessFlags := 16409, nameIndex := 30, descriptorIndex := 6, attributes := #[] }, { accessFlags := 4122, nameIndex := 33, descriptorIndex := 34, attributes := #[] }])
  fields := #[{ name := "NONE", type := (.object "com/example/gerbang/gerbang/script/Command$Form"), accessFlags := 16409, slot := 0, constantValue := 0 }, { name := "FILE", type := (.object "com/example/gerbang/gerbang/script/Command$Form"), accessFlags := 16409, slot := 1, constantValue := 0 }, { name := "CHIP_FILE", type := (.object "com/example/gerbang/gerbang/script/Command$Form"), accessFlags := 16409, slot := 2, constantValue := 0 }, { name := "PROGRAM_FILE", type := (.object "com/example/gerbang/gerbang/script/Command$Form"), accessFlags := 16409, slot := 3, constantValue := 0 }, { name := "COLUMNS", type := (.object "com/example/gerbang/gerbang/script/Command$Form"), accessFlags := 16409, slot := 4, constantValue := 0 }, { name := "PIN_AND_VALUE", type := (.object "com/example/gerbang/gerbang/script/Command$Form"), accessFlags := 16409, slot := 5, constantValue := 0 }, { name := "TEXT", type := (.object "com/example/gerbang/gerbang/script/Command$Form"), accessFlags := 16409, slot := 6, constantValue := 0 }, { name := "COUNT_AND_BLOCK", type := (.object "com/example/gerbang/gerbang/script/Command$Form"), accessFlags := 16409, slot := 7, constantValue := 0 }, { name := "CONDITION_AND_BLOCK", type := (.object "com/example/gerbang/gerbang/script/Command$Form"), accessFlags := 16409, slot := 8, constantValue := 0 }, { name := "$VALUES", type := (.array (.object "com/example/gerbang/gerbang/script/Command$Form")), accessFlags := 4122, slot := 9, constantValue := 0 }]
  methods := #[k6m0]
  instanceTypes := #[(.object "java/lang/String"), .int, .int]
  staticTypes := #[(.object "com/example/gerbang/gerbang/script/Command$Form"), (.object "com/example/gerbang/gerbang/script/Command$Form"), (.object "com/example/gerbang/gerbang/script/Command$Form"), (.object "com/example/gerbang/gerbang/script/Command$Form"), (.object "com/example/gerbang/gerbang/script/Command$Form"), (.object "com/example/gerbang/gerbang/script/Command$Form"), (.object "com/example/gerbang/gerbang/script/Command$Form"), (.object "com/example/gerbang/gerbang/script/Command$Form"), (.object "com/example/gerbang/gerbang/script/Command$Form"), (.array (.object "com/example/gerbang/gerbang/script/Command$Form"))]
  resolved := Array.replicate 83 none
  statics := some 0 }

def pool7 : Array CpInfo := pool [(1, u "java/lang/Cloneable"), (0, .class_ 1), (0, u "java/lang/Object"), (0, .class_ 3)] 3

/-- java/lang/Cloneable -/
def k7 : Class := { plain "java/lang/Cloneable" (some 0) with
  accessFlags := 1537
  interfaces := #[]
  cf := some (fileOf pool7 2 #[] #[] 1537 4 #[] #[])
  fields := #[]
  methods := #[]
  instanceTypes := #[]
  staticTypes := #[]
  resolved := Array.replicate 8 none
  statics := none }

/-- the primitive byte -/
def k8 : Class := { plain "byte" none with kind := .primitive 'B', accessFlags := 0x411 }
/-- [B -/
def k9 : Class := { plain "[B" (some 0) with kind := .array 8 .byte, interfaces := #[7, 4], accessFlags := 1041 }

/-- the primitive int -/
def k10 : Class := { plain "int" none with kind := .primitive 'I', accessFlags := 0x411 }
/-- [I -/
def k11 : Class := { plain "[I" (some 0) with kind := .array 10 .int, interfaces := #[7, 4], accessFlags := 1041 }

def heap : Heap := #[{ cls := 6, slots := #[.ref 1, .ref 2, .ref 3, .ref 4, .ref 5, .ref 6, .ref 7, .ref 8, .ref 9, .null], vm := .statics 6 },
  { cls := 6, slots := #[.null, .int 0, .int 0], vm := .none },
  { cls := 6, slots := #[.null, .int 1, .int 0], vm := .none },
  { cls := 6, slots := #[.null, .int 2, .int 0], vm := .none },
  { cls := 6, slots := #[.null, .int 3, .int 0], vm := .none },
  { cls := 6, slots := #[.null, .int 4, .int 0], vm := .none },
  { cls := 6, slots := #[.null, .int 5, .int 0], vm := .none },
  { cls := 6, slots := #[.null, .int 6, .int 0], vm := .none },
  { cls := 6, slots := #[.null, .int 7, .int 0], vm := .none },
  { cls := 6, slots := #[.null, .int 8, .int 0], vm := .none }]
def classes : Array Class := #[k0, k1, k2, k3, k4, k5, k6, k7, k8, k9, k10, k11]
def interned : List (Array UInt16 × Addr) := []
def slotsUsed : Nat := 37
def theMethod : MethodId := ⟨1, 1⟩
def args0 : Array Value := #[.int 5]
def aboutOver (below : List Frame) : State where
  vm := { classes := classes, interned := interned.toArray }
  heap := heap
  slotsUsed := slotsUsed
  threads := #[{ frames := .invoking theMethod args0 :: below }]
def below0 : List Frame := [.native { method := ⟨0, 0⟩, args := #[] }]
def about1 : State := aboutOver below0
def p0 : Program := .bare "" "" ""
def e0 : Env := launch0.env 0 0 0
theorem w_frames : about1.frames = Frame.invoking theMethod args0 :: below0 := rfl
set_option maxRecDepth 65536 in
theorem w_args : argsFit about1.vm theMethod args0 = true := by decide +kernel
set_option maxRecDepth 65536 in
theorem w_heap : heapFits about1 = true := by decide +kernel
set_option maxRecDepth 65536 in
theorem w_runnable : about1.curStatus? = some .runnable := by decide +kernel
set_option maxRecDepth 65536 in
theorem w_alone : about1.alone = true := by decide +kernel
set_option maxRecDepth 65536 in
theorem w_named : about1.methodNamed? x = some theMethod := by decide +kernel
set_option maxRecDepth 65536 in
theorem w_hears : about1.hears theMethod below0 = true := by decide +kernel
set_option maxRecDepth 65536 in
theorem w_ripe : about1.ripe theMethod args0 below0 = true := by decide +kernel
theorem w_running : about1.status = .running := rfl
set_option maxRecDepth 65536 in
theorem w_room : about1.hasRoom e0.platform room_1 = true :=
  launch0.hasRoom_least _ room_1 (by decide +kernel) (by decide +kernel) (by decide +kernel) (by decide +kernel) (by decide +kernel) (by decide +kernel)
theorem allAtoms_all (ts : List Jvm.Cond) (a : Array Jvm.Value) (st : Jvm.State) : (allAtoms ts).before a st = ts.all (fun c => c.before a st) := by
  induction ts with
  | nil => rfl
  | cons c t ih =>
    show (Jvm.Cond.and c (allAtoms t)).before a st = _
    rw [Jvm.Cond.before_and, ih, List.all_cons]
def words1 : List Jvm.Cond := Jvm.Cond.code x code maxLocals ret :: tables_1
/-- a 'code' word, met by the world's own term for the bytes: nothing is compared byte by byte -/
theorem code_word {y : MethodName} {bytes : ByteArray} {mx : Nat} {rt : Option FieldType} {a : Array Value} {s : State} {m : MethodId} {meth : Method} {c : Code} (h1 : s.methodNamed? y = some m) (h2 : s.vm.method? m = some meth) (h3 : meth.code = some c) (h4 : c.code = bytes)
    (h5 : (c.maxLocals == mx && c.exceptionTable.isEmpty && decide (c.maxStack ≤ mostOperands) && decide (meth.sig.returnType = rt) && !meth.locks && decide (parseMethodDescriptor y.desc = some meth.sig)) = true) : (Jvm.Cond.code y bytes mx rt).before a s = true := by
  simp only [Bool.and_eq_true, beq_iff_eq, Bool.not_eq_true', decide_eq_true_eq] at h5
  obtain ⟨⟨⟨⟨⟨g1, g2⟩, g3⟩, g4⟩, g5⟩, g6⟩ := h5
  simp [Cond.before, Cond.holds, Cond.value, h1, h2, h3, h4, g1, g2, g3, g4, g5, g6]
def isCode : Jvm.Cond → Bool
  | .code _ _ _ _ => true
  | _ => false
theorem all_split {L : List Jvm.Cond} {P : Jvm.Cond → Bool} (h1 : L.all (fun c => isCode c || P c) = true) (h2 : ∀ c ∈ L.filter isCode, P c = true) : L.all P = true := by
  refine List.all_eq_true.mpr fun c hc => ?_
  have h := List.all_eq_true.mp h1 c hc
  rcases Bool.eq_false_or_eq_true (isCode c) with hi | hi
  · exact h2 c (List.mem_filter.mpr ⟨hc, hi⟩)
  · simpa [hi] using h
set_option maxRecDepth 65536 in
theorem w_c0 : (Jvm.Cond.code x code maxLocals ret).before args0 about1 = true := code_word (m := ⟨1, 1⟩) (meth := k1m1) (c := k1c1) (by decide +kernel) rfl rfl rfl (by decide +kernel)
set_option maxRecDepth 65536 in
theorem w_c1 : (Jvm.Cond.code ({ cls := "com/example/gerbang/gerbang/script/FormTakesBlockPinLaw", name := "pick", desc := "(I)Lcom/example/gerbang/gerbang/script/Command$Form;" } : Jvm.MethodName) method_3_code (1 : Nat) (Option.some (Jvm.ClassFile.FieldType.object "com/example/gerbang/gerbang/script/Command$Form"))).before args0 about1 = true := code_word (m := ⟨1, 2⟩) (meth := k1m2) (c := k1c2) (by decide +kernel) rfl rfl rfl (by decide +kernel)
set_option maxRecDepth 65536 in
theorem w_c2 : (Jvm.Cond.code ({ cls := "com/example/gerbang/gerbang/script/Command$Form", name := "takesBlock", desc := "()Z" } : Jvm.MethodName) prog_14_method_4_code (1 : Nat) (Option.some Jvm.ClassFile.FieldType.boolean)).before args0 about1 = true := code_word (m := ⟨6, 0⟩) (meth := k6m0) (c := k6c0) (by decide +kernel) rfl rfl rfl (by decide +kernel)
def codes1 : List Jvm.Cond := [Jvm.Cond.code x code maxLocals ret, Jvm.Cond.code ({ cls := "com/example/gerbang/gerbang/script/FormTakesBlockPinLaw", name := "pick", desc := "(I)Lcom/example/gerbang/gerbang/script/Command$Form;" } : Jvm.MethodName) method_3_code (1 : Nat) (Option.some (Jvm.ClassFile.FieldType.object "com/example/gerbang/gerbang/script/Command$Form")), Jvm.Cond.code ({ cls := "com/example/gerbang/gerbang/script/Command$Form", name := "takesBlock", desc := "()Z" } : Jvm.MethodName) prog_14_method_4_code (1 : Nat) (Option.some Jvm.ClassFile.FieldType.boolean)]
set_option maxRecDepth 65536 in
theorem codes_eq : words1.filter isCode = codes1 := rfl
theorem w_codes : ∀ c ∈ words1.filter isCode, c.before args0 about1 = true := by
  rw [codes_eq]
  intro c hc
  simp only [codes1, List.mem_cons, List.not_mem_nil, or_false] at hc
  rcases hc with rfl | rfl | rfl
  · exact w_c0
  · exact w_c1
  · exact w_c2
set_option maxRecDepth 65536 in
theorem w_t1 : (words1.take 24).all (fun c => isCode c || c.before args0 about1) = true := by decide +kernel
set_option maxRecDepth 65536 in
theorem w_t2 : (words1.drop 24).all (fun c => isCode c || c.before args0 about1) = true := by decide +kernel
theorem w_tables : (allAtoms (Jvm.Cond.code x code maxLocals ret :: tables_1)).before args0 about1 = true := by
  rw [allAtoms_all]
  show words1.all (fun c => c.before args0 about1) = true
  refine all_split ?_ w_codes
  rw [← List.take_append_drop 24 words1, List.all_append, w_t1, w_t2]
  rfl
set_option maxRecDepth 65536 in
theorem w_case : (Jvm.Cond.and given_1 narrow_1).before args0 about1 = true := by decide +kernel
theorem w_applies : (headSpec (Jvm.Cond.code x code maxLocals ret :: tables_1) room_1).applies x e0.platform about1 = true :=
  (Spec.applies_iff w_frames).mpr ⟨w_running, w_runnable, w_alone, w_named, w_hears, w_ripe, w_room, w_tables⟩
theorem atStart : AtStart classFile x code maxLocals ret World_1 tables_1 room_1 Calls_1 rest_1 Pre_1 launch0 p0 e0 about1 theMethod args0 below0 :=
  ⟨lists_1, trivial, launch0.admits_env _ _ _, launch0.least_env, fairChoices_fair.cas, fairChoices_fair.clock, w_frames, w_args, w_heap, w_applies, trivial, trivial, w_case⟩
end start1
theorem witness_1 : WitnessClaimed_1 := ⟨start1.p0, start1.e0, start1.about1, start1.theMethod, start1.args0, start1.below0, start1.atStart⟩
end Jvm.Pilot.@@N@@
