import JvmDerived
import JvmDerived.Pilot.@@N@@Statement
import JvmDerived.Pilot.@@N@@Code
set_option linter.unusedVariables false
set_option linter.unusedSimpArgs false
namespace Jvm.Pilot.@@N@@
open Jvm Jvm.ClassFile Sem Op Lib Jvm.Free Jvm.Stand Jvm.LawKit Jvm.RoadKit Bundle Jvm.Pilot.@@N@@.Jvm.D
/-! A. where a walk stands: W; what a body owes: Gl; a body's contract: Ctr -/
abbrev Cx := Program × Env × State × MethodId × Array Value × List Frame × Method × Code × State
def W (l : Launch) (Z : State) (n0 : Nat) (y : MethodName) (bytes : ByteArray) (maxl : Nat) (ret : Option FieldType) (R : Room) (G : Cx) (h : Heap) (pc : Nat) (Ls : Array Slot) (St : List Value) (cells slots : Nat) : Prop :=
  match G with
  | (p, e, s, m, args, below, meth, c, st) =>
    p.tables.exec = Jvm.exec ∧ Z.Warmed39 s.vm ∧ c.code = bytes ∧ c.maxLocals = maxl ∧ s.vm.findClass y.cls = some m.cls ∧ meth.name = y.name ∧ meth.sig.returnType = ret ∧ meth.locks = false ∧ n0 ≤ s.heap.size ∧
    ∃ (T : State) (locs : List Loc), Stand p l e R s m args below meth c T locs cells slots ∧ Fr n0 locs ∧ T.heap = h ∧ ∀ t, Steps p.tables e below (T.setTop (mkF m pc Ls St)) t → Steps p.tables e below st t
def Gl (R : Room) (n0 : Nat) (G : Cx) (Q : Option Value → Heap → Prop) : Prop :=
  match G with
  | (p, e, s, m, args, below, meth, c, st) => ∃ s₂ o, Steps p.tables e below st s₂ ∧ s₂.status = .running ∧ Ended s₂ below o ∧ ∃ v L, o = .returned v ∧ (Fr n0 L ∧ Q v s₂.heap) ∧ FrameEnd s o s₂ L R.cells R.slots
def Ctr (l : Launch) (Z : State) (n0 : Nat) (y : MethodName) (bytes : ByteArray) (maxl : Nat) (ret : Option FieldType) (ws : List Jvm.Cond) (R : Room) (as : Array Value) (h0 : Heap) (Q : Option Value → Heap → Prop) : Prop :=
  MetFree l y (head1 (Jvm.Cond.code y bytes maxl ret :: ws) R) (fun a U => a = as ∧ Z.Warmed39 U.vm ∧ U.heap = h0) (fun _ _ _ _ _ => True) (fun _ U o U' => ∃ v L, o = .returned v ∧ (Fr n0 L ∧ Q v U'.heap) ∧ FrameEnd U o U' L R.cells R.slots)
def QI (P : Int32 → Heap → Prop) (v : Option Value) (h : Heap) : Prop := ∃ r, v = some (.int r) ∧ P r h
def QJ (P : Int64 → Heap → Prop) (v : Option Value) (h : Heap) : Prop := ∃ r, v = some (.long r) ∧ P r h
def QA (P : Addr → Heap → Prop) (v : Option Value) (h : Heap) : Prop := ∃ r, v = some (.ref r) ∧ P r h
def QV (P : Heap → Prop) (v : Option Value) (h : Heap) : Prop := v = none ∧ P h
theorem ilt {x y : Int32} {a b : Int} (ha : x.toInt = a) (hb : y.toInt = b) (h : a < b) : x < y := by subst ha hb; exact Int32.lt_iff_toInt_lt.mpr h
theorem inlt {x y : Int32} {a b : Int} (ha : x.toInt = a) (hb : y.toInt = b) (h : ¬ a < b) : ¬ x < y := by subst ha hb; exact fun q => h (Int32.lt_iff_toInt_lt.mp q)
theorem igt {x y : Int32} {a b : Int} (ha : x.toInt = a) (hb : y.toInt = b) (h : b < a) : y < x := ilt hb ha h
theorem ingt {x y : Int32} {a b : Int} (ha : x.toInt = a) (hb : y.toInt = b) (h : ¬ b < a) : ¬ y < x := inlt hb ha h
theorem ieq {x y : Int32} {a b : Int} (ha : x.toInt = a) (hb : y.toInt = b) (h : a = b) : x = y := by subst ha hb; exact Int32.toInt_inj.mp h
theorem ine {x y : Int32} {a b : Int} (ha : x.toInt = a) (hb : y.toInt = b) (h : ¬ a = b) : ¬ x = y := by subst ha hb; exact fun q => h (Int32.toInt_inj.mpr q)
theorem llt {x y : Int64} {a b : Int} (ha : x.toInt = a) (hb : y.toInt = b) (h : a < b) : lcmpW x y < 0 := by subst ha hb; exact (lw_lt _ _).mpr (Int64.lt_iff_toInt_lt.mpr h)
theorem lnlt {x y : Int64} {a b : Int} (ha : x.toInt = a) (hb : y.toInt = b) (h : ¬ a < b) : ¬ lcmpW x y < 0 := by subst ha hb; exact fun q => h (Int64.lt_iff_toInt_lt.mp ((lw_lt _ _).mp q))
theorem lgt {x y : Int64} {a b : Int} (ha : x.toInt = a) (hb : y.toInt = b) (h : b < a) : 0 < lcmpW x y := by subst ha hb; exact (lw_gt _ _).mpr (Int64.lt_iff_toInt_lt.mpr h)
theorem lngt {x y : Int64} {a b : Int} (ha : x.toInt = a) (hb : y.toInt = b) (h : ¬ b < a) : ¬ 0 < lcmpW x y := by subst ha hb; exact fun q => h (Int64.lt_iff_toInt_lt.mp ((lw_gt _ _).mp q))
theorem leq {x y : Int64} {a b : Int} (ha : x.toInt = a) (hb : y.toInt = b) (h : a = b) : lcmpW x y = 0 := by subst ha hb; exact (lw_eq _ _).mpr (Int64.toInt_inj.mp h)
theorem lne {x y : Int64} {a b : Int} (ha : x.toInt = a) (hb : y.toInt = b) (h : ¬ a = b) : ¬ lcmpW x y = 0 := by subst ha hb; exact fun q => h (Int64.toInt_inj.mpr ((lw_eq _ _).mp q))
section Walk
variable {l : Launch} {Z : State} {n0 : Nat} {y : MethodName} {bytes : ByteArray} {maxl : Nat} {ret : Option FieldType} {R : Room} {G : Cx} {h : Heap} {pc pc' : Nat} {Ls : Array Slot} {St : List Value} {C S C' S' : Nat} {Q : Option Value → Heap → Prop} {a0 : Array Value}
theorem W.mk {p : Program} {e : Env} {s : State} {m : MethodId} {args : Array Value} {below : List Frame} {meth : Method} {c : Code} {st : State} {T : State} {locs : List Loc} (hx : p.tables.exec = Jvm.exec) (hZ : Z.Warmed39 s.vm) (hby : c.code = bytes) (hml : c.maxLocals = maxl) (hown : s.vm.findClass y.cls = some m.cls) (hnm : meth.name = y.name) (hrt : meth.sig.returnType = ret) (hlk : meth.locks = false) (hn0 : n0 ≤ s.heap.size)
    (X : Stand p l e R s m args below meth c T locs C S) (N : Fr n0 locs) (eT : T.heap = h) (k : ∀ t, Steps p.tables e below (T.setTop (mkF m pc Ls St)) t → Steps p.tables e below st t) : W l Z n0 y bytes maxl ret R (p, e, s, m, args, below, meth, c, st) h pc Ls St C S :=
  show _ ∧ _ from ⟨hx, hZ, hby, hml, hown, hnm, hrt, hlk, hn0, T, locs, X, N, eT, k⟩
theorem ctr_of {ws : List Jvm.Cond} {as : Array Value} (hpn : plainFor y = true) (hn0 : n0 ≤ h.size) (hef : ∀ m, entryFrame m as maxl = mkF m 0 Ls []) (body : ∀ G, W l Z n0 y bytes maxl ret R G h 0 Ls [] 0 0 → Gl R n0 G Q) : Ctr l Z n0 y bytes maxl ret ws R as h Q := by
  refine MetFree.of_bodySF hpn hisR ?_
  intro p e s m args below meth c s₁ Bd hml0 hP hK
  obtain ⟨rfl, hZ, hh⟩ := hP
  have e0 : s₁.heap = h := by rw [← hh, Bd.state]; rfl
  exact body (p, e, s, m, args, below, meth, c, s₁.setTop (entryFrame m args maxl)) (W.mk Bd.exec hZ Bd.bytes hml0 (findClass_of_methodNamed Bd.named) (name_of_methodNamed Bd.named Bd.method).1 Bd.returns (BodyLoose.notSynchronized Bd) (hh ▸ hn0) (Stand.of_body Bd) (Fr.nil n0) e0 (fun t k => castTop (hef m) k))
theorem W.size (A : W l Z n0 y bytes maxl ret R G h pc Ls St C S) : n0 ≤ h.size := by
  obtain ⟨p, e, s, m, args, below, meth, c, st⟩ := G
  obtain ⟨hx, hZ, hby, hml, hown, hnm, hrt, hlk, hn0, T, locs, X, N, eT, k⟩ := A
  exact Nat.le_trans hn0 (by rw [← eT]; exact X.same.2.1)
theorem W.more (A : W l Z n0 y bytes maxl ret R G h pc Ls St C S) (hC : C ≤ C') (hS : S ≤ S') : W l Z n0 y bytes maxl ret R G h pc Ls St C' S' := by
  obtain ⟨p, e, s, m, args, below, meth, c, st⟩ := G
  obtain ⟨hx, hZ, hby, hml, hown, hnm, hrt, hlk, hn0, T, locs, X, N, eT, k⟩ := A
  exact W.mk hx hZ hby hml hown hnm hrt hlk hn0 (X.more hC hS) N eT k
theorem W.cast {Ls' : Array Slot} {St' : List Value} (A : W l Z n0 y bytes maxl ret R G h pc Ls St C S) (hp : pc = pc') (hL : Ls = Ls') (hSt : St = St') : W l Z n0 y bytes maxl ret R G h pc' Ls' St' C S := by subst hp hL hSt; exact A
/-- a plain step -/
theorem W.step (A : W l Z n0 y bytes maxl ret R G h pc Ls St C S) {Ls' : Array Slot} {St' : List Value}
    (f : ∀ {p : Program} {e : Env} {s : State} {m : MethodId} {args : Array Value} {below : List Frame} {meth : Method} {c : Code} {T t : State} {locs : List Loc}, Stand p l e R s m args below meth c T locs C S → p.tables.exec = Jvm.exec → Z.Warmed39 s.vm → s.vm.findClass y.cls = some m.cls → c.code = bytes → T.heap = h → Steps p.tables e below (T.setTop (mkF m pc' Ls' St')) t → Steps p.tables e below (T.setTop (mkF m pc Ls St)) t) : W l Z n0 y bytes maxl ret R G h pc' Ls' St' C S := by
  obtain ⟨p, e, s, m, args, below, meth, c, st⟩ := G
  obtain ⟨hx, hZ, hby, hml, hown, hnm, hrt, hlk, hn0, T, locs, X, N, eT, k⟩ := A
  exact W.mk hx hZ hby hml hown hnm hrt hlk hn0 X N eT (fun t q => k t (f X hx hZ hown hby eT q))
/-! B. plain instructions -/
theorem W.iloadN (A : W l Z n0 y bytes maxl ret R G h pc Ls St C S) {k : Fin 4} {v : Int32} (hd : decode bytes pc = .ok (.iload_n k, 1)) (hl : Ls[k.val]? = some (.val (.int v))) (hp : pc + 1 = pc') : W l Z n0 y bytes maxl ret R G h pc' Ls (.int v :: St) C S := by
  subst hp; exact A.step fun X hx _ _ q _ r => XS.iloadN X.here hx rfl (hb q hd) hl r
theorem W.iload (A : W l Z n0 y bytes maxl ret R G h pc Ls St C S) {k : Nat} {v : Int32} (hd : decode bytes pc = .ok (.iload k, 2)) (hl : Ls[k]? = some (.val (.int v))) (hp : pc + 2 = pc') : W l Z n0 y bytes maxl ret R G h pc' Ls (.int v :: St) C S := by
  subst hp; exact A.step fun X hx _ _ q _ r => XS.iload X.here hx rfl (hb q hd) hl r
theorem W.lloadN (A : W l Z n0 y bytes maxl ret R G h pc Ls St C S) {k : Fin 4} {v : Int64} (hd : decode bytes pc = .ok (.lload_n k, 1)) (hl : Ls[k.val]? = some (.val (.long v))) (hp : pc + 1 = pc') : W l Z n0 y bytes maxl ret R G h pc' Ls (.long v :: St) C S := by
  subst hp; exact A.step fun X hx _ _ q _ r => XS.lloadN X.here hx rfl (hb q hd) hl r
theorem W.lload (A : W l Z n0 y bytes maxl ret R G h pc Ls St C S) {k : Nat} {v : Int64} (hd : decode bytes pc = .ok (.lload k, 2)) (hl : Ls[k]? = some (.val (.long v))) (hp : pc + 2 = pc') : W l Z n0 y bytes maxl ret R G h pc' Ls (.long v :: St) C S := by
  subst hp; exact A.step fun X hx _ _ q _ r => XS.lload X.here hx rfl (hb q hd) hl r
theorem W.aloadN (A : W l Z n0 y bytes maxl ret R G h pc Ls St C S) {k : Fin 4} {v : Value} (hd : decode bytes pc = .ok (.aload_n k, 1)) (hl : Ls[k.val]? = some (.val v)) (hv : v.isRef = true) (hp : pc + 1 = pc') : W l Z n0 y bytes maxl ret R G h pc' Ls (v :: St) C S := by
  subst hp; exact A.step fun X hx _ _ q _ r => XS.aloadN X.here hx rfl (hb q hd) hl hv r
theorem W.aload (A : W l Z n0 y bytes maxl ret R G h pc Ls St C S) {k : Nat} {v : Value} (hd : decode bytes pc = .ok (.aload k, 2)) (hl : Ls[k]? = some (.val v)) (hv : v.isRef = true) (hp : pc + 2 = pc') : W l Z n0 y bytes maxl ret R G h pc' Ls (v :: St) C S := by
  subst hp; exact A.step fun X hx _ _ q _ r => XS.aload X.here hx rfl (hb q hd) hl hv r
theorem W.istoreN {v : Int32} (A : W l Z n0 y bytes maxl ret R G h pc Ls (.int v :: St) C S) {k : Fin 4} {Ls' : Array Slot} (hd : decode bytes pc = .ok (.istore_n k, 1)) (hl : storeLocals Ls k.val (.int v) = some Ls') (hp : pc + 1 = pc') : W l Z n0 y bytes maxl ret R G h pc' Ls' St C S := by
  subst hp; exact A.step fun X hx _ _ q _ r => XS.istoreN X.here hx rfl (hb q hd) rfl hl r
theorem W.istore {v : Int32} (A : W l Z n0 y bytes maxl ret R G h pc Ls (.int v :: St) C S) {k : Nat} {Ls' : Array Slot} (hd : decode bytes pc = .ok (.istore k, 2)) (hl : storeLocals Ls k (.int v) = some Ls') (hp : pc + 2 = pc') : W l Z n0 y bytes maxl ret R G h pc' Ls' St C S := by
  subst hp; exact A.step fun X hx _ _ q _ r => XS.istore X.here hx rfl (hb q hd) rfl hl r
theorem W.lstoreN {v : Int64} (A : W l Z n0 y bytes maxl ret R G h pc Ls (.long v :: St) C S) {k : Fin 4} {Ls' : Array Slot} (hd : decode bytes pc = .ok (.lstore_n k, 1)) (hl : storeLocals Ls k.val (.long v) = some Ls') (hp : pc + 1 = pc') : W l Z n0 y bytes maxl ret R G h pc' Ls' St C S := by
  subst hp; exact A.step fun X hx _ _ q _ r => XS.lstoreN X.here hx rfl (hb q hd) rfl hl r
theorem W.lstore {v : Int64} (A : W l Z n0 y bytes maxl ret R G h pc Ls (.long v :: St) C S) {k : Nat} {Ls' : Array Slot} (hd : decode bytes pc = .ok (.lstore k, 2)) (hl : storeLocals Ls k (.long v) = some Ls') (hp : pc + 2 = pc') : W l Z n0 y bytes maxl ret R G h pc' Ls' St C S := by
  subst hp; exact A.step fun X hx _ _ q _ r => XS.lstore X.here hx rfl (hb q hd) rfl hl r
theorem W.astoreN {v : Value} (A : W l Z n0 y bytes maxl ret R G h pc Ls (v :: St) C S) {k : Fin 4} {Ls' : Array Slot} (hd : decode bytes pc = .ok (.astore_n k, 1)) (hv : v.isRef = true) (hl : storeLocals Ls k.val v = some Ls') (hp : pc + 1 = pc') : W l Z n0 y bytes maxl ret R G h pc' Ls' St C S := by
  subst hp; exact A.step fun X hx _ _ q _ r => XS.astoreN X.here hx rfl (hb q hd) rfl hv hl r
theorem W.astore {v : Value} (A : W l Z n0 y bytes maxl ret R G h pc Ls (v :: St) C S) {k : Nat} {Ls' : Array Slot} (hd : decode bytes pc = .ok (.astore k, 2)) (hv : v.isRef = true) (hl : storeLocals Ls k v = some Ls') (hp : pc + 2 = pc') : W l Z n0 y bytes maxl ret R G h pc' Ls' St C S := by
  subst hp; exact A.step fun X hx _ _ q _ r => XS.astore X.here hx rfl (hb q hd) rfl hv hl r
theorem W.iconst (A : W l Z n0 y bytes maxl ret R G h pc Ls St C S) {i : Int} {z : Int32} (hd : decode bytes pc = .ok (.iconst i, 1)) (hz : Int32.ofInt i = z) (hp : pc + 1 = pc') : W l Z n0 y bytes maxl ret R G h pc' Ls (.int z :: St) C S := by
  subst hp hz; exact A.step fun X hx _ _ q _ r => XS.iconst X.here hx rfl (hb q hd) r
theorem W.bipush (A : W l Z n0 y bytes maxl ret R G h pc Ls St C S) {i : Int} {z : Int32} (hd : decode bytes pc = .ok (.bipush i, 2)) (hz : (Int8.ofInt i).toInt32 = z) (hp : pc + 2 = pc') : W l Z n0 y bytes maxl ret R G h pc' Ls (.int z :: St) C S := by
  subst hp hz; exact A.step fun X hx _ _ q _ r => XS.bipush X.here hx rfl (hb q hd) r
theorem W.sipush (A : W l Z n0 y bytes maxl ret R G h pc Ls St C S) {i : Int} {z : Int32} (hd : decode bytes pc = .ok (.sipush i, 3)) (hz : (Int16.ofInt i).toInt32 = z) (hp : pc + 3 = pc') : W l Z n0 y bytes maxl ret R G h pc' Ls (.int z :: St) C S := by
  subst hp hz; exact A.step fun X hx _ _ q _ r => XS.sipush X.here hx rfl (hb q hd) r
theorem W.lconst (A : W l Z n0 y bytes maxl ret R G h pc Ls St C S) {k : Fin 2} {z : Int64} (hd : decode bytes pc = .ok (.lconst k, 1)) (hz : Int64.ofNat k.val = z) (hp : pc + 1 = pc') : W l Z n0 y bytes maxl ret R G h pc' Ls (.long z :: St) C S := by
  subst hp hz; exact A.step fun X hx _ _ q _ r => XS.lconst X.here hx rfl (hb q hd) r
theorem W.aconstNull (A : W l Z n0 y bytes maxl ret R G h pc Ls St C S) (hd : decode bytes pc = .ok (.aconst_null, 1)) (hp : pc + 1 = pc') : W l Z n0 y bytes maxl ret R G h pc' Ls (.null :: St) C S := by
  subst hp; exact A.step fun X hx _ _ q _ r => XS.aconstNull X.here hx rfl (hb q hd) r
theorem W.ldc (A : W l Z n0 y bytes maxl ret R G h pc Ls St C S) {i : Nat} {z : Int32} (hd : decode bytes pc = .ok (.ldc i, 2)) (w : (Jvm.Cond.constant y.cls i z).before a0 Z = true) (hp : pc + 2 = pc') : W l Z n0 y bytes maxl ret R G h pc' Ls (.int z :: St) C S := by
  subst hp; exact A.step fun X hx hZ hown q _ r => X.ldcInt hx hown (mvT hZ w) (g := mkF _ pc Ls St) rfl (hb q hd) _ r
theorem W.ldcW (A : W l Z n0 y bytes maxl ret R G h pc Ls St C S) {i : Nat} {z : Int32} (hd : decode bytes pc = .ok (.ldc_w i, 3)) (w : (Jvm.Cond.constant y.cls i z).before a0 Z = true) (hp : pc + 3 = pc') : W l Z n0 y bytes maxl ret R G h pc' Ls (.int z :: St) C S := by
  subst hp; exact A.step fun X hx hZ hown q _ r => X.ldcwInt hx hown (mvT hZ w) (g := mkF _ pc Ls St) rfl (hb q hd) _ r
theorem W.ldc2 (A : W l Z n0 y bytes maxl ret R G h pc Ls St C S) {i : Nat} {z : Int64} (hd : decode bytes pc = .ok (.ldc2_w i, 3)) (w : (Jvm.Cond.constantLong y.cls i z).before a0 Z = true) (hp : pc + 3 = pc') : W l Z n0 y bytes maxl ret R G h pc' Ls (.long z :: St) C S := by
  subst hp; exact A.step fun X hx hZ hown q _ r => X.ldc2Long hx hown (mvT hZ w) (g := mkF _ pc Ls St) rfl (hb q hd) _ r
theorem W.iinc (A : W l Z n0 y bytes maxl ret R G h pc Ls St C S) {k : Nat} {i : Int} {v z : Int32} {Ls' : Array Slot} (hd : decode bytes pc = .ok (.iinc k i, 3)) (hl : Ls[k]? = some (.val (.int v))) (hz : v + Int32.ofInt i = z) (hl' : storeLocals Ls k (.int z) = some Ls') (hp : pc + 3 = pc') : W l Z n0 y bytes maxl ret R G h pc' Ls' St C S := by
  subst hp hz; exact A.step fun X hx _ _ q _ r => XS.iinc X.here hx rfl (hb q hd) hl hl' r
theorem W.iadd {x z : Int32} (A : W l Z n0 y bytes maxl ret R G h pc Ls (.int z :: .int x :: St) C S) (hd : decode bytes pc = .ok (.iadd, 1)) (hp : pc + 1 = pc') : W l Z n0 y bytes maxl ret R G h pc' Ls (.int (x + z) :: St) C S := by
  subst hp; exact A.step fun X hx _ _ q _ r => XS.iadd X.here hx rfl (hb q hd) rfl r
theorem W.ladd {x z : Int64} (A : W l Z n0 y bytes maxl ret R G h pc Ls (.long z :: .long x :: St) C S) (hd : decode bytes pc = .ok (.ladd, 1)) (hp : pc + 1 = pc') : W l Z n0 y bytes maxl ret R G h pc' Ls (.long (x + z) :: St) C S := by
  subst hp; exact A.step fun X hx _ _ q _ r => XS.ladd X.here hx rfl (hb q hd) rfl r
theorem W.isub {x z : Int32} (A : W l Z n0 y bytes maxl ret R G h pc Ls (.int z :: .int x :: St) C S) (hd : decode bytes pc = .ok (.isub, 1)) (hp : pc + 1 = pc') : W l Z n0 y bytes maxl ret R G h pc' Ls (.int (x - z) :: St) C S := by
  subst hp; exact A.step fun X hx _ _ q _ r => XS.isub X.here hx rfl (hb q hd) rfl r
theorem W.lsub {x z : Int64} (A : W l Z n0 y bytes maxl ret R G h pc Ls (.long z :: .long x :: St) C S) (hd : decode bytes pc = .ok (.lsub, 1)) (hp : pc + 1 = pc') : W l Z n0 y bytes maxl ret R G h pc' Ls (.long (x - z) :: St) C S := by
  subst hp; exact A.step fun X hx _ _ q _ r => XS.lsub X.here hx rfl (hb q hd) rfl r
theorem W.imul {x z : Int32} (A : W l Z n0 y bytes maxl ret R G h pc Ls (.int z :: .int x :: St) C S) (hd : decode bytes pc = .ok (.imul, 1)) (hp : pc + 1 = pc') : W l Z n0 y bytes maxl ret R G h pc' Ls (.int (x * z) :: St) C S := by
  subst hp; exact A.step fun X hx _ _ q _ r => XS.imul X.here hx rfl (hb q hd) rfl r
theorem W.lmul {x z : Int64} (A : W l Z n0 y bytes maxl ret R G h pc Ls (.long z :: .long x :: St) C S) (hd : decode bytes pc = .ok (.lmul, 1)) (hp : pc + 1 = pc') : W l Z n0 y bytes maxl ret R G h pc' Ls (.long (x * z) :: St) C S := by
  subst hp; exact A.step fun X hx _ _ q _ r => XS.lmul X.here hx rfl (hb q hd) rfl r
theorem W.iand {x z : Int32} (A : W l Z n0 y bytes maxl ret R G h pc Ls (.int z :: .int x :: St) C S) (hd : decode bytes pc = .ok (.iand, 1)) (hp : pc + 1 = pc') : W l Z n0 y bytes maxl ret R G h pc' Ls (.int (x &&& z) :: St) C S := by
  subst hp; exact A.step fun X hx _ _ q _ r => XS.iand X.here hx rfl (hb q hd) rfl r
theorem W.land {x z : Int64} (A : W l Z n0 y bytes maxl ret R G h pc Ls (.long z :: .long x :: St) C S) (hd : decode bytes pc = .ok (.land, 1)) (hp : pc + 1 = pc') : W l Z n0 y bytes maxl ret R G h pc' Ls (.long (x &&& z) :: St) C S := by
  subst hp; exact A.step fun X hx _ _ q _ r => XS.land X.here hx rfl (hb q hd) rfl r
theorem W.ior {x z : Int32} (A : W l Z n0 y bytes maxl ret R G h pc Ls (.int z :: .int x :: St) C S) (hd : decode bytes pc = .ok (.ior, 1)) (hp : pc + 1 = pc') : W l Z n0 y bytes maxl ret R G h pc' Ls (.int (x ||| z) :: St) C S := by
  subst hp; exact A.step fun X hx _ _ q _ r => XS.ior X.here hx rfl (hb q hd) rfl r
theorem W.lor {x z : Int64} (A : W l Z n0 y bytes maxl ret R G h pc Ls (.long z :: .long x :: St) C S) (hd : decode bytes pc = .ok (.lor, 1)) (hp : pc + 1 = pc') : W l Z n0 y bytes maxl ret R G h pc' Ls (.long (x ||| z) :: St) C S := by
  subst hp; exact A.step fun X hx _ _ q _ r => XS.lor X.here hx rfl (hb q hd) rfl r
theorem W.ixor {x z : Int32} (A : W l Z n0 y bytes maxl ret R G h pc Ls (.int z :: .int x :: St) C S) (hd : decode bytes pc = .ok (.ixor, 1)) (hp : pc + 1 = pc') : W l Z n0 y bytes maxl ret R G h pc' Ls (.int (x ^^^ z) :: St) C S := by
  subst hp; exact A.step fun X hx _ _ q _ r => XS.ixor X.here hx rfl (hb q hd) rfl r
theorem W.lxor {x z : Int64} (A : W l Z n0 y bytes maxl ret R G h pc Ls (.long z :: .long x :: St) C S) (hd : decode bytes pc = .ok (.lxor, 1)) (hp : pc + 1 = pc') : W l Z n0 y bytes maxl ret R G h pc' Ls (.long (x ^^^ z) :: St) C S := by
  subst hp; exact A.step fun X hx _ _ q _ r => XS.lxor X.here hx rfl (hb q hd) rfl r
theorem W.ineg {x : Int32} (A : W l Z n0 y bytes maxl ret R G h pc Ls (.int x :: St) C S) (hd : decode bytes pc = .ok (.ineg, 1)) (hp : pc + 1 = pc') : W l Z n0 y bytes maxl ret R G h pc' Ls (.int (-x) :: St) C S := by
  subst hp; exact A.step fun X hx _ _ q _ r => XS.ineg X.here hx rfl (hb q hd) rfl r
theorem W.lneg {x : Int64} (A : W l Z n0 y bytes maxl ret R G h pc Ls (.long x :: St) C S) (hd : decode bytes pc = .ok (.lneg, 1)) (hp : pc + 1 = pc') : W l Z n0 y bytes maxl ret R G h pc' Ls (.long (-x) :: St) C S := by
  subst hp; exact A.step fun X hx _ _ q _ r => XS.lneg X.here hx rfl (hb q hd) rfl r
theorem W.ishl {x z : Int32} (A : W l Z n0 y bytes maxl ret R G h pc Ls (.int z :: .int x :: St) C S) (hd : decode bytes pc = .ok (.ishl, 1)) (hp : pc + 1 = pc') : W l Z n0 y bytes maxl ret R G h pc' Ls (.int (x <<< (z &&& 31)) :: St) C S := by
  subst hp; exact A.step fun X hx _ _ q _ r => XS.ishl X.here hx rfl (hb q hd) rfl r
theorem W.ishr {x z : Int32} (A : W l Z n0 y bytes maxl ret R G h pc Ls (.int z :: .int x :: St) C S) (hd : decode bytes pc = .ok (.ishr, 1)) (hp : pc + 1 = pc') : W l Z n0 y bytes maxl ret R G h pc' Ls (.int (x >>> (z &&& 31)) :: St) C S := by
  subst hp; exact A.step fun X hx _ _ q _ r => XS.ishr X.here hx rfl (hb q hd) rfl r
theorem W.iushr {x z : Int32} (A : W l Z n0 y bytes maxl ret R G h pc Ls (.int z :: .int x :: St) C S) (hd : decode bytes pc = .ok (.iushr, 1)) (hp : pc + 1 = pc') : W l Z n0 y bytes maxl ret R G h pc' Ls (.int ((x.toUInt32 >>> (z &&& 31).toUInt32).toInt32) :: St) C S := by
  subst hp; exact A.step fun X hx _ _ q _ r => XS.iushr X.here hx rfl (hb q hd) rfl r
theorem W.lshl {x : Int64} {z : Int32} (A : W l Z n0 y bytes maxl ret R G h pc Ls (.int z :: .long x :: St) C S) (hd : decode bytes pc = .ok (.lshl, 1)) (hp : pc + 1 = pc') : W l Z n0 y bytes maxl ret R G h pc' Ls (.long (x <<< (z &&& 0x3f).toInt64) :: St) C S := by
  subst hp; exact A.step fun X hx _ _ q _ r => XS.lshl X.here hx rfl (hb q hd) rfl r
theorem W.lshr {x : Int64} {z : Int32} (A : W l Z n0 y bytes maxl ret R G h pc Ls (.int z :: .long x :: St) C S) (hd : decode bytes pc = .ok (.lshr, 1)) (hp : pc + 1 = pc') : W l Z n0 y bytes maxl ret R G h pc' Ls (.long (x >>> (z &&& 0x3f).toInt64) :: St) C S := by
  subst hp; exact A.step fun X hx _ _ q _ r => XS.lshr X.here hx rfl (hb q hd) rfl r
theorem W.lushr {x : Int64} {z : Int32} (A : W l Z n0 y bytes maxl ret R G h pc Ls (.int z :: .long x :: St) C S) (hd : decode bytes pc = .ok (.lushr, 1)) (hp : pc + 1 = pc') : W l Z n0 y bytes maxl ret R G h pc' Ls (.long ((x.toUInt64 >>> (z &&& 0x3f).toInt64.toUInt64).toInt64) :: St) C S := by
  subst hp; exact A.step fun X hx _ _ q _ r => XS.lushr X.here hx rfl (hb q hd) rfl r
theorem W.i2l {x : Int32} (A : W l Z n0 y bytes maxl ret R G h pc Ls (.int x :: St) C S) (hd : decode bytes pc = .ok (.i2l, 1)) (hp : pc + 1 = pc') : W l Z n0 y bytes maxl ret R G h pc' Ls (.long x.toInt64 :: St) C S := by
  subst hp; exact A.step fun X hx _ _ q _ r => XS.i2l X.here hx rfl (hb q hd) rfl r
theorem W.l2i {x : Int64} (A : W l Z n0 y bytes maxl ret R G h pc Ls (.long x :: St) C S) (hd : decode bytes pc = .ok (.l2i, 1)) (hp : pc + 1 = pc') : W l Z n0 y bytes maxl ret R G h pc' Ls (.int x.toInt32 :: St) C S := by
  subst hp; exact A.step fun X hx _ _ q _ r => XS.l2i X.here hx rfl (hb q hd) rfl r
theorem W.i2b {x : Int32} (A : W l Z n0 y bytes maxl ret R G h pc Ls (.int x :: St) C S) (hd : decode bytes pc = .ok (.i2b, 1)) (hp : pc + 1 = pc') : W l Z n0 y bytes maxl ret R G h pc' Ls (.int x.toInt8.toInt32 :: St) C S := by
  subst hp; exact A.step fun X hx _ _ q _ r => XS.i2b X.here hx rfl (hb q hd) rfl r
theorem W.i2s {x : Int32} (A : W l Z n0 y bytes maxl ret R G h pc Ls (.int x :: St) C S) (hd : decode bytes pc = .ok (.i2s, 1)) (hp : pc + 1 = pc') : W l Z n0 y bytes maxl ret R G h pc' Ls (.int x.toInt16.toInt32 :: St) C S := by
  subst hp; exact A.step fun X hx _ _ q _ r => XS.i2s X.here hx rfl (hb q hd) rfl r
theorem W.i2c {x : Int32} (A : W l Z n0 y bytes maxl ret R G h pc Ls (.int x :: St) C S) (hd : decode bytes pc = .ok (.i2c, 1)) (hp : pc + 1 = pc') : W l Z n0 y bytes maxl ret R G h pc' Ls (.int x.toUInt32.toUInt16.toUInt32.toInt32 :: St) C S := by
  subst hp; exact A.step fun X hx _ _ q _ r => XS.i2c X.here hx rfl (hb q hd) rfl r
theorem W.lcmp {x z : Int64} (A : W l Z n0 y bytes maxl ret R G h pc Ls (.long z :: .long x :: St) C S) (hd : decode bytes pc = .ok (.lcmp, 1)) (hp : pc + 1 = pc') : W l Z n0 y bytes maxl ret R G h pc' Ls (.int (lcmpW x z) :: St) C S := by
  subst hp; exact A.step fun X hx _ _ q _ r => XS.lcmp X.here hx rfl (hb q hd) rfl r
theorem W.idiv {x z : Int32} (A : W l Z n0 y bytes maxl ret R G h pc Ls (.int z :: .int x :: St) C S) (hd : decode bytes pc = .ok (.idiv, 1)) (hz : z ≠ 0) (hp : pc + 1 = pc') : W l Z n0 y bytes maxl ret R G h pc' Ls (.int (x / z) :: St) C S := by
  subst hp; exact A.step fun X hx _ _ q _ r => XS.idiv X.here hx rfl (hb q hd) rfl hz r
theorem W.irem {x z : Int32} (A : W l Z n0 y bytes maxl ret R G h pc Ls (.int z :: .int x :: St) C S) (hd : decode bytes pc = .ok (.irem, 1)) (hz : z ≠ 0) (hp : pc + 1 = pc') : W l Z n0 y bytes maxl ret R G h pc' Ls (.int (x % z) :: St) C S := by
  subst hp; exact A.step fun X hx _ _ q _ r => iremM (g := mkF _ _ _ _) X hx rfl (hb q hd) rfl hz r
theorem W.ldiv {x z : Int64} (A : W l Z n0 y bytes maxl ret R G h pc Ls (.long z :: .long x :: St) C S) (hd : decode bytes pc = .ok (.ldiv, 1)) (hz : z ≠ 0) (hp : pc + 1 = pc') : W l Z n0 y bytes maxl ret R G h pc' Ls (.long (x / z) :: St) C S := by
  subst hp; exact A.step fun X hx _ _ q _ r => XS.ldiv X.here hx rfl (hb q hd) rfl hz r
theorem W.lrem {x z : Int64} (A : W l Z n0 y bytes maxl ret R G h pc Ls (.long z :: .long x :: St) C S) (hd : decode bytes pc = .ok (.lrem, 1)) (hz : z ≠ 0) (hp : pc + 1 = pc') : W l Z n0 y bytes maxl ret R G h pc' Ls (.long (x % z) :: St) C S := by
  subst hp; exact A.step fun X hx _ _ q _ r => XS.lrem X.here hx rfl (hb q hd) rfl hz (by rw [lrem_mod]; exact r)
theorem W.dup {v : Value} (A : W l Z n0 y bytes maxl ret R G h pc Ls (v :: St) C S) (hd : decode bytes pc = .ok (.dup, 1)) (hc : v.category = 1) (hp : pc + 1 = pc') : W l Z n0 y bytes maxl ret R G h pc' Ls (v :: v :: St) C S := by
  subst hp; exact A.step fun X hx _ _ q _ r => XS.dup X.here hx rfl (hb q hd) rfl hc r
theorem W.pop {v : Value} (A : W l Z n0 y bytes maxl ret R G h pc Ls (v :: St) C S) (hd : decode bytes pc = .ok (.pop, 1)) (hc : v.category = 1) (hp : pc + 1 = pc') : W l Z n0 y bytes maxl ret R G h pc' Ls St C S := by
  subst hp; exact A.step fun X hx _ _ q _ r => XS.pop X.here hx rfl (hb q hd) rfl hc r
theorem W.dupX1 {v w : Value} (A : W l Z n0 y bytes maxl ret R G h pc Ls (v :: w :: St) C S) (hd : decode bytes pc = .ok (.dup_x1, 1)) (hc : v.category = 1) (hc' : w.category = 1) (hp : pc + 1 = pc') : W l Z n0 y bytes maxl ret R G h pc' Ls (v :: w :: v :: St) C S := by
  subst hp; exact A.step fun X hx _ _ q _ r => XS.dupX1 X.here hx rfl (hb q hd) rfl hc hc' r
theorem W.dup2 {v w : Value} (A : W l Z n0 y bytes maxl ret R G h pc Ls (v :: w :: St) C S) (hd : decode bytes pc = .ok (.dup2, 1)) (hc : v.category = 1) (hc' : w.category = 1) (hp : pc + 1 = pc') : W l Z n0 y bytes maxl ret R G h pc' Ls (v :: w :: v :: w :: St) C S := by
  subst hp; exact A.step fun X hx _ _ q _ r => XT.dup2 X.here hx rfl (hb q hd) rfl hc hc' r
theorem W.dup2L {x : Int64} (A : W l Z n0 y bytes maxl ret R G h pc Ls (.long x :: St) C S) (hd : decode bytes pc = .ok (.dup2, 1)) (hp : pc + 1 = pc') : W l Z n0 y bytes maxl ret R G h pc' Ls (.long x :: .long x :: St) C S := by
  subst hp; exact A.step fun X hx _ _ q _ r => XT.dup2L X.here hx rfl (hb q hd) rfl r
theorem W.goto (A : W l Z n0 y bytes maxl ret R G h pc Ls St C S) {o : Int} (hd : decode bytes pc = .ok (.goto o, 3)) (ho : 0 ≤ (pc : Int) + o) (hp : ((pc : Int) + o).toNat = pc') : W l Z n0 y bytes maxl ret R G h pc' Ls St C S :=
  A.step fun X hx _ _ q _ r => XS.goto X.here hx rfl rfl (hb q hd) ho hp r
theorem W.ifYes {x : Int32} (A : W l Z n0 y bytes maxl ret R G h pc Ls (.int x :: St) C S) {cd : ClassFile.Cond} {o : Int} (hd : decode bytes pc = .ok (.ifCond cd o, 3)) (hc : if_icmp.holds cd x 0 = true) (ho : 0 ≤ (pc : Int) + o) (hp : ((pc : Int) + o).toNat = pc') : W l Z n0 y bytes maxl ret R G h pc' Ls St C S :=
  A.step fun X hx _ _ q _ r => XS.ifYes X.here hx rfl rfl (hb q hd) rfl ((if0 _ _).trans hc) ho hp r
theorem W.ifNo {x : Int32} (A : W l Z n0 y bytes maxl ret R G h pc Ls (.int x :: St) C S) {cd : ClassFile.Cond} {o : Int} (hd : decode bytes pc = .ok (.ifCond cd o, 3)) (hc : if_icmp.holds cd x 0 = false) (hp : pc + 3 = pc') : W l Z n0 y bytes maxl ret R G h pc' Ls St C S := by
  subst hp; exact A.step fun X hx _ _ q _ r => XS.ifNo X.here hx rfl (hb q hd) rfl ((if0 _ _).trans hc) r
theorem W.icmpYes {x z : Int32} (A : W l Z n0 y bytes maxl ret R G h pc Ls (.int z :: .int x :: St) C S) {cd : ClassFile.Cond} {o : Int} (hd : decode bytes pc = .ok (.if_icmp cd o, 3)) (hc : if_icmp.holds cd x z = true) (ho : 0 ≤ (pc : Int) + o) (hp : ((pc : Int) + o).toNat = pc') : W l Z n0 y bytes maxl ret R G h pc' Ls St C S :=
  A.step fun X hx _ _ q _ r => XS.icmpYes X.here hx rfl rfl (hb q hd) rfl hc ho hp r
theorem W.icmpNo {x z : Int32} (A : W l Z n0 y bytes maxl ret R G h pc Ls (.int z :: .int x :: St) C S) {cd : ClassFile.Cond} {o : Int} (hd : decode bytes pc = .ok (.if_icmp cd o, 3)) (hc : if_icmp.holds cd x z = false) (hp : pc + 3 = pc') : W l Z n0 y bytes maxl ret R G h pc' Ls St C S := by
  subst hp; exact A.step fun X hx _ _ q _ r => XS.icmpNo X.here hx rfl (hb q hd) rfl hc r
theorem W.ifnullYes (A : W l Z n0 y bytes maxl ret R G h pc Ls (.null :: St) C S) {o : Int} (hd : decode bytes pc = .ok (.ifnull o, 3)) (ho : 0 ≤ (pc : Int) + o) (hp : ((pc : Int) + o).toNat = pc') : W l Z n0 y bytes maxl ret R G h pc' Ls St C S :=
  A.step fun X hx _ _ q _ r => XS.ifnullYes X.here hx rfl rfl (hb q hd) rfl ho hp r
theorem W.ifnullNo {a : Addr} (A : W l Z n0 y bytes maxl ret R G h pc Ls (.ref a :: St) C S) {o : Int} (hd : decode bytes pc = .ok (.ifnull o, 3)) (hp : pc + 3 = pc') : W l Z n0 y bytes maxl ret R G h pc' Ls St C S := by
  subst hp; exact A.step fun X hx _ _ q _ r => XS.ifnullNo X.here hx rfl (hb q hd) rfl r
theorem W.ifnonnullNo (A : W l Z n0 y bytes maxl ret R G h pc Ls (.null :: St) C S) {o : Int} (hd : decode bytes pc = .ok (.ifnonnull o, 3)) (hp : pc + 3 = pc') : W l Z n0 y bytes maxl ret R G h pc' Ls St C S := by
  subst hp; exact A.step fun X hx _ _ q _ r => XS.ifnonnullNo X.here hx rfl (hb q hd) rfl r
theorem W.ifnonnullYes {a : Addr} (A : W l Z n0 y bytes maxl ret R G h pc Ls (.ref a :: St) C S) {o : Int} (hd : decode bytes pc = .ok (.ifnonnull o, 3)) (ho : 0 ≤ (pc : Int) + o) (hp : ((pc : Int) + o).toNat = pc') : W l Z n0 y bytes maxl ret R G h pc' Ls St C S :=
  A.step fun X hx _ _ q _ r => XS.ifnonnullYes X.here hx rfl rfl (hb q hd) rfl ho hp r
/-! C. the returns -/
theorem W.fin {v : Option Value} (A : W l Z n0 y bytes maxl ret R G h pc Ls St C S) (hC : C ≤ R.cells) (hS : S ≤ R.slots) (hv : ret = none → v = none) (hQ : Q v h)
    (f : ∀ {p : Program} {e : Env} {s : State} {m : MethodId} {args : Array Value} {below : List Frame} {meth : Method} {c : Code} {T : State} {locs : List Loc} {fs : List Frame}, Stand p l e R s m args below meth c T locs C S → p.tables.exec = Jvm.exec → c.code = bytes → meth.sig.returnType = ret → (∀ (f : JFrame) (acts : List Action), f.method = m → f.locked = none → f.entered = [] → (doReturn e (T.setTop f) acts v).1 = T.setFrames fs) → Steps p.tables e below (T.setTop (mkF m pc Ls St)) (T.setFrames fs)) : Gl R n0 G Q := by
  obtain ⟨p, e, s, m, args, below, meth, c, st⟩ := G
  obtain ⟨hx, hZ, hby, hml, hown, hnm, hrt, hlk, hn0, T, locs, X, N, eT, k⟩ := A
  obtain ⟨fs, hr, hrun, hended, hW, hsame⟩ := X.leave (v := v) (fun q => hv (hrt.symm.trans q)) hlk
  show ∃ s₂ o, _
  refine ⟨_, _, k _ (f X hx hby hrt hr), hrun, hended, v, locs, rfl, ⟨N, ?_⟩, ⟨_, rfl⟩, hW, hsame.mono hC hS⟩
  show Q v T.heap
  rw [eT]; exact hQ
theorem W.retI {z : Int32} (A : W l Z n0 y bytes maxl (some .int) R G h pc Ls (.int z :: St) C S) (hd : decode bytes pc = .ok (.ireturn, 1)) (hC : C ≤ R.cells) (hS : S ≤ R.slots) (hQ : Q (some (.int z)) h) : Gl R n0 G Q :=
  A.fin hC hS (fun q => nomatch q) hQ fun X hx q hret hr => retOut X hx hret (t := .int) rfl (Or.inl ⟨rfl, Or.inl rfl, z, rfl⟩) (hb q hd) hr
theorem W.retN {z z' : Int32} {t : FieldType} (A : W l Z n0 y bytes maxl (some t) R G h pc Ls (.int z :: St) C S) (hd : decode bytes pc = .ok (.ireturn, 1)) (hC : C ≤ R.cells) (hS : S ≤ R.slots) (ht : t = .boolean ∨ t = .byte ∨ t = .char ∨ t = .short) (hz : nar t z = z') (hQ : Q (some (.int z')) h) : Gl R n0 G Q := by
  subst hz; exact A.fin hC hS (fun q => nomatch q) hQ fun X hx q hret hr => RoadKit.retN X hx hret ht (hb q hd) hr
theorem W.retJ {z : Int64} (A : W l Z n0 y bytes maxl (some .long) R G h pc Ls (.long z :: St) C S) (hd : decode bytes pc = .ok (.lreturn, 1)) (hC : C ≤ R.cells) (hS : S ≤ R.slots) (hQ : Q (some (.long z)) h) : Gl R n0 G Q :=
  A.fin hC hS (fun q => nomatch q) hQ fun X hx q hret hr => retOut X hx hret (t := .long) rfl (Or.inr (Or.inl ⟨rfl, rfl, z, rfl⟩)) (hb q hd) hr
theorem W.retA {v : Value} {t : FieldType} (A : W l Z n0 y bytes maxl (some t) R G h pc Ls (v :: St) C S) (hd : decode bytes pc = .ok (.areturn, 1)) (hC : C ≤ R.cells) (hS : S ≤ R.slots) (ht : t.isReference = true) (hv : v.isRef = true) (hn : narrow t v = v) (hQ : Q (some v) h) : Gl R n0 G Q :=
  A.fin hC hS (fun q => nomatch q) hQ fun X hx q hret hr => retOut X hx hret (t := t) hn (Or.inr (Or.inr (Or.inr (Or.inr ⟨rfl, ht, hv⟩)))) (hb q hd) hr
theorem W.retV (A : W l Z n0 y bytes maxl none R G h pc Ls [] C S) (hd : decode bytes pc = .ok (.return_, 1)) (hC : C ≤ R.cells) (hS : S ≤ R.slots) (hQ : Q none h) : Gl R n0 G Q :=
  A.fin hC hS (fun _ => rfl) hQ fun X hx q hret hr => X.returnOut hx hret (hb q hd) hr
/-! D. calls -/
theorem W.callS (A : W l Z n0 y bytes maxl ret R G h pc Ls St C S) {y' : MethodName} {bytes' : ByteArray} {maxl' : Nat} {ret' : Option FieldType} {R' : Room} {as : Array Value} {idx : Nat} {argsL rest : List Value} {ps : List FieldType} {rr : Option FieldType} (hd : decode bytes pc = .ok (.invokestatic idx, 3))
    (w1 : (Jvm.Cond.methodLink y.cls idx y').before a0 Z = true) (w2 : (Jvm.Cond.static y').before a0 Z = true) (w3 : (Jvm.Cond.initialized y'.cls).before a0 Z = true) (w4 : (Jvm.Cond.code y' bytes' maxl' ret').before a0 Z = true) (hM : Ctr l Z n0 y' bytes' maxl' ret' [] R' as h Q) (has : argsL.toArray = as) (hs : St = argsL.reverse ++ rest)
    (hpd : parseMethodDescriptor y'.desc = some ⟨ps, rr⟩) (hlen : argsL.length = ps.length) (hsz : Ls.size = maxl) (hy : y'.cls ≠ "java/lang/invoke/MethodHandle" ∧ y'.cls ≠ "java/lang/invoke/VarHandle") (hf : R'.frames + 1 ≤ R.frames) (hlo : (rest.map fun v => v.category).sum + (maxl' + 11) + R'.locals ≤ R.locals) (hC : C + R'.cells ≤ R.cells) (hS : S + R'.slots ≤ R.slots) (hC' : C + R'.cells = C') (hS' : S + R'.slots = S') (hp : pc + 3 = pc') :
    ∃ v h', Q v h' ∧ W l Z n0 y bytes maxl ret R G h' pc' Ls (v.toList ++ rest) C' S' := by
  subst hp hC' hS' has
  obtain ⟨p, e, s, m, args, below, meth, c, st⟩ := G
  obtain ⟨hx, hZ, hby, hml, hown, hnm, hrt, hlk, hn0, T, locs, X, N, eT, k⟩ := A
  obtain ⟨v, _, ⟨T', L', k', n'⟩, -, X', ⟨Lc, hQ, l1, y1, z1⟩, st'⟩ := Jvm.LawKit.callS X hx (y := y') hown (mvT hZ w1) (mvT hZ w2) (mvT hZ w3) (mvT hZ w4) hy (backOf (Q := fun v h L => Fr n0 L ∧ Q v h) (W := (rest.map fun v => v.category).sum) hM hZ w4 w3 hf hlo) (g := mkF m pc Ls St) rfl (by rw [hml]; exact hsz) (argsL := argsL) (rest := rest) (lenOf hpd hlen) hs (by show 2 * 0 + _ ≤ _; omega) (hb hby hd) (fun _ _ => ⟨rfl, eT, hC, hS⟩)
  dsimp only [Pt.U, Pt.locs, Pt.cells, Pt.slots] at X' l1 y1 z1 st' hQ
  subst l1 y1 z1
  exact ⟨v, T'.heap, hQ.2, W.mk hx hZ hby hml hown hnm hrt hlk hn0 X' (N.app hQ.1) rfl (fun t q => k t (st' t q))⟩
theorem W.callI (A : W l Z n0 y bytes maxl ret R G h pc Ls St C S) {a : Addr} {y' : MethodName} {bytes' : ByteArray} {maxl' : Nat} {R' : Room} {as : Array Value} {idx : Nat} {argsL rest : List Value} {ps : List FieldType} {rr : Option FieldType} (hd : decode bytes pc = .ok (.invokespecial idx, 3)) (hy1 : y'.name = "<init>")
    (w1 : (Jvm.Cond.methodLink y.cls idx y').before a0 Z = true) (w2 : (Jvm.Cond.instanceMethod y').before a0 Z = true) (w3 : (Jvm.Cond.initialized y'.cls).before a0 Z = true) (w4 : (Jvm.Cond.code y' bytes' maxl' none).before a0 Z = true) (hM : Ctr l Z n0 y' bytes' maxl' none [] R' as h Q) (has : (.ref a :: argsL).toArray = as) (hs : St = argsL.reverse ++ .ref a :: rest)
    (hpd : parseMethodDescriptor y'.desc = some ⟨ps, rr⟩) (hlen : argsL.length = ps.length) (hsz : Ls.size = maxl) (hy : y'.cls ≠ "java/lang/invoke/MethodHandle" ∧ y'.cls ≠ "java/lang/invoke/VarHandle") (hf : R'.frames + 1 ≤ R.frames) (hlo : (rest.map fun v => v.category).sum + (maxl' + 11) + R'.locals ≤ R.locals) (hC : C + R'.cells ≤ R.cells) (hS : S + R'.slots ≤ R.slots) (hC' : C + R'.cells = C') (hS' : S + R'.slots = S') (hp : pc + 3 = pc') :
    ∃ v h', Q v h' ∧ W l Z n0 y bytes maxl ret R G h' pc' Ls (v.toList ++ rest) C' S' := by
  subst hp hC' hS' has
  obtain ⟨p, e, s, m, args, below, meth, c, st⟩ := G
  obtain ⟨hx, hZ, hby, hml, hown, hnm, hrt, hlk, hn0, T, locs, X, N, eT, k⟩ := A
  obtain ⟨v, _, ⟨T', L', k', n'⟩, -, X', ⟨Lc, hQ, l1, y1, z1⟩, st'⟩ := X.specialBack hx (y := y') hy1 hown (mvT hZ w1) (mvT hZ w2) (mvT hZ w4) hy (backOf (Q := fun v h L => Fr n0 L ∧ Q v h) (W := (rest.map fun v => v.category).sum) hM hZ w4 w3 hf hlo) (g := mkF m pc Ls St) rfl (by rw [hml]; exact hsz) (Steps.refl _) (a := a) (argsL := argsL) (rest := rest) (lenOf hpd hlen) hs (by show 2 * 0 + _ ≤ _; omega) (hb hby hd) (fun _ _ => ⟨rfl, eT, hC, hS⟩)
  dsimp only [Pt.U, Pt.locs, Pt.cells, Pt.slots] at X' l1 y1 z1 st' hQ
  subst l1 y1 z1
  exact ⟨v, T'.heap, hQ.2, W.mk hx hZ hby hml hown hnm hrt hlk hn0 X' (N.app hQ.1) rfl (fun t q => k t (st'.trans q))⟩
theorem W.callV (A : W l Z n0 y bytes maxl ret R G h pc Ls St C S) {a : Addr} {K : String} {y' z' : MethodName} {bytes' : ByteArray} {maxl' : Nat} {ret' : Option FieldType} {R' : Room} {as : Array Value} {idx : Nat} {argsL rest : List Value} {ps : List FieldType} {rr : Option FieldType} (hd : decode bytes pc = .ok (.invokevirtual idx, 3)) (E : Exa Z h a K)
    (w1 : (Jvm.Cond.methodLink y.cls idx y').before a0 Z = true) (wd : (Jvm.Cond.declares y').before a0 Z = true) (hnf : ∀ {s : State}, Z.Warmed39 s.vm → NotFace s y') (ws : (Jvm.Cond.selects K y' z').before a0 Z = true) (w2 : (Jvm.Cond.instanceMethod z').before a0 Z = true) (w3 : (Jvm.Cond.initialized z'.cls).before a0 Z = true) (w4 : (Jvm.Cond.code z' bytes' maxl' ret').before a0 Z = true) (hM : Ctr l Z n0 z' bytes' maxl' ret' [] R' as h Q) (has : (.ref a :: argsL).toArray = as) (hs : St = argsL.reverse ++ .ref a :: rest)
    (hpd : parseMethodDescriptor y'.desc = some ⟨ps, rr⟩) (hlen : argsL.length = ps.length) (hsz : Ls.size = maxl) (hy : y'.cls ≠ "java/lang/invoke/MethodHandle" ∧ y'.cls ≠ "java/lang/invoke/VarHandle") (hf : R'.frames + 1 ≤ R.frames) (hlo : (rest.map fun v => v.category).sum + (maxl' + 11) + R'.locals ≤ R.locals) (hC : C + R'.cells ≤ R.cells) (hS : S + R'.slots ≤ R.slots) (hC' : C + R'.cells = C') (hS' : S + R'.slots = S') (hp : pc + 3 = pc') :
    ∃ v h', Q v h' ∧ W l Z n0 y bytes maxl ret R G h' pc' Ls (v.toList ++ rest) C' S' := by
  subst hp hC' hS' has
  obtain ⟨p, e, s, m, args, below, meth, c, st⟩ := G
  obtain ⟨hx, hZ, hby, hml, hown, hnm, hrt, hlk, hn0, T, locs, X, N, eT, k⟩ := A
  obtain ⟨cq, kq, qa, qb, qc⟩ := isOf hZ eT E
  obtain ⟨v, _, ⟨T', L', k', n'⟩, -, X', ⟨Lc, hQ, l1, y1, z1⟩, st'⟩ := X.virtualBack hx (y := y') (z := z') hown (mvT hZ w1) (mvT hZ wd) (hnf hZ) (mvT hZ ws) (mvT hZ w2) hy (backOf (Q := fun v h L => Fr n0 L ∧ Q v h) (W := (rest.map fun v => v.category).sum) hM hZ w4 w3 hf hlo) qa qc (g := mkF m pc Ls St) rfl (by rw [hml]; exact hsz) (Steps.refl _) (argsL := argsL) (rest := rest) (lenOf hpd hlen) hs (by show 2 * 0 + _ ≤ _; omega) (hb hby hd) (fun _ _ => ⟨rfl, eT, hC, hS⟩)
  dsimp only [Pt.U, Pt.locs, Pt.cells, Pt.slots] at X' l1 y1 z1 st' hQ
  subst l1 y1 z1
  exact ⟨v, T'.heap, hQ.2, W.mk hx hZ hby hml hown hnm hrt hlk hn0 X' (N.app hQ.1) rfl (fun t q => k t (st'.trans q))⟩
theorem W.kI {P : Int32 → Heap → Prop} {rest : List Value} (q : ∃ v h', QI P v h' ∧ W l Z n0 y bytes maxl ret R G h' pc Ls (v.toList ++ rest) C S) : ∃ r h', P r h' ∧ W l Z n0 y bytes maxl ret R G h' pc Ls (.int r :: rest) C S := by
  obtain ⟨v, h', ⟨r, rfl, hP⟩, A⟩ := q; exact ⟨r, h', hP, A⟩
theorem W.kJ {P : Int64 → Heap → Prop} {rest : List Value} (q : ∃ v h', QJ P v h' ∧ W l Z n0 y bytes maxl ret R G h' pc Ls (v.toList ++ rest) C S) : ∃ r h', P r h' ∧ W l Z n0 y bytes maxl ret R G h' pc Ls (.long r :: rest) C S := by
  obtain ⟨v, h', ⟨r, rfl, hP⟩, A⟩ := q; exact ⟨r, h', hP, A⟩
theorem W.kA {P : Addr → Heap → Prop} {rest : List Value} (q : ∃ v h', QA P v h' ∧ W l Z n0 y bytes maxl ret R G h' pc Ls (v.toList ++ rest) C S) : ∃ r h', P r h' ∧ W l Z n0 y bytes maxl ret R G h' pc Ls (.ref r :: rest) C S := by
  obtain ⟨v, h', ⟨r, rfl, hP⟩, A⟩ := q; exact ⟨r, h', hP, A⟩
theorem W.kV {P : Heap → Prop} {rest : List Value} (q : ∃ v h', QV P v h' ∧ W l Z n0 y bytes maxl ret R G h' pc Ls (v.toList ++ rest) C S) : ∃ h', P h' ∧ W l Z n0 y bytes maxl ret R G h' pc Ls rest C S := by
  obtain ⟨v, h', ⟨rfl, hP⟩, A⟩ := q; exact ⟨h', hP, A⟩
end Walk
end Jvm.Pilot.@@N@@
namespace Jvm.Pilot.@@N@@
open Jvm Jvm.ClassFile Sem Op Lib Jvm.Free Jvm.Stand Jvm.LawKit Jvm.RoadKit Bundle
/-! numbers -/
theorem rng32 (x : Int32) : -2147483648 ≤ x.toInt ∧ x.toInt < 2147483648 := ⟨x.le_toInt, x.toInt_lt⟩
theorem rng64 (x : Int64) : -9223372036854775808 ≤ x.toInt ∧ x.toInt < 9223372036854775808 := ⟨x.le_toInt, x.toInt_lt⟩
theorem add32 (x y : Int32) (h1 : -2147483648 ≤ x.toInt + y.toInt) (h2 : x.toInt + y.toInt < 2147483648) : (x + y).toInt = x.toInt + y.toInt := by
  have e := c_iadd x y; have r := rng32 (x + y); omega
theorem sub32 (x y : Int32) (h1 : -2147483648 ≤ x.toInt - y.toInt) (h2 : x.toInt - y.toInt < 2147483648) : (x - y).toInt = x.toInt - y.toInt := by
  have e := c_isub x y; have r := rng32 (x - y); omega
theorem mul32 (x y : Int32) (h1 : -2147483648 ≤ x.toInt * y.toInt) (h2 : x.toInt * y.toInt < 2147483648) : (x * y).toInt = x.toInt * y.toInt := by
  have e := c_imul x y; have r := rng32 (x * y); generalize x.toInt * y.toInt = z at *; omega
theorem add64 (x y : Int64) (h1 : -9223372036854775808 ≤ x.toInt + y.toInt) (h2 : x.toInt + y.toInt < 9223372036854775808) : (x + y).toInt = x.toInt + y.toInt := by
  have e := c_ladd x y; have r := rng64 (x + y); omega
theorem sub64 (x y : Int64) (h1 : -9223372036854775808 ≤ x.toInt - y.toInt) (h2 : x.toInt - y.toInt < 9223372036854775808) : (x - y).toInt = x.toInt - y.toInt := by
  have e := c_lsub x y; have r := rng64 (x - y); omega
theorem mul64 (x y : Int64) (h1 : -9223372036854775808 ≤ x.toInt * y.toInt) (h2 : x.toInt * y.toInt < 9223372036854775808) : (x * y).toInt = x.toInt * y.toInt := by
  have e := c_lmul x y; have r := rng64 (x * y); generalize x.toInt * y.toInt = z at *; omega
theorem mulc32 (x c : Int32) (k : Int) (hc : c.toInt = k) (h1 : -2147483648 ≤ x.toInt * k) (h2 : x.toInt * k < 2147483648) : (x * c).toInt = x.toInt * k := by
  subst hc; exact mul32 x c h1 h2
theorem mulc64 (x c : Int64) (k : Int) (hc : c.toInt = k) (h1 : -9223372036854775808 ≤ x.toInt * k) (h2 : x.toInt * k < 9223372036854775808) : (x * c).toInt = x.toInt * k := by
  subst hc; exact mul64 x c h1 h2
theorem addc32 (x c : Int32) (k : Int) (hc : c.toInt = k) (h1 : -2147483648 ≤ x.toInt + k) (h2 : x.toInt + k < 2147483648) : (x + c).toInt = x.toInt + k := by
  subst hc; exact add32 x c h1 h2
theorem subc32 (x c : Int32) (k : Int) (hc : c.toInt = k) (h1 : -2147483648 ≤ x.toInt - k) (h2 : x.toInt - k < 2147483648) : (x - c).toInt = x.toInt - k := by
  subst hc; exact sub32 x c h1 h2
theorem sta_int {args : Array Value} {s : State} {C n d : String} {v : Int32} (h : (Jvm.Cond.eq (Jvm.Term.static C n d) (Jvm.Term.int v)).value args s none s [] = some true) : (Jvm.Term.static C n d).eval args s none [] s = some (.int v) := by
  obtain ⟨a, b, h1, h2, -, -⟩ := cmp_v (Or.inl h)
  cases Option.some.inj (h2.symm.trans (rfl : (Jvm.Term.int v).eval args s none [] s = some (.int v)))
  rw [h1]; cases a <;> simp [Cond.value, h1, h2] at h ⊢; exact h
theorem sta_long {args : Array Value} {s : State} {C n d : String} {v : Int64} (h : (Jvm.Cond.eq (Jvm.Term.static C n d) (Jvm.Term.long v)).value args s none s [] = some true) : (Jvm.Term.static C n d).eval args s none [] s = some (.long v) := by
  obtain ⟨a, b, h1, h2, -, -⟩ := cmp_v (Or.inl h)
  cases Option.some.inj (h2.symm.trans (rfl : (Jvm.Term.long v).eval args s none [] s = some (.long v)))
  rw [h1]; cases a <;> simp [Cond.value, h1, h2] at h ⊢; exact h
/-- (y & 0x7fffffff) % m -/
theorem pmod32 (x m : Int32) (M : Int) (hm : m.toInt = M) (hM : 0 < M) : ((x &&& (2147483647 : Int32)) % m).toInt = (x.toInt % 2147483648) % M ∧ 0 ≤ ((x &&& (2147483647 : Int32)) % m).toInt ∧ ((x &&& (2147483647 : Int32)) % m).toInt < M := by
  have e : (x &&& (2147483647 : Int32)).toInt = x.toInt % 2147483648 := c_mask x 2147483647 31 (by decide) (by decide)
  have q := (c_irem (x &&& (2147483647 : Int32)) m M hm).1 (by omega)
  have := Int.emod_nonneg (x.toInt % 2147483648) (show M ≠ 0 by omega)
  have := Int.emod_lt_of_pos (x.toInt % 2147483648) hM
  rw [q, e]; omega
/-- (x & Long.MAX_VALUE) % m -/
theorem pmod64 (x m : Int64) (M : Int) (hm : m.toInt = M) (hM : 0 < M) : 0 ≤ ((x &&& (9223372036854775807 : Int64)) % m).toInt ∧ ((x &&& (9223372036854775807 : Int64)) % m).toInt < M := by
  have e : (x &&& (9223372036854775807 : Int64)).toInt = x.toInt % 9223372036854775808 := c_maskL x 9223372036854775807 63 (by decide) (by decide)
  have q := (c_lrem (x &&& (9223372036854775807 : Int64)) m M hm).1 (by omega)
  rw [lrem_mod] at q
  have := Int.emod_nonneg (x.toInt % 9223372036854775808) (show M ≠ 0 by omega)
  have := Int.emod_lt_of_pos (x.toInt % 9223372036854775808) hM
  rw [q, e]; omega
end Jvm.Pilot.@@N@@
namespace Jvm.Pilot.@@N@@
open Jvm Jvm.ClassFile Sem Op Lib Jvm.Free Jvm.Stand Jvm.LawKit Jvm.RoadKit Bundle Jvm.Pilot.@@N@@.Jvm.D
section Heaps
variable {l : Launch} {Z : State} {n0 : Nat} {y : MethodName} {bytes : ByteArray} {maxl : Nat} {ret : Option FieldType} {R : Room} {G : Cx} {h h' : Heap} {pc pc' : Nat} {Ls : Array Slot} {St : List Value} {C S C' S' : Nat} {Q : Option Value → Heap → Prop} {a0 : Array Value} {a b : Addr}
/-- a step that moves the state and keeps the heap -/
theorem W.stepT (A : W l Z n0 y bytes maxl ret R G h pc Ls St C S) {Ls' : Array Slot} {St' : List Value}
    (f : ∀ {p : Program} {e : Env} {s : State} {m : MethodId} {args : Array Value} {below : List Frame} {meth : Method} {c : Code} {T : State} {locs : List Loc}, Stand p l e R s m args below meth c T locs C S → p.tables.exec = Jvm.exec → Z.Warmed39 s.vm → s.vm.findClass y.cls = some m.cls → c.code = bytes → c.maxLocals = maxl → T.heap = h →
      ∃ T', Stand p l e R s m args below meth c T' locs C S ∧ T'.heap = h ∧ ∀ t, Steps p.tables e below (T'.setTop (mkF m pc' Ls' St')) t → Steps p.tables e below (T.setTop (mkF m pc Ls St)) t) : W l Z n0 y bytes maxl ret R G h pc' Ls' St' C S := by
  obtain ⟨p, e, s, m, args, below, meth, c, st⟩ := G
  obtain ⟨hx, hZ, hby, hml, hown, hnm, hrt, hlk, hn0, T, locs, X, N, eT, k⟩ := A
  obtain ⟨T', X', e', st'⟩ := f X hx hZ hown hby hml eT
  exact W.mk hx hZ hby hml hown hnm hrt hlk hn0 X' N e' (fun t q => k t (st' t q))
theorem W.getF (A : W l Z n0 y bytes maxl ret R G h pc Ls (.ref a :: St) C S) {index : Nat} {R0 O n d host : String} {v : Value} (hd : decode bytes pc = .ok (.getfield index, 3)) (w : (Jvm.Cond.fieldLink y.cls index R0 n d).before a0 Z = true ∨ (Jvm.Cond.fieldLinkNest y.cls index R0 n d host).before a0 Z = true) (via : Via Z R0 O n d) (F : Fld Z h a O n d v) (hp : pc + 3 = pc') : W l Z n0 y bytes maxl ret R G h pc' Ls (v :: St) C S := by
  subst hp; exact A.stepT fun X hx hZ hown q _ eT => RoadKit.getF X hx hZ hown w via eT F (g := mkF _ _ _ _) rfl rfl (hb q hd)
theorem W.getS (A : W l Z n0 y bytes maxl ret R G h pc Ls St C S) {index : Nat} {R0 O n d host : String} {v : Value} (hd : decode bytes pc = .ok (.getstatic index, 3)) (w : (Jvm.Cond.fieldLink y.cls index R0 n d).before a0 Z = true ∨ (Jvm.Cond.fieldLinkNest y.cls index R0 n d host).before a0 Z = true) (via : Via Z R0 O n d) (F : Sta Z h O n d v) (hp : pc + 3 = pc') : W l Z n0 y bytes maxl ret R G h pc' Ls (v :: St) C S := by
  subst hp; exact A.stepT fun X hx hZ hown q _ eT => getS2 X hx hZ hown w via eT F (g := mkF _ _ _ _) rfl (hb q hd)
theorem W.initO (A : W l Z n0 y bytes maxl ret R G h pc Ls (.ref a :: St) C S) {idx : Nat} (hd : decode bytes pc = .ok (.invokespecial idx, 3)) (w1 : (Jvm.Cond.methodLink y.cls idx Lib.objectInit).before a0 Z = true) (w2 : (Jvm.Cond.instanceMethod Lib.objectInit).before a0 Z = true) (w3 : (Jvm.Cond.code Lib.objectInit ⟨#[0xb1]⟩ 1 none).before a0 Z = true) (hsz : Ls.size = maxl) (hf : 1 ≤ R.frames) (hlo : (St.map fun v => v.category).sum + 12 ≤ R.locals) (hp : pc + 3 = pc') : W l Z n0 y bytes maxl ret R G h pc' Ls St C S := by
  subst hp; exact A.stepT fun X hx hZ hown q hml eT => RoadKit.initO X hx hZ hown w1 w2 w3 eT (g := mkF _ _ _ _) rfl (by rw [hml]; exact hsz) rfl (hb q hd) hf (W := (St.map fun v => v.category).sum) (by show 2 * 0 + _ ≤ _; omega) hlo
theorem W.cast0 (A : W l Z n0 y bytes maxl ret R G h pc Ls (.ref a :: St) C S) {index : Nat} {K : String} (hd : decode bytes pc = .ok (.checkcast index, 3)) (w : (Jvm.Cond.classLink y.cls index K).before a0 Z = true) (F : Ins Z h a K true) (hp : pc + 3 = pc') : W l Z n0 y bytes maxl ret R G h pc' Ls (.ref a :: St) C S := by
  subst hp; exact A.stepT fun X hx hZ hown q _ eT => castY X hx hZ hown w eT F (g := mkF _ _ _ _) rfl rfl (hb q hd)
theorem W.inst1 (A : W l Z n0 y bytes maxl ret R G h pc Ls (.ref a :: St) C S) {index : Nat} {K : String} (hd : decode bytes pc = .ok (.instanceof index, 3)) (w : (Jvm.Cond.classLink y.cls index K).before a0 Z = true) (F : Ins Z h a K true) (hp : pc + 3 = pc') : W l Z n0 y bytes maxl ret R G h pc' Ls (.int 1 :: St) C S := by
  subst hp; exact A.stepT fun X hx hZ hown q _ eT => instY X hx hZ hown w eT F (g := mkF _ _ _ _) rfl rfl (hb q hd)
theorem W.putF {v : Value} (A : W l Z n0 y bytes maxl ret R G h pc Ls (v :: .ref a :: St) C S) {index kk : Nat} {R0 O n d host K : String} {ty : FieldType} {old : Value} (hd : decode bytes pc = .ok (.putfield index, 3)) (w : (Jvm.Cond.fieldLink y.cls index R0 n d).before a0 Z = true ∨ (Jvm.Cond.fieldLinkNest y.cls index R0 n d host).before a0 Z = true) (via : Via Z R0 O n d)
    (F : Fld Z h a O n d old) (E : Exa Z h a K) (Lw : (Jvm.Cond.lays K O n d).before a0 Z = true ∨ ((Jvm.Cond.laysFinal K O n d).before a0 Z = true ∧ y.cls = O ∧ y.name = "<init>")) (wi : (Jvm.Cond.instantiable K kk).before a0 Z = true) (hty : parseFieldDescriptor d = some ty) (hn : narrow ty v = v) (hf : fits ty v = true) (ga : n0 ≤ a) (hp : pc + 3 = pc') :
    ∃ h', Wr h h' a (Jvm.RoadKit.slotOf Z O n d) v ∧ W l Z n0 y bytes maxl ret R G h' pc' Ls St C S := by
  subst hp
  obtain ⟨p, e, s, m, args, below, meth, c, st⟩ := G
  obtain ⟨hx, hZ, hby, hml, hown, hnm, hrt, hlk, hn0, T, locs, X, N, eT, k⟩ := A
  obtain ⟨T', h', X', e', W', st'⟩ := RoadKit.putF X hx hZ hown w via eT F E (Lw.imp id fun q => ⟨q.1, q.2.1, hnm.trans q.2.2⟩) wi hty hn hf (g := mkF m pc Ls _) rfl rfl (hb hby hd)
  exact ⟨h', W', W.mk hx hZ hby hml hown hnm hrt hlk hn0 X' (Fr.snoc X' N ga) e' (fun t q => k t (st' t q))⟩
theorem W.putFN {v v' : Value} (A : W l Z n0 y bytes maxl ret R G h pc Ls (v :: .ref a :: St) C S) {index kk : Nat} {R0 O n d K : String} {ty : FieldType} {old : Value} (hd : decode bytes pc = .ok (.putfield index, 3)) (w : (Jvm.Cond.fieldLink y.cls index R0 n d).before a0 Z = true) (via : Via Z R0 O n d)
    (F : Fld Z h a O n d old) (E : Exa Z h a K) (Lw : (Jvm.Cond.lays K O n d).before a0 Z = true ∨ ((Jvm.Cond.laysFinal K O n d).before a0 Z = true ∧ y.cls = O ∧ y.name = "<init>")) (wi : (Jvm.Cond.instantiable K kk).before a0 Z = true) (hty : parseFieldDescriptor d = some ty) (hn : narrow ty v = v') (hf : fits ty v' = true) (ga : n0 ≤ a) (hp : pc + 3 = pc') :
    ∃ h', Wr h h' a (Jvm.RoadKit.slotOf Z O n d) v' ∧ W l Z n0 y bytes maxl ret R G h' pc' Ls St C S := by
  subst hp
  obtain ⟨p, e, s, m, args, below, meth, c, st⟩ := G
  obtain ⟨hx, hZ, hby, hml, hown, hnm, hrt, hlk, hn0, T, locs, X, N, eT, k⟩ := A
  obtain ⟨T', h', X', e', W', st'⟩ := RoadKit.putFN X hx hZ hown w via eT F E (Lw.imp id fun q => ⟨q.1, q.2.1, hnm.trans q.2.2⟩) wi hty hn hf (g := mkF m pc Ls _) rfl rfl (hb hby hd)
  exact ⟨h', W', W.mk hx hZ hby hml hown hnm hrt hlk hn0 X' (Fr.snoc X' N ga) e' (fun t q => k t (st' t q))⟩
theorem W.newO (A : W l Z n0 y bytes maxl ret R G h pc Ls St C S) {index n : Nat} {K : String} (hd : decode bytes pc = .ok (.new index, 3)) (w : (Jvm.Cond.classLink y.cls index K).before a0 Z = true) (wi : (Jvm.Cond.instantiable K n).before a0 Z = true) (wz : (Jvm.Cond.initialized K).before a0 Z = true) (hC : C + 1 ≤ R.cells) (hS : S + n ≤ R.slots) (hC' : C + 1 = C') (hS' : S + n = S') (hp : pc + 3 = pc') :
    ∃ h' b, b = h.size ∧ n0 ≤ b ∧ Ext h h' ∧ Exa Z h' b K ∧ (∀ {O nm d : String} {ty : FieldType}, Laid Z a0 K O nm d → parseFieldDescriptor d = some ty → Fld Z h' b O nm d (defaultValue ty)) ∧ W l Z n0 y bytes maxl ret R G h' pc' Ls (.ref b :: St) C' S' := by
  subst hp hC' hS'
  have hsz := A.size
  obtain ⟨p, e, s, m, args, below, meth, c, st⟩ := G
  obtain ⟨hx, hZ, hby, hml, hown, hnm, hrt, hlk, hn0, T, locs, X, N, eT, k⟩ := A
  obtain ⟨T', h', X', e', E', A', D', -, st'⟩ := RoadKit.newO X hx hZ hown w wi wz eT (g := mkF m pc Ls St) rfl (hb hby hd) hC hS
  exact ⟨h', h.size, rfl, hsz, E', A', D', W.mk hx hZ hby hml hown hnm hrt hlk hn0 X' N e' (fun t q => k t (st' t q))⟩
/-! arrays: what each place holds, by a function of the place -/
def Ars (Z : State) (h : Heap) (a : Addr) (ty : FieldType) (N : Nat) (f : Nat → Value) : Prop := ∃ c : Cell, Arr Z h a c ty ∧ c.slots.size = N ∧ N < 2 ^ 31 ∧ ∀ j, j < N → c.slots[j]? = some (f j)
def upd (f : Nat → Value) (i : Nat) (v : Value) : Nat → Value := fun j => if j = i then v else f j
theorem upd_same (f : Nat → Value) (i : Nat) (v : Value) : upd f i v i = v := by simp [upd]
theorem upd_ne (f : Nat → Value) {i j : Nat} (v : Value) (q : j ≠ i) : upd f i v j = f j := by simp [upd, q]
variable {ty : FieldType} {N : Nat} {f : Nat → Value} {ws : List Addr} {sl : Nat} {v : Value}
theorem Ars.lt (F : Ars Z h a ty N f) : a < h.size := by obtain ⟨c, A, -⟩ := F; exact A.lt
theorem Ars.ext (F : Ars Z h a ty N f) (E : Ext h h') : Ars Z h' a ty N f := by obtain ⟨c, A, r⟩ := F; exact ⟨c, A.ext E, r⟩
theorem Ars.other (F : Ars Z h b ty N f) (V : Wr h h' a sl v) (q : b ≠ a) : Ars Z h' b ty N f := by obtain ⟨c, A, r⟩ := F; exact ⟨c, A.other V q, r⟩
theorem Ars.keep (F : Ars Z h a ty N f) (K : Keep h h' ws) (q : a ∉ ws) : Ars Z h' a ty N f := by obtain ⟨c, A, r⟩ := F; exact ⟨c, ⟨K.2.1 a c A.1 q, A.2⟩, r⟩
theorem Ars.same {i : Nat} (F : Ars Z h a ty N f) (V : Wr h h' a i v) (hi : i < N) : Ars Z h' a ty N (upd f i v) := by
  obtain ⟨c, A, hs, hN, hv⟩ := F
  refine ⟨_, A.same V, by rw [sz_set]; exact hs, hN, fun j hj => ?_⟩
  by_cases q : j = i
  · subst q; simp [Cell.setSlot, upd, hs, hj]
  · simp only [Cell.setSlot, upd, if_neg q]; rw [Array.getElem?_setIfInBounds_ne (Ne.symm q)]; exact hv j hj
theorem Ars.fn {g : Nat → Value} (F : Ars Z h a ty N f) (q : ∀ j, j < N → f j = g j) : Ars Z h a ty N g := by
  obtain ⟨c, A, hs, hN, hv⟩ := F; exact ⟨c, A, hs, hN, fun j hj => by rw [← q j hj]; exact hv j hj⟩
theorem Ars.size (F : Ars Z h a ty N f) : N < 2 ^ 31 := by obtain ⟨c, A, hs, hN, hv⟩ := F; exact hN
theorem inb {j : Int32} {i N : Nat} {c : Cell} (hs : c.slots.size = N) (hj : j.toInt = i) (hi : i < N) : ¬ (j < 0 ∨ c.slots.size ≤ j.toNatClampNeg) ∧ j.toNatClampNeg = i := by
  have e0 : (0 : Int32).toInt = 0 := rfl
  rw [hs, Int32.lt_iff_toInt_lt]; simp only [Int32.toNatClampNeg]; omega
theorem W.newP (A : W l Z n0 y bytes maxl ret R G h pc Ls (.int z :: St) C S) {aty : ArrayType} {N cap : Nat} (hd : decode bytes pc = .ok (.newarray aty, 2)) (w : (Jvm.Cond.arrayClass (newarray.typeOf aty)).before a0 Z = true) (hz : z.toInt = N) (hcap : N ≤ cap) (hcb : cap * 8 ≤ 536870912) (hC : C + 1 ≤ R.cells) (hS : S + cap ≤ R.slots) (hC' : C + 1 = C') (hS' : S + cap = S') (hp : pc + 2 = pc') :
    ∃ h' b, b = h.size ∧ n0 ≤ b ∧ Ext h h' ∧ Ars Z h' b (newarray.typeOf aty) N (fun _ => defaultValue (newarray.typeOf aty)) ∧ W l Z n0 y bytes maxl ret R G h' pc' Ls (.ref b :: St) C' S' := by
  subst hp hC' hS'
  have hsz := A.size
  have e0 : (0 : Int32).toInt = 0 := rfl
  have hneg : ¬ z < 0 := by rw [Int32.lt_iff_toInt_lt]; omega
  have hcl : z.toNatClampNeg = N := by simp only [Int32.toNatClampNeg]; omega
  obtain ⟨p, e, s, m, args, below, meth, c, st⟩ := G
  obtain ⟨hx, hZ, hby, hml, hown, hnm, hrt, hlk, hn0, T, locs, X, Nf, eT, k⟩ := A
  obtain ⟨T', h', kA, X', e', E', A', st'⟩ := RoadKit.newP X hx hZ w eT (g := mkF m pc Ls _) rfl (hb hby hd) rfl hneg (cap := cap) (by omega) hcb hC hS
  refine ⟨h', h.size, rfl, hsz, E', ⟨_, A', by rw [sz_new, hcl], by omega, fun j hj => ?_⟩, W.mk hx hZ hby hml hown hnm hrt hlk hn0 X' Nf e' (fun t q => k t (st' t q))⟩
  simp [newA, hcl, hj]
theorem W.alen (A : W l Z n0 y bytes maxl ret R G h pc Ls (.ref a :: St) C S) (hd : decode bytes pc = .ok (.arraylength, 1)) (F : Ars Z h a ty N f) {z : Int32} (hz : z.toInt = N) (hp : pc + 1 = pc') : W l Z n0 y bytes maxl ret R G h pc' Ls (.int z :: St) C S := by
  subst hp
  obtain ⟨cl, Ar, hs, hN, hv⟩ := F
  have e0 : (0 : Int32).toInt = 0 := rfl
  have hneg : ¬ z < 0 := by rw [Int32.lt_iff_toInt_lt]; omega
  have hcl : cl.slots.size = z.toNatClampNeg := by simp only [Int32.toNatClampNeg]; omega
  exact A.step fun X hx hZ hown q eT r => X.arraylength hx (by rw [eT]; exact Ar.1) (State.isArrayOf_alike hZ.alike Ar.2.1) (g := mkF _ _ _ _) rfl rfl (hb q hd) _ (by rw [len_of hcl hneg]; exact r)
theorem W.iaload {j : Int32} (A : W l Z n0 y bytes maxl ret R G h pc Ls (.int j :: .ref a :: St) C S) (hd : decode bytes pc = .ok (.iaload, 1)) (F : Ars Z h a .int N f) {i : Nat} (hj : j.toInt = i) (hi : i < N) {v : Value} (hv : f i = v) (hp : pc + 1 = pc') : W l Z n0 y bytes maxl ret R G h pc' Ls (v :: St) C S := by
  subst hp
  obtain ⟨cl, Ar, hs, hN, hf⟩ := F
  obtain ⟨q1, q2⟩ := inb hs hj hi
  exact A.step fun X hx hZ hown q eT r => X.iaload hx (by rw [eT]; exact Ar.1) (State.isArrayOf_alike hZ.alike Ar.2.1) Ar.2.2 q1 (by rw [q2, hf i hi, hv]) (g := mkF _ _ _ _) rfl rfl (hb q hd) _ r
theorem W.laload {j : Int32} (A : W l Z n0 y bytes maxl ret R G h pc Ls (.int j :: .ref a :: St) C S) (hd : decode bytes pc = .ok (.laload, 1)) (F : Ars Z h a .long N f) {i : Nat} (hj : j.toInt = i) (hi : i < N) {v : Value} (hv : f i = v) (hp : pc + 1 = pc') : W l Z n0 y bytes maxl ret R G h pc' Ls (v :: St) C S := by
  subst hp
  obtain ⟨cl, Ar, hs, hN, hf⟩ := F
  obtain ⟨q1, q2⟩ := inb hs hj hi
  exact A.step fun X hx hZ hown q eT r => X.laload hx (by rw [eT]; exact Ar.1) (State.isArrayOf_alike hZ.alike Ar.2.1) Ar.2.2 q1 (by rw [q2, hf i hi, hv]) (g := mkF _ _ _ _) rfl rfl (hb q hd) _ r
theorem W.baload {j : Int32} (A : W l Z n0 y bytes maxl ret R G h pc Ls (.int j :: .ref a :: St) C S) (hd : decode bytes pc = .ok (.baload, 1)) (F : Ars Z h a .byte N f) {i : Nat} (hj : j.toInt = i) (hi : i < N) {v : Value} (hv : f i = v) (hp : pc + 1 = pc') : W l Z n0 y bytes maxl ret R G h pc' Ls (v :: St) C S := by
  subst hp
  obtain ⟨cl, Ar, hs, hN, hf⟩ := F
  obtain ⟨q1, q2⟩ := inb hs hj hi
  exact A.step fun X hx hZ hown q eT r => X.baloadBytes hx (by rw [eT]; exact Ar.1) (State.isArrayOf_alike hZ.alike Ar.2.1) Ar.2.2 q1 (by rw [q2, hf i hi, hv]) (g := mkF _ _ _ _) rfl rfl (hb q hd) _ r
theorem W.caload {j : Int32} (A : W l Z n0 y bytes maxl ret R G h pc Ls (.int j :: .ref a :: St) C S) (hd : decode bytes pc = .ok (.caload, 1)) (F : Ars Z h a .char N f) {i : Nat} (hj : j.toInt = i) (hi : i < N) {v : Value} (hv : f i = v) (hp : pc + 1 = pc') : W l Z n0 y bytes maxl ret R G h pc' Ls (v :: St) C S := by
  subst hp
  obtain ⟨cl, Ar, hs, hN, hf⟩ := F
  obtain ⟨q1, q2⟩ := inb hs hj hi
  exact A.step fun X hx hZ hown q eT r => X.caload hx (by rw [eT]; exact Ar.1) (State.isArrayOf_alike hZ.alike Ar.2.1) Ar.2.2 q1 (by rw [q2, hf i hi, hv]) (g := mkF _ _ _ _) rfl rfl (hb q hd) _ r
theorem W.iastore {j x : Int32} (A : W l Z n0 y bytes maxl ret R G h pc Ls (.int x :: .int j :: .ref a :: St) C S) (hd : decode bytes pc = .ok (.iastore, 1)) (F : Ars Z h a .int N f) {i : Nat} (hj : j.toInt = i) (hi : i < N) (ga : n0 ≤ a) (hp : pc + 1 = pc') : ∃ h', Wr h h' a i (.int x) ∧ Ars Z h' a .int N (upd f i (.int x)) ∧ W l Z n0 y bytes maxl ret R G h' pc' Ls St C S := by
  subst hp
  have F0 := F
  obtain ⟨cl, Ar, hs, hN, hf⟩ := F
  obtain ⟨q1, q2⟩ := inb hs hj hi
  obtain ⟨p, e, s, m, args, below, meth, c, st⟩ := G
  obtain ⟨hx, hZ, hby, hml, hown, hnm, hrt, hlk, hn0, T, locs, X, Nf, eT, k⟩ := A
  obtain ⟨T', h', X', e', W', st'⟩ := stI X hx hZ eT Ar q1 (g := mkF m pc Ls _) rfl rfl (hb hby hd)
  rw [q2] at W'
  exact ⟨h', W', F0.same W' hi, W.mk hx hZ hby hml hown hnm hrt hlk hn0 X' (Fr.snoc X' Nf ga) e' (fun t q => k t (st' t q))⟩
theorem W.lastore {j : Int32} {x : Int64} (A : W l Z n0 y bytes maxl ret R G h pc Ls (.long x :: .int j :: .ref a :: St) C S) (hd : decode bytes pc = .ok (.lastore, 1)) (F : Ars Z h a .long N f) {i : Nat} (hj : j.toInt = i) (hi : i < N) (ga : n0 ≤ a) (hp : pc + 1 = pc') : ∃ h', Wr h h' a i (.long x) ∧ Ars Z h' a .long N (upd f i (.long x)) ∧ W l Z n0 y bytes maxl ret R G h' pc' Ls St C S := by
  subst hp
  have F0 := F
  obtain ⟨cl, Ar, hs, hN, hf⟩ := F
  obtain ⟨q1, q2⟩ := inb hs hj hi
  obtain ⟨p, e, s, m, args, below, meth, c, st⟩ := G
  obtain ⟨hx, hZ, hby, hml, hown, hnm, hrt, hlk, hn0, T, locs, X, Nf, eT, k⟩ := A
  obtain ⟨T', h', X', e', W', st'⟩ := stJ X hx hZ eT Ar q1 (g := mkF m pc Ls _) rfl rfl (hb hby hd)
  rw [q2] at W'
  exact ⟨h', W', F0.same W' hi, W.mk hx hZ hby hml hown hnm hrt hlk hn0 X' (Fr.snoc X' Nf ga) e' (fun t q => k t (st' t q))⟩
theorem W.bastore {j x : Int32} (A : W l Z n0 y bytes maxl ret R G h pc Ls (.int x :: .int j :: .ref a :: St) C S) (hd : decode bytes pc = .ok (.bastore, 1)) (F : Ars Z h a .byte N f) {i : Nat} (hj : j.toInt = i) (hi : i < N) (ga : n0 ≤ a) (hp : pc + 1 = pc') : ∃ h', Wr h h' a i (.int x.toInt8.toInt32) ∧ Ars Z h' a .byte N (upd f i (.int x.toInt8.toInt32)) ∧ W l Z n0 y bytes maxl ret R G h' pc' Ls St C S := by
  subst hp
  have F0 := F
  obtain ⟨cl, Ar, hs, hN, hf⟩ := F
  obtain ⟨q1, q2⟩ := inb hs hj hi
  obtain ⟨p, e, s, m, args, below, meth, c, st⟩ := G
  obtain ⟨hx, hZ, hby, hml, hown, hnm, hrt, hlk, hn0, T, locs, X, Nf, eT, k⟩ := A
  obtain ⟨T', h', X', e', W', st'⟩ := stB X hx hZ eT Ar q1 (g := mkF m pc Ls _) rfl rfl (hb hby hd)
  rw [q2] at W'
  exact ⟨h', W', F0.same W' hi, W.mk hx hZ hby hml hown hnm hrt hlk hn0 X' (Fr.snoc X' Nf ga) e' (fun t q => k t (st' t q))⟩
theorem W.castore {j x : Int32} (A : W l Z n0 y bytes maxl ret R G h pc Ls (.int x :: .int j :: .ref a :: St) C S) (hd : decode bytes pc = .ok (.castore, 1)) (F : Ars Z h a .char N f) {i : Nat} (hj : j.toInt = i) (hi : i < N) (ga : n0 ≤ a) (hp : pc + 1 = pc') : ∃ h', Wr h h' a i (.int (nar .char x)) ∧ Ars Z h' a .char N (upd f i (.int (nar .char x))) ∧ W l Z n0 y bytes maxl ret R G h' pc' Ls St C S := by
  subst hp
  have F0 := F
  obtain ⟨cl, Ar, hs, hN, hf⟩ := F
  obtain ⟨q1, q2⟩ := inb hs hj hi
  obtain ⟨p, e, s, m, args, below, meth, c, st⟩ := G
  obtain ⟨hx, hZ, hby, hml, hown, hnm, hrt, hlk, hn0, T, locs, X, Nf, eT, k⟩ := A
  obtain ⟨T', h', X', e', W', st'⟩ := stC X hx hZ eT Ar q1 (g := mkF m pc Ls _) rfl rfl (hb hby hd)
  rw [q2] at W'
  exact ⟨h', W', F0.same W' hi, W.mk hx hZ hby hml hown hnm hrt hlk hn0 X' (Fr.snoc X' Nf ga) e' (fun t q => k t (st' t q))⟩
end Heaps
end Jvm.Pilot.@@N@@
namespace Jvm.Pilot.@@N@@
open Jvm Jvm.ClassFile Sem Op Lib Jvm.Free Jvm.Stand Jvm.LawKit Jvm.RoadKit Bundle Jvm.Pilot.@@N@@.Jvm.D
theorem own_p1 (x : Int64) (h1 : 0 ≤ x.toInt) (h2 : x.toInt < 1000000000000) : ((1 : Int64) + x).toInt = 1 + x.toInt := by
  have e : (1 : Int64).toInt = 1 := rfl
  have := add64 (1 : Int64) x (by omega) (by omega); omega
theorem own_m4 (x : Int64) (h1 : 0 ≤ x.toInt) (h2 : x.toInt < 1000000000000) : (x * (4 : Int64)).toInt = x.toInt * 4 ∧ (x * (1 : Int64)).toInt = x.toInt := by
  have := mulc64 x (4 : Int64) 4 rfl (by omega) (by omega)
  have := mulc64 x (1 : Int64) 1 rfl (by omega) (by omega)
  omega
theorem own_m64 (x : Int64) (h1 : 0 ≤ x.toInt) (h2 : x.toInt < 1000000000000) : ((64 : Int64) * x).toInt = 64 * x.toInt := by
  have := mulc64 x (64 : Int64) 64 rfl (by omega) (by omega)
  rw [Int64.mul_comm]; omega
theorem own_m64' (x : Int64) (h1 : 0 ≤ x.toInt) (h2 : x.toInt < 1000000000000) : ((64 : Int64) * (x - (1 : Int64))).toInt = 64 * (x.toInt - 1) := by
  have e : (1 : Int64).toInt = 1 := rfl
  have := sub64 x (1 : Int64) (by omega) (by omega)
  have := mulc64 (x - 1) (64 : Int64) 64 rfl (by omega) (by omega)
  rw [Int64.mul_comm]; omega
theorem own_wc1 (t : Int64) (h1 : 64 ≤ t.toInt) (h2 : t.toInt ≤ 137438953471) : ((t.toUInt64 >>> ((6 : Int32) &&& 0x3f).toInt64.toUInt64).toInt64.toInt32).toInt = t.toInt / 64 := by
  have e := c_lushr t 6 6 (by decide) (by decide)
  have q := c_l2i ((t.toUInt64 >>> ((6 : Int32) &&& 0x3f).toInt64.toUInt64).toInt64)
  have r := rng32 ((t.toUInt64 >>> ((6 : Int32) &&& 0x3f).toInt64.toUInt64).toInt64.toInt32)
  omega
theorem own_wc (s : Int64) (b : Int32) (h : (b = (1 : Int32) ∧ 1 ≤ s.toInt ∧ s.toInt ≤ 137438953408) ∨ (b = (4 : Int32) ∧ 1 ≤ s.toInt ∧ s.toInt ≤ 34359738352)) :
    (b = (1 : Int32) → (((((s * b.toInt64) + (63 : Int64)).toUInt64 >>> ((6 : Int32) &&& 0x3f).toInt64.toUInt64).toInt64).toInt32).toInt = (s.toInt + 63) / 64) ∧ (b = (4 : Int32) → (((((s * b.toInt64) + (63 : Int64)).toUInt64 >>> ((6 : Int32) &&& 0x3f).toInt64.toUInt64).toInt64).toInt32).toInt = (s.toInt * 4 + 63) / 64) := by
  have e63 : (63 : Int64).toInt = 63 := rfl
  rcases h with ⟨rfl, h1, h2⟩ | ⟨rfl, h1, h2⟩
  · refine ⟨fun _ => ?_, fun q => absurd q (by decide)⟩
    have m1 : (s * (1 : Int32).toInt64).toInt = s.toInt := (own_m4 s (by omega) (by omega)).2
    have a1 := add64 (s * (1 : Int32).toInt64) (63 : Int64) (by omega) (by omega)
    rw [own_wc1 _ (by omega) (by omega), a1, m1, e63]
  · refine ⟨fun q => absurd q (by decide), fun _ => ?_⟩
    have m1 : (s * (4 : Int32).toInt64).toInt = s.toInt * 4 := (own_m4 s (by omega) (by omega)).1
    have a1 := add64 (s * (4 : Int32).toInt64) (63 : Int64) (by omega) (by omega)
    rw [own_wc1 _ (by omega) (by omega), a1, m1, e63]
theorem fld_int {args : Array Value} {s : State} {t : Jvm.Term} {C n d : String} {v : Int32} (h : (Jvm.Cond.eq (Jvm.Term.field t C n d) (Jvm.Term.int v)).value args s none s [] = some true) : (Jvm.Term.field t C n d).eval args s none [] s = some (.int v) := by
  obtain ⟨a, b, h1, h2, -, -⟩ := cmp_v (Or.inl h)
  cases Option.some.inj (h2.symm.trans (rfl : (Jvm.Term.int v).eval args s none [] s = some (.int v)))
  rw [h1]; cases a <;> simp [Cond.value, h1, h2] at h ⊢; exact h
theorem pd_0 : parseMethodDescriptor "(J)I" = some ⟨[.long], some .int⟩ := by decide +kernel
theorem pn1 : plainFor (⟨"com/example/riddle0/riddle0/SavedForm$Kind", "wordCount", "(J)I"⟩ : MethodName) = true := by first | exact plainFor_of_name (by first | (simp [plainName, overriddenIn]; done) | decide +kernel) | exact Jvm.Free.JP.mathPlain rfl (by decide +kernel) | decide +kernel
theorem d1_0 : decode prog_9_method_4_code 0 = .ok (.lload_n 1, 1) := by decide +kernel
theorem d1_1 : decode prog_9_method_4_code 1 = .ok (.aload_n 0, 1) := by decide +kernel
theorem d1_2 : decode prog_9_method_4_code 2 = .ok (.getfield 33, 3) := by decide +kernel
theorem d1_5 : decode prog_9_method_4_code 5 = .ok (.i2l, 1) := by decide +kernel
theorem d1_6 : decode prog_9_method_4_code 6 = .ok (.lmul, 1) := by decide +kernel
theorem d1_7 : decode prog_9_method_4_code 7 = .ok (.ldc2_w 36, 3) := by decide +kernel
theorem d1_10 : decode prog_9_method_4_code 10 = .ok (.ladd, 1) := by decide +kernel
theorem d1_11 : decode prog_9_method_4_code 11 = .ok (.bipush 6, 2) := by decide +kernel
theorem d1_13 : decode prog_9_method_4_code 13 = .ok (.lushr, 1) := by decide +kernel
theorem d1_14 : decode prog_9_method_4_code 14 = .ok (.l2i, 1) := by decide +kernel
theorem d1_15 : decode prog_9_method_4_code 15 = .ok (.ireturn, 1) := by decide +kernel
abbrev y1 : MethodName := (⟨"com/example/riddle0/riddle0/SavedForm$Kind", "wordCount", "(J)I"⟩ : MethodName)
abbrev R1 : Room := { frames := 0, cells := 0, slots := 0, locals := 0 }
set_option maxRecDepth 65536 in
set_option maxHeartbeats 4000000 in
theorem ef1 (a : Addr) (s : Int64) (mid : MethodId) : entryFrame mid #[(.ref a), (.long s)] 3 = mkF mid 0 #[.val (.ref a), .val (.long s), .second] [] := by first | (simp [entryFrame, mkF, argsToLocals, Value.category]; done) | rfl
set_option maxRecDepth 65536 in
set_option maxHeartbeats 40000000 in
theorem rm1 (l : Launch) (Z : State) (a0 : Array Value) (hw : ∀ d ∈ tables_1, d.before a0 Z = true) (n0 : Nat) (ws : List Jvm.Cond) (a : Addr) (s : Int64) (b : Int32) (h0 : Heap) (hn0 : n0 ≤ h0.size) (e0 : Fld Z h0 a "com/example/riddle0/riddle0/SavedForm$Kind" "slotBits" "I" (.int b)) (e1 : (b = (1 : Int32) ∧ 1 ≤ s.toInt ∧ s.toInt ≤ 137438953408) ∨ (b = (4 : Int32) ∧ 1 ≤ s.toInt ∧ s.toInt ≤ 34359738352)) :
    Ctr l Z n0 y1 prog_9_method_4_code 3 (some .int) ws R1 #[(.ref a), (.long s)] h0 (QI fun r h => (h0 = h) ∧ ((b = (1 : Int32) → r.toInt = (s.toInt + 63) / 64) ∧ (b = (4 : Int32) → r.toInt = (s.toInt * 4 + 63) / 64))) := by
  refine ctr_of pn1 hn0 (ef1 a s) fun G A0 => ?_
  have A1 := A0.lloadN (v := s) (pc' := 1) d1_0 rfl rfl
  have A2 := A1.aloadN (v := (.ref a)) (pc' := 2) d1_1 rfl rfl rfl
  have A3 := A2.getF (pc' := 5) (host := "") d1_2 (Or.inl (hw _ (List.mem_of_getElem? (i := 10) rfl))) Via.refl e0 rfl
  have A4 := A3.i2l (pc' := 6) d1_5 rfl
  have A5 := A4.lmul (pc' := 7) d1_6 rfl
  have A6 := A5.ldc2 (z := (63 : Int64)) (pc' := 10) d1_7 (hw _ (List.mem_of_getElem? (i := 12) rfl)) rfl
  have A7 := A6.ladd (pc' := 11) d1_10 rfl
  have A8 := A7.bipush (z := (6 : Int32)) (pc' := 13) d1_11 rfl rfl
  have A9 := A8.lushr (pc' := 14) d1_13 rfl
  have A10 := A9.l2i (pc' := 15) d1_14 rfl
  refine A10.retI d1_15 (by decide) (by decide) ⟨_, rfl, ⟨rfl, ?_⟩⟩
  exact own_wc s b (by assumption)
theorem pn0 : plainFor x = true := plainFor_of_name (by first | (simp [plainName, overriddenIn, x]; done) | decide +kernel)
abbrev y0 : MethodName := x
abbrev R0 : Room := room_1
set_option maxRecDepth 65536 in
set_option maxHeartbeats 4000000 in
theorem ef0 (x0 : Int64) (k : Int32) (mid : MethodId) : entryFrame mid #[(.long x0), (.int k)] maxLocals = mkF mid 0 #[.val (.long x0), .second, .val (.int k), .unset, .unset, .unset, .unset, .unset, .unset, .unset, .unset, .unset, .unset, .unset, .unset, .unset] [] := by first | (simp [entryFrame, mkF, argsToLocals, Value.category, maxLocals]; done) | rfl
set_option maxRecDepth 65536 in
set_option maxHeartbeats 40000000 in
theorem rm0 (l : Launch) (Z : State) (a0 : Array Value) (hw : ∀ d ∈ tables_1, d.before a0 Z = true) (n0 : Nat) (ws : List Jvm.Cond) (x0 : Int64) (k : Int32) (ks : Addr) (kc : Addr) (h0 : Heap) (hn0 : n0 ≤ h0.size) (e0 : Old Z n0 h0) (e1 : Sta Z Z.heap "com/example/riddle0/riddle0/SavedForm$Kind" "STANDARD" "Lcom/example/riddle0/riddle0/SavedForm$Kind;" (.ref ks)) (e2 : Sta Z Z.heap "com/example/riddle0/riddle0/SavedForm$Kind" "COUNTING" "Lcom/example/riddle0/riddle0/SavedForm$Kind;" (.ref kc)) (e3 : Exa Z Z.heap ks "com/example/riddle0/riddle0/SavedForm$Kind") (e4 : Exa Z Z.heap kc "com/example/riddle0/riddle0/SavedForm$Kind") (e5 : Fld Z Z.heap ks "com/example/riddle0/riddle0/SavedForm$Kind" "slotBits" "I" (.int (1 : Int32))) (e6 : Fld Z Z.heap kc "com/example/riddle0/riddle0/SavedForm$Kind" "slotBits" "I" (.int (4 : Int32))) :
    Ctr l Z n0 y0 code maxLocals ret ws R0 #[(.long x0), (.int k)] h0 (QI fun r h => (True) ∧ (r = 1)) := by
  refine ctr_of pn0 hn0 (ef0 x0 k) fun G A0 => ?_
  obtain ⟨s1, s2⟩ := pmod64 x0 (137438953408 : Int64) 137438953408 rfl (by decide)
  obtain ⟨c1, c2⟩ := pmod64 x0 (34359738352 : Int64) 34359738352 rfl (by decide)
  have s3 := own_p1 ((x0 &&& (9223372036854775807 : Int64)) % (137438953408 : Int64)) (by omega) (by omega)
  have c3 := own_p1 ((x0 &&& (9223372036854775807 : Int64)) % (34359738352 : Int64)) (by omega) (by omega)
  have o1 : (1 : Int64).toInt = 1 := rfl
  have A1 := A0.iloadN (v := k) (pc' := 1) at_0 rfl rfl
  have A2 := A1.iconst (z := (1 : Int32)) (pc' := 2) at_1 rfl rfl
  have A3 := A2.iand (pc' := 3) at_2 rfl
  by_cases c4 : (k &&& (1 : Int32)).toInt = 0
  · have A5 := A3.ifYes (pc' := 10) at_3 (teq (ieq (x := (k &&& (1 : Int32))) (y := (0 : Int32)) rfl rfl c4)).1 (by decide) (by decide)
    have A6 := A5.iconst (z := (0 : Int32)) (pc' := 11) at_10 rfl rfl
    have A7 := A6.istoreN (Ls' := #[.val (.long x0), .second, .val (.int k), .val (.int (0 : Int32)), .unset, .unset, .unset, .unset, .unset, .unset, .unset, .unset, .unset, .unset, .unset, .unset]) (pc' := 12) at_11 rfl rfl
    have A8 := A7.iloadN (v := (0 : Int32)) (pc' := 13) at_12 rfl rfl
    have A10 := A8.ifYes (pc' := 22) at_13 (teq (ieq (x := (0 : Int32)) (y := (0 : Int32)) rfl rfl (by decide : (0 : Int) = 0))).1 (by decide) (by decide)
    have f12 := e1.ext e0.2
    have A11 := A10.getS (pc' := 25) (host := "") at_22 (Or.inl (hw _ (List.mem_of_getElem? (i := 0) rfl))) Via.refl f12 rfl
    have A13 := A11.astore (Ls' := #[.val (.long x0), .second, .val (.int k), .val (.int (0 : Int32)), .val (.ref ks), .unset, .unset, .unset, .unset, .unset, .unset, .unset, .unset, .unset, .unset, .unset]) (pc' := 27) at_25 rfl rfl rfl
    have A14 := A13.iloadN (v := (0 : Int32)) (pc' := 28) at_27 rfl rfl
    have A16 := A14.ifYes (pc' := 37) at_28 (teq (ieq (x := (0 : Int32)) (y := (0 : Int32)) rfl rfl (by decide : (0 : Int) = 0))).1 (by decide) (by decide)
    have A17 := A16.lconst (z := (1 : Int64)) (pc' := 38) at_37 rfl rfl
    have A18 := A17.lstore (Ls' := #[.val (.long x0), .second, .val (.int k), .val (.int (0 : Int32)), .val (.ref ks), .val (.long (1 : Int64)), .second, .unset, .unset, .unset, .unset, .unset, .unset, .unset, .unset, .unset]) (pc' := 40) at_38 rfl rfl
    have A19 := A18.iloadN (v := (0 : Int32)) (pc' := 41) at_40 rfl rfl
    have A21 := A19.ifYes (pc' := 50) at_41 (teq (ieq (x := (0 : Int32)) (y := (0 : Int32)) rfl rfl (by decide : (0 : Int) = 0))).1 (by decide) (by decide)
    have A22 := A21.ldc2 (z := (137438953408 : Int64)) (pc' := 53) at_50 (hw _ (List.mem_of_getElem? (i := 3) rfl)) rfl
    have A23 := A22.lstore (Ls' := #[.val (.long x0), .second, .val (.int k), .val (.int (0 : Int32)), .val (.ref ks), .val (.long (1 : Int64)), .second, .val (.long (137438953408 : Int64)), .second, .unset, .unset, .unset, .unset, .unset, .unset, .unset]) (pc' := 55) at_53 rfl rfl
    have A24 := A23.lconst (z := (1 : Int64)) (pc' := 56) at_55 rfl rfl
    have A25 := A24.lloadN (v := x0) (pc' := 57) at_56 rfl rfl
    have A26 := A25.ldc2 (z := (9223372036854775807 : Int64)) (pc' := 60) at_57 (hw _ (List.mem_of_getElem? (i := 4) rfl)) rfl
    have A27 := A26.land (pc' := 61) at_60 rfl
    have A28 := A27.lload (v := (137438953408 : Int64)) (pc' := 63) at_61 rfl rfl
    have A29 := A28.lrem (pc' := 64) at_63 (by decide) rfl
    have A30 := A29.ladd (pc' := 65) at_64 rfl
    have A31 := A30.lstore (Ls' := #[.val (.long x0), .second, .val (.int k), .val (.int (0 : Int32)), .val (.ref ks), .val (.long (1 : Int64)), .second, .val (.long (137438953408 : Int64)), .second, .val (.long ((1 : Int64) + ((x0 &&& (9223372036854775807 : Int64)) % (137438953408 : Int64)))), .second, .unset, .unset, .unset, .unset, .unset]) (pc' := 67) at_65 rfl rfl
    have A32 := A31.aload (v := (.ref ks)) (pc' := 69) at_67 rfl rfl rfl
    have A33 := A32.lload (v := ((1 : Int64) + ((x0 &&& (9223372036854775807 : Int64)) % (137438953408 : Int64)))) (pc' := 71) at_69 rfl rfl
    have f34 := e5.ext e0.2
    have f37 := e3.ext e0.2
    obtain ⟨r36, _, ⟨rfl, q38⟩, A35⟩ := W.kI (A33.callV (a := ks) (argsL := [(.long ((1 : Int64) + ((x0 &&& (9223372036854775807 : Int64)) % (137438953408 : Int64))))]) (rest := []) (C' := 0) (S' := 0) (pc' := 74) at_71 f37 (hw _ (List.mem_of_getElem? (i := 5) rfl)) (hw _ (List.mem_of_getElem? (i := 6) rfl)) (fun hZ => notFace_of_selects (args := #[]) (mvT hZ (hw _ (List.mem_of_getElem? (i := 8) rfl)))) (hw _ (List.mem_of_getElem? (i := 8) rfl)) (hw _ (List.mem_of_getElem? (i := 7) rfl)) (hw _ (List.mem_of_getElem? (i := 1) rfl)) (hw _ (List.mem_of_getElem? (i := 9) rfl)) (rm1 l Z a0 hw n0 [] (ks) (((1 : Int64) + ((x0 &&& (9223372036854775807 : Int64)) % (137438953408 : Int64)))) ((1 : Int32)) h0 A33.size f34 (by first | exact Or.inl ⟨rfl, by omega, by omega⟩ | exact Or.inr ⟨rfl, by omega, by omega⟩)) rfl rfl pd_0 rfl rfl (by decide) (by decide) (Nat.le_of_ble_eq_true rfl) (by decide) (by decide) rfl rfl rfl)
    have w1 := q38.1 rfl
    have w2 := rng32 r36
    have w3 := c_i2l r36
    have w4 := own_m4 ((1 : Int64) + ((x0 &&& (9223372036854775807 : Int64)) % (137438953408 : Int64))) (by omega) (by omega)
    have w5 := own_m64 r36.toInt64 (by omega) (by omega)
    have w6 := own_m64' r36.toInt64 (by omega) (by omega)
    have A40 := A35.istore (Ls' := #[.val (.long x0), .second, .val (.int k), .val (.int (0 : Int32)), .val (.ref ks), .val (.long (1 : Int64)), .second, .val (.long (137438953408 : Int64)), .second, .val (.long ((1 : Int64) + ((x0 &&& (9223372036854775807 : Int64)) % (137438953408 : Int64)))), .second, .val (.int r36), .unset, .unset, .unset, .unset]) (pc' := 76) at_74 rfl rfl
    have A41 := A40.iload (v := r36) (pc' := 78) at_76 rfl rfl
    have A42 := A41.i2l (pc' := 79) at_78 rfl
    have A43 := A42.lstore (Ls' := #[.val (.long x0), .second, .val (.int k), .val (.int (0 : Int32)), .val (.ref ks), .val (.long (1 : Int64)), .second, .val (.long (137438953408 : Int64)), .second, .val (.long ((1 : Int64) + ((x0 &&& (9223372036854775807 : Int64)) % (137438953408 : Int64)))), .second, .val (.int r36), .val (.long r36.toInt64), .second, .unset, .unset]) (pc' := 81) at_79 rfl rfl
    have A44 := A43.lload (v := ((1 : Int64) + ((x0 &&& (9223372036854775807 : Int64)) % (137438953408 : Int64)))) (pc' := 83) at_81 rfl rfl
    have A45 := A44.lload (v := (1 : Int64)) (pc' := 85) at_83 rfl rfl
    have A46 := A45.lmul (pc' := 86) at_85 rfl
    have A47 := A46.lstore (Ls' := #[.val (.long x0), .second, .val (.int k), .val (.int (0 : Int32)), .val (.ref ks), .val (.long (1 : Int64)), .second, .val (.long (137438953408 : Int64)), .second, .val (.long ((1 : Int64) + ((x0 &&& (9223372036854775807 : Int64)) % (137438953408 : Int64)))), .second, .val (.int r36), .val (.long r36.toInt64), .second, .val (.long (((1 : Int64) + ((x0 &&& (9223372036854775807 : Int64)) % (137438953408 : Int64))) * (1 : Int64))), .second]) (pc' := 88) at_86 rfl rfl
    have A48 := A47.lload (v := r36.toInt64) (pc' := 90) at_88 rfl rfl
    have A49 := A48.lconst (z := (1 : Int64)) (pc' := 91) at_90 rfl rfl
    have A50 := A49.lcmp (pc' := 92) at_91 rfl
    by_cases c51 : r36.toInt64.toInt < 1
    · have A52 := A50.ifYes (pc' := 125) at_92 (tlt (llt (x := r36.toInt64) (y := (1 : Int64)) rfl rfl c51)).1 (by decide) (by decide)
      have A53 := A52.iconst (z := (0 : Int32)) (pc' := 126) at_125 rfl rfl
      refine A53.retN (t := .boolean) (z' := (0 : Int32)) at_126 (by decide) (by decide) (by simp) rfl ⟨_, rfl, ⟨trivial, ?_⟩⟩
      have e1 : (0 : Int32).toInt = 0 := rfl
      exfalso
      omega
    · have A54 := A50.ifNo (pc' := 95) at_92 (flt (lnlt (x := r36.toInt64) (y := (1 : Int64)) rfl rfl c51)).1 rfl
      have A55 := A54.ldc2 (z := (64 : Int64)) (pc' := 98) at_95 (hw _ (List.mem_of_getElem? (i := 13) rfl)) rfl
      have A56 := A55.lload (v := r36.toInt64) (pc' := 100) at_98 rfl rfl
      have A57 := A56.lmul (pc' := 101) at_100 rfl
      have A58 := A57.lload (v := (((1 : Int64) + ((x0 &&& (9223372036854775807 : Int64)) % (137438953408 : Int64))) * (1 : Int64))) (pc' := 103) at_101 rfl rfl
      have A59 := A58.lcmp (pc' := 104) at_103 rfl
      by_cases c60 : ((64 : Int64) * r36.toInt64).toInt < (((1 : Int64) + ((x0 &&& (9223372036854775807 : Int64)) % (137438953408 : Int64))) * (1 : Int64)).toInt
      · have A61 := A59.ifYes (pc' := 125) at_104 (tlt (llt (x := ((64 : Int64) * r36.toInt64)) (y := (((1 : Int64) + ((x0 &&& (9223372036854775807 : Int64)) % (137438953408 : Int64))) * (1 : Int64))) rfl rfl c60)).1 (by decide) (by decide)
        have A62 := A61.iconst (z := (0 : Int32)) (pc' := 126) at_125 rfl rfl
        refine A62.retN (t := .boolean) (z' := (0 : Int32)) at_126 (by decide) (by decide) (by simp) rfl ⟨_, rfl, ⟨trivial, ?_⟩⟩
        have e1 : (0 : Int32).toInt = 0 := rfl
        exfalso
        omega
      · have A63 := A59.ifNo (pc' := 107) at_104 (flt (lnlt (x := ((64 : Int64) * r36.toInt64)) (y := (((1 : Int64) + ((x0 &&& (9223372036854775807 : Int64)) % (137438953408 : Int64))) * (1 : Int64))) rfl rfl c60)).1 rfl
        have A64 := A63.ldc2 (z := (64 : Int64)) (pc' := 110) at_107 (hw _ (List.mem_of_getElem? (i := 13) rfl)) rfl
        have A65 := A64.lload (v := r36.toInt64) (pc' := 112) at_110 rfl rfl
        have A66 := A65.lconst (z := (1 : Int64)) (pc' := 113) at_112 rfl rfl
        have A67 := A66.lsub (pc' := 114) at_113 rfl
        have A68 := A67.lmul (pc' := 115) at_114 rfl
        have A69 := A68.lload (v := (((1 : Int64) + ((x0 &&& (9223372036854775807 : Int64)) % (137438953408 : Int64))) * (1 : Int64))) (pc' := 117) at_115 rfl rfl
        have A70 := A69.lcmp (pc' := 118) at_117 rfl
        by_cases c71 : ((64 : Int64) * (r36.toInt64 - (1 : Int64))).toInt < (((1 : Int64) + ((x0 &&& (9223372036854775807 : Int64)) % (137438953408 : Int64))) * (1 : Int64)).toInt
        · have A72 := A70.ifNo (pc' := 121) at_118 (tlt (llt (x := ((64 : Int64) * (r36.toInt64 - (1 : Int64)))) (y := (((1 : Int64) + ((x0 &&& (9223372036854775807 : Int64)) % (137438953408 : Int64))) * (1 : Int64))) rfl rfl c71)).2.1 rfl
          have A73 := A72.iconst (z := (1 : Int32)) (pc' := 122) at_121 rfl rfl
          have A74 := A73.goto (pc' := 126) at_122 (by decide) (by decide)
          refine A74.retN (t := .boolean) (z' := (1 : Int32)) at_126 (by decide) (by decide) (by simp) rfl ⟨_, rfl, ⟨trivial, ?_⟩⟩
          have e1 : (1 : Int32).toInt = 1 := rfl
          rfl
        · have A75 := A70.ifYes (pc' := 125) at_118 (flt (lnlt (x := ((64 : Int64) * (r36.toInt64 - (1 : Int64)))) (y := (((1 : Int64) + ((x0 &&& (9223372036854775807 : Int64)) % (137438953408 : Int64))) * (1 : Int64))) rfl rfl c71)).2.1 (by decide) (by decide)
          have A76 := A75.iconst (z := (0 : Int32)) (pc' := 126) at_125 rfl rfl
          refine A76.retN (t := .boolean) (z' := (0 : Int32)) at_126 (by decide) (by decide) (by simp) rfl ⟨_, rfl, ⟨trivial, ?_⟩⟩
          have e1 : (0 : Int32).toInt = 0 := rfl
          exfalso
          omega
  · have A77 := A3.ifNo (pc' := 6) at_3 (feq (ine (x := (k &&& (1 : Int32))) (y := (0 : Int32)) rfl rfl c4)).1 rfl
    have A78 := A77.iconst (z := (1 : Int32)) (pc' := 7) at_6 rfl rfl
    have A79 := A78.goto (pc' := 11) at_7 (by decide) (by decide)
    have A80 := A79.istoreN (Ls' := #[.val (.long x0), .second, .val (.int k), .val (.int (1 : Int32)), .unset, .unset, .unset, .unset, .unset, .unset, .unset, .unset, .unset, .unset, .unset, .unset]) (pc' := 12) at_11 rfl rfl
    have A81 := A80.iloadN (v := (1 : Int32)) (pc' := 13) at_12 rfl rfl
    have A83 := A81.ifNo (pc' := 16) at_13 (feq (ine (x := (1 : Int32)) (y := (0 : Int32)) rfl rfl (by decide : ¬ ((1 : Int) = 0)))).1 rfl
    have f85 := e2.ext e0.2
    have A84 := A83.getS (pc' := 19) (host := "") at_16 (Or.inl (hw _ (List.mem_of_getElem? (i := 14) rfl))) Via.refl f85 rfl
    have A86 := A84.goto (pc' := 25) at_19 (by decide) (by decide)
    have A87 := A86.astore (Ls' := #[.val (.long x0), .second, .val (.int k), .val (.int (1 : Int32)), .val (.ref kc), .unset, .unset, .unset, .unset, .unset, .unset, .unset, .unset, .unset, .unset, .unset]) (pc' := 27) at_25 rfl rfl rfl
    have A88 := A87.iloadN (v := (1 : Int32)) (pc' := 28) at_27 rfl rfl
    have A90 := A88.ifNo (pc' := 31) at_28 (feq (ine (x := (1 : Int32)) (y := (0 : Int32)) rfl rfl (by decide : ¬ ((1 : Int) = 0)))).1 rfl
    have A91 := A90.ldc2 (z := (4 : Int64)) (pc' := 34) at_31 (hw _ (List.mem_of_getElem? (i := 16) rfl)) rfl
    have A92 := A91.goto (pc' := 38) at_34 (by decide) (by decide)
    have A93 := A92.lstore (Ls' := #[.val (.long x0), .second, .val (.int k), .val (.int (1 : Int32)), .val (.ref kc), .val (.long (4 : Int64)), .second, .unset, .unset, .unset, .unset, .unset, .unset, .unset, .unset, .unset]) (pc' := 40) at_38 rfl rfl
    have A94 := A93.iloadN (v := (1 : Int32)) (pc' := 41) at_40 rfl rfl
    have A96 := A94.ifNo (pc' := 44) at_41 (feq (ine (x := (1 : Int32)) (y := (0 : Int32)) rfl rfl (by decide : ¬ ((1 : Int) = 0)))).1 rfl
    have A97 := A96.ldc2 (z := (34359738352 : Int64)) (pc' := 47) at_44 (hw _ (List.mem_of_getElem? (i := 17) rfl)) rfl
    have A98 := A97.goto (pc' := 53) at_47 (by decide) (by decide)
    have A99 := A98.lstore (Ls' := #[.val (.long x0), .second, .val (.int k), .val (.int (1 : Int32)), .val (.ref kc), .val (.long (4 : Int64)), .second, .val (.long (34359738352 : Int64)), .second, .unset, .unset, .unset, .unset, .unset, .unset, .unset]) (pc' := 55) at_53 rfl rfl
    have A100 := A99.lconst (z := (1 : Int64)) (pc' := 56) at_55 rfl rfl
    have A101 := A100.lloadN (v := x0) (pc' := 57) at_56 rfl rfl
    have A102 := A101.ldc2 (z := (9223372036854775807 : Int64)) (pc' := 60) at_57 (hw _ (List.mem_of_getElem? (i := 4) rfl)) rfl
    have A103 := A102.land (pc' := 61) at_60 rfl
    have A104 := A103.lload (v := (34359738352 : Int64)) (pc' := 63) at_61 rfl rfl
    have A105 := A104.lrem (pc' := 64) at_63 (by decide) rfl
    have A106 := A105.ladd (pc' := 65) at_64 rfl
    have A107 := A106.lstore (Ls' := #[.val (.long x0), .second, .val (.int k), .val (.int (1 : Int32)), .val (.ref kc), .val (.long (4 : Int64)), .second, .val (.long (34359738352 : Int64)), .second, .val (.long ((1 : Int64) + ((x0 &&& (9223372036854775807 : Int64)) % (34359738352 : Int64)))), .second, .unset, .unset, .unset, .unset, .unset]) (pc' := 67) at_65 rfl rfl
    have A108 := A107.aload (v := (.ref kc)) (pc' := 69) at_67 rfl rfl rfl
    have A109 := A108.lload (v := ((1 : Int64) + ((x0 &&& (9223372036854775807 : Int64)) % (34359738352 : Int64)))) (pc' := 71) at_69 rfl rfl
    have f110 := e6.ext e0.2
    have f113 := e4.ext e0.2
    obtain ⟨r112, _, ⟨rfl, q114⟩, A111⟩ := W.kI (A109.callV (a := kc) (argsL := [(.long ((1 : Int64) + ((x0 &&& (9223372036854775807 : Int64)) % (34359738352 : Int64))))]) (rest := []) (C' := 0) (S' := 0) (pc' := 74) at_71 f113 (hw _ (List.mem_of_getElem? (i := 5) rfl)) (hw _ (List.mem_of_getElem? (i := 6) rfl)) (fun hZ => notFace_of_selects (args := #[]) (mvT hZ (hw _ (List.mem_of_getElem? (i := 8) rfl)))) (hw _ (List.mem_of_getElem? (i := 8) rfl)) (hw _ (List.mem_of_getElem? (i := 7) rfl)) (hw _ (List.mem_of_getElem? (i := 1) rfl)) (hw _ (List.mem_of_getElem? (i := 9) rfl)) (rm1 l Z a0 hw n0 [] (kc) (((1 : Int64) + ((x0 &&& (9223372036854775807 : Int64)) % (34359738352 : Int64)))) ((4 : Int32)) h0 A109.size f110 (by first | exact Or.inl ⟨rfl, by omega, by omega⟩ | exact Or.inr ⟨rfl, by omega, by omega⟩)) rfl rfl pd_0 rfl rfl (by decide) (by decide) (Nat.le_of_ble_eq_true rfl) (by decide) (by decide) rfl rfl rfl)
    have w1 := q114.2 rfl
    have w2 := rng32 r112
    have w3 := c_i2l r112
    have w4 := own_m4 ((1 : Int64) + ((x0 &&& (9223372036854775807 : Int64)) % (34359738352 : Int64))) (by omega) (by omega)
    have w5 := own_m64 r112.toInt64 (by omega) (by omega)
    have w6 := own_m64' r112.toInt64 (by omega) (by omega)
    have A116 := A111.istore (Ls' := #[.val (.long x0), .second, .val (.int k), .val (.int (1 : Int32)), .val (.ref kc), .val (.long (4 : Int64)), .second, .val (.long (34359738352 : Int64)), .second, .val (.long ((1 : Int64) + ((x0 &&& (9223372036854775807 : Int64)) % (34359738352 : Int64)))), .second, .val (.int r112), .unset, .unset, .unset, .unset]) (pc' := 76) at_74 rfl rfl
    have A117 := A116.iload (v := r112) (pc' := 78) at_76 rfl rfl
    have A118 := A117.i2l (pc' := 79) at_78 rfl
    have A119 := A118.lstore (Ls' := #[.val (.long x0), .second, .val (.int k), .val (.int (1 : Int32)), .val (.ref kc), .val (.long (4 : Int64)), .second, .val (.long (34359738352 : Int64)), .second, .val (.long ((1 : Int64) + ((x0 &&& (9223372036854775807 : Int64)) % (34359738352 : Int64)))), .second, .val (.int r112), .val (.long r112.toInt64), .second, .unset, .unset]) (pc' := 81) at_79 rfl rfl
    have A120 := A119.lload (v := ((1 : Int64) + ((x0 &&& (9223372036854775807 : Int64)) % (34359738352 : Int64)))) (pc' := 83) at_81 rfl rfl
    have A121 := A120.lload (v := (4 : Int64)) (pc' := 85) at_83 rfl rfl
    have A122 := A121.lmul (pc' := 86) at_85 rfl
    have A123 := A122.lstore (Ls' := #[.val (.long x0), .second, .val (.int k), .val (.int (1 : Int32)), .val (.ref kc), .val (.long (4 : Int64)), .second, .val (.long (34359738352 : Int64)), .second, .val (.long ((1 : Int64) + ((x0 &&& (9223372036854775807 : Int64)) % (34359738352 : Int64)))), .second, .val (.int r112), .val (.long r112.toInt64), .second, .val (.long (((1 : Int64) + ((x0 &&& (9223372036854775807 : Int64)) % (34359738352 : Int64))) * (4 : Int64))), .second]) (pc' := 88) at_86 rfl rfl
    have A124 := A123.lload (v := r112.toInt64) (pc' := 90) at_88 rfl rfl
    have A125 := A124.lconst (z := (1 : Int64)) (pc' := 91) at_90 rfl rfl
    have A126 := A125.lcmp (pc' := 92) at_91 rfl
    by_cases c127 : r112.toInt64.toInt < 1
    · have A128 := A126.ifYes (pc' := 125) at_92 (tlt (llt (x := r112.toInt64) (y := (1 : Int64)) rfl rfl c127)).1 (by decide) (by decide)
      have A129 := A128.iconst (z := (0 : Int32)) (pc' := 126) at_125 rfl rfl
      refine A129.retN (t := .boolean) (z' := (0 : Int32)) at_126 (by decide) (by decide) (by simp) rfl ⟨_, rfl, ⟨trivial, ?_⟩⟩
      have e1 : (0 : Int32).toInt = 0 := rfl
      exfalso
      omega
    · have A130 := A126.ifNo (pc' := 95) at_92 (flt (lnlt (x := r112.toInt64) (y := (1 : Int64)) rfl rfl c127)).1 rfl
      have A131 := A130.ldc2 (z := (64 : Int64)) (pc' := 98) at_95 (hw _ (List.mem_of_getElem? (i := 13) rfl)) rfl
      have A132 := A131.lload (v := r112.toInt64) (pc' := 100) at_98 rfl rfl
      have A133 := A132.lmul (pc' := 101) at_100 rfl
      have A134 := A133.lload (v := (((1 : Int64) + ((x0 &&& (9223372036854775807 : Int64)) % (34359738352 : Int64))) * (4 : Int64))) (pc' := 103) at_101 rfl rfl
      have A135 := A134.lcmp (pc' := 104) at_103 rfl
      by_cases c136 : ((64 : Int64) * r112.toInt64).toInt < (((1 : Int64) + ((x0 &&& (9223372036854775807 : Int64)) % (34359738352 : Int64))) * (4 : Int64)).toInt
      · have A137 := A135.ifYes (pc' := 125) at_104 (tlt (llt (x := ((64 : Int64) * r112.toInt64)) (y := (((1 : Int64) + ((x0 &&& (9223372036854775807 : Int64)) % (34359738352 : Int64))) * (4 : Int64))) rfl rfl c136)).1 (by decide) (by decide)
        have A138 := A137.iconst (z := (0 : Int32)) (pc' := 126) at_125 rfl rfl
        refine A138.retN (t := .boolean) (z' := (0 : Int32)) at_126 (by decide) (by decide) (by simp) rfl ⟨_, rfl, ⟨trivial, ?_⟩⟩
        have e1 : (0 : Int32).toInt = 0 := rfl
        exfalso
        omega
      · have A139 := A135.ifNo (pc' := 107) at_104 (flt (lnlt (x := ((64 : Int64) * r112.toInt64)) (y := (((1 : Int64) + ((x0 &&& (9223372036854775807 : Int64)) % (34359738352 : Int64))) * (4 : Int64))) rfl rfl c136)).1 rfl
        have A140 := A139.ldc2 (z := (64 : Int64)) (pc' := 110) at_107 (hw _ (List.mem_of_getElem? (i := 13) rfl)) rfl
        have A141 := A140.lload (v := r112.toInt64) (pc' := 112) at_110 rfl rfl
        have A142 := A141.lconst (z := (1 : Int64)) (pc' := 113) at_112 rfl rfl
        have A143 := A142.lsub (pc' := 114) at_113 rfl
        have A144 := A143.lmul (pc' := 115) at_114 rfl
        have A145 := A144.lload (v := (((1 : Int64) + ((x0 &&& (9223372036854775807 : Int64)) % (34359738352 : Int64))) * (4 : Int64))) (pc' := 117) at_115 rfl rfl
        have A146 := A145.lcmp (pc' := 118) at_117 rfl
        by_cases c147 : ((64 : Int64) * (r112.toInt64 - (1 : Int64))).toInt < (((1 : Int64) + ((x0 &&& (9223372036854775807 : Int64)) % (34359738352 : Int64))) * (4 : Int64)).toInt
        · have A148 := A146.ifNo (pc' := 121) at_118 (tlt (llt (x := ((64 : Int64) * (r112.toInt64 - (1 : Int64)))) (y := (((1 : Int64) + ((x0 &&& (9223372036854775807 : Int64)) % (34359738352 : Int64))) * (4 : Int64))) rfl rfl c147)).2.1 rfl
          have A149 := A148.iconst (z := (1 : Int32)) (pc' := 122) at_121 rfl rfl
          have A150 := A149.goto (pc' := 126) at_122 (by decide) (by decide)
          refine A150.retN (t := .boolean) (z' := (1 : Int32)) at_126 (by decide) (by decide) (by simp) rfl ⟨_, rfl, ⟨trivial, ?_⟩⟩
          have e1 : (1 : Int32).toInt = 1 := rfl
          rfl
        · have A151 := A146.ifYes (pc' := 125) at_118 (flt (lnlt (x := ((64 : Int64) * (r112.toInt64 - (1 : Int64)))) (y := (((1 : Int64) + ((x0 &&& (9223372036854775807 : Int64)) % (34359738352 : Int64))) * (4 : Int64))) rfl rfl c147)).2.1 (by decide) (by decide)
          have A152 := A151.iconst (z := (0 : Int32)) (pc' := 126) at_125 rfl rfl
          refine A152.retN (t := .boolean) (z' := (0 : Int32)) at_126 (by decide) (by decide) (by simp) rfl ⟨_, rfl, ⟨trivial, ?_⟩⟩
          have e1 : (0 : Int32).toInt = 0 := rfl
          exfalso
          omega
set_option maxRecDepth 65536 in
set_option maxHeartbeats 40000000 in
theorem comes_1 {Post : Tables → Env → Array Value → State → Outcome → State → Prop} (hpost : ∀ tb e args s v u, (limb_1_1.after args s (.returned v) u = true ∧ limb_1_2.after args s (.returned v) u = true ∧ True) → FrameEnd s (.returned v) u (Jvm.fieldLocs frame_1_writes args s ++ Jvm.arrayLocs frame_1_arrays args s ++ Jvm.staticLocs frame_1_statics s) 0 0 → Post tb e args s (.returned v) u) :
    ArmFor flags0 classFile x code maxLocals ret World_1 tables_1 room_1 Calls_1 rest_1 Pre_1 Post := by
  intro l hfl _ _ p e ha hc hk s m args below hf hA hF happ hP
  obtain ⟨hcalls, hrest, hpre⟩ := hP
  obtain ⟨-, -, -, hnamed, -, -, -, hat⟩ := (Spec.applies_iff hf).mp happ
  obtain ⟨hg, hn⟩ := and_e (Cond.before_iff.mp (show (Jvm.Cond.and given_1 narrow_1).before args s = true from hpre))
  obtain ⟨g1a, g1b⟩ := and_e hg
  obtain ⟨g2a, g2b⟩ := and_e g1b
  obtain ⟨w0, w1, rfl⟩ : ∃ w0 w1 : Value, args = #[w0, w1] := by
    have hs : args.size = 2 := by simpa [Cond.value, given_1] using g1a
    obtain ⟨L⟩ := args
    match L, hs with
    | [w0, w1], _ => exact ⟨w0, w1, rfl⟩
  have hw := fun d (hd : d ∈ tables_1) => atoms_spec (ws := Jvm.Cond.code x code maxLocals ret :: tables_1) hat d (List.mem_cons_of_mem _ hd)
  obtain ⟨i0, ei0⟩ := isL_v g2a
  obtain rfl : w0 = (.long i0) := Option.some.inj ei0
  obtain ⟨i1, ei1⟩ := is_v g2b
  obtain rfl : w1 = (.int i1) := Option.some.inj ei1
  obtain ⟨n1, hn1⟩ := and_e hn
  obtain ⟨n2, hn2⟩ := and_e hn1
  obtain ⟨n3, n4⟩ := and_e hn2
  obtain ⟨ks, vs⟩ := exa_v n1
  obtain ⟨kc, vc⟩ := exa_v n3
  have Ts := Sta.start vs (Or.inr ⟨hw _ (List.mem_of_getElem? (i := 1) rfl), hw _ (List.mem_of_getElem? (i := 2) rfl)⟩)
  have Tc := Sta.start vc (Or.inr ⟨hw _ (List.mem_of_getElem? (i := 1) rfl), hw _ (List.mem_of_getElem? (i := 15) rfl)⟩)
  have Es := Exa.start vs n1
  have Ec := Exa.start vc n3
  have Fs := Fld.start ((fld_at vs).symm.trans (fld_int n2))
  have Fc := Fld.start ((fld_at vc).symm.trans (fld_int n4))
  obtain ⟨n, o, h1, h2, h3, _, L, rfl, ⟨N, ⟨r, rfl, hr⟩⟩, hq⟩ := rm0 l s _ hw s.heap.size tables_1 i0 i1 ks kc s.heap (Nat.le_refl _) (Old.start s) Ts Tc Es Ec Fs Fc p e ha hc hk s m _ below hf ((Spec.applies_iff_loose hf).mp happ).1 ⟨rfl, State.Warmed39.refl s, rfl⟩ trivial
  have hr1 : r = 1 := hr.2
  subst hr1
  refine ⟨n, _, h1, h2, h3, hpost _ _ _ _ _ _ ⟨Cond.after_iff.mpr rfl, Cond.after_iff.mpr (eq_i res_at (Term.int_eval (1)) rfl), trivial⟩ ⟨hq.1, hq.2.1, (hq.2.2.sift fun y hy => Or.inr (N y hy)).mono (by decide) (by decide)⟩⟩
theorem main_1_1 : Claimed_1_1 := comes_1 fun _ _ _ _ _ _ h hF => ⟨h.1, hF⟩
theorem main_1_2 : Claimed_1_2 := comes_1 fun _ _ _ _ _ _ h hF => ⟨h.2.1, hF⟩
end Jvm.Pilot.@@N@@
namespace Jvm.Pilot.@@N@@
open Jvm Jvm.ClassFile Sem Op Lib Jvm.Free Jvm.Stand Jvm.Pilot.@@N@@.Jvm.D
/-! MADE BY PROGRAM (witnessworld.py) out of the Statement's table words and the real class files: 12 classes; the members and pool entries that the words name. The judged class is class 1, her method 1. -/
namespace start1
open Jvm.ClassFile
def u (s : String) : CpInfo := .utf8 (stringToUtf16 s)
/-- a pool by its gaps: so many unusable entries, then the entry; so many at the end -/
def gap : Nat → List CpInfo → List CpInfo
  | 0, r => r
  | n + 1, r => .unusable :: gap n r
def poolList (es : List (Nat × CpInfo)) (last : Nat) : List CpInfo := es.foldr (fun e r => gap e.1 (e.2 :: r)) (gap last [])
def pool (es : List (Nat × CpInfo)) (last : Nat) : Array CpInfo := ⟨poolList es last⟩
def fileOf (pool : Array CpInfo) (this : Nat) (attrs : Array Attribute := #[]) (ms : Array MethodInfo := #[]) (fl : Nat := 33) (sup : Nat := 0) (ifs : Array Nat := #[]) (fds : Array FieldInfo := #[]) : ClassFile where
  minorVersion := 0
  majorVersion := 65
  constantPool := pool
  accessFlags := fl
  thisClass := this
  superClass := sup
  interfaces := ifs
  fields := fds
  methods := ms
  attributes := attrs
def plain (name : String) (sup : Option ClassId) : Class where
  name := name
  kind := .ordinary
  loader := none
  accessFlags := 33
  super := sup
  interfaces := #[]
  cf := none
  fields := #[]
  methods := #[]
  instanceTypes := #[]
  staticTypes := #[]
  resolved := #[]
  callSites := []
  init := .initialized
  statics := none
  mirror := none

def pool0 : Array CpInfo := pool [(5, u "<init>"), (0, u "()V"), (1, .class_ 10), (1, u "java/lang/Object")] 113

def k0m0 : Method := { name := "<init>", desc := "()V", sig := { parameters := [], returnType := none }, accessFlags := 1, code := none }
/-- java/lang/Object -/
def k0 : Class := { plain "java/lang/Object" none with
  accessFlags := 33
  interfaces := #[]
  cf := some (fileOf pool0 8 #[] #[{ accessFlags := 1, nameIndex := 5, descriptorIndex := 6, attributes := #[] }] 33 0 #[] #[])
  fields := #[]
  methods := #[k0m0]
  instanceTypes := #[]
  staticTypes := #[]
  resolved := Array.replicate 124 none
  statics := none }

def pool1 : Array CpInfo := pool [(2, .class_ 4), (1, u "java/lang/Object"), (0, u "<init>"), (0, u "()V"), (0, .fieldref 8 9), (0, .class_ 10), (0, .nameAndType 11 12), (0, u "com/example/riddle0/riddle0/SavedForm$Kind"), (0, u "COUNTING"), (0, u "Lcom/example/riddle0/riddle0/SavedForm$Kind;"), (0, .fieldref 8 14), (0, .nameAndType 15 12), (0, u "STANDARD"), (0, .long 4), (1, .long 34359738352), (1, .long 137438953408), (3, .long 9223372036854775807), (1, .methodref 8 27), (0, .nameAndType 28 29), (0, u "wordCount"), (0, u "(J)I"), (0, .long 64), (1, .class_ 33), (0, u "com/example/riddle0/riddle0/KindWordCountPinLaw"), (2, u "law"), (0, u "(JI)Z")] 7

def k1m0 : Method := { name := "<init>", desc := "()V", sig := { parameters := [], returnType := none }, accessFlags := 1, code := none }
def k1c1 : Code := { maxStack := 6, maxLocals := 16, code := code, exceptionTable := #[], attributes := #[] }
def k1m1 : Method := { name := "law", desc := "(JI)Z", sig := { parameters := [.long, .int], returnType := some .boolean }, accessFlags := 9, code := some k1c1 }
/-- com/example/riddle0/riddle0/KindWordCountPinLaw -/
def k1 : Class := { plain "com/example/riddle0/riddle0/KindWordCountPinLaw" (some 0) with
  accessFlags := 49
  interfaces := #[]
  cf := some (fileOf pool1 32 #[] #[{ accessFlags := 1, nameIndex := 5, descriptorIndex := 6, attributes := #[] }, { accessFlags := 9, nameIndex := 36, descriptorIndex := 37, attributes := #[] }] 49 2 #[] #[])
  fields := #[]
  methods := #[k1m0, k1m1]
  instanceTypes := #[]
  staticTypes := #[]
  resolved := Array.replicate 45 none
  statics := none }

def pool2 : Array CpInfo := pool [(1, .class_ 2), (0, u "java/lang/constant/Constable"), (0, .class_ 4), (0, u "java/lang/Object")] 6

/-- java/lang/constant/Constable -/
def k2 : Class := { plain "java/lang/constant/Constable" (some 0) with
  accessFlags := 1537
  interfaces := #[]
  cf := some (fileOf pool2 1 #[] #[] 1537 3 #[] #[])
  fields := #[]
  methods := #[]
  instanceTypes := #[]
  staticTypes := #[]
  resolved := Array.replicate 11 none
  statics := none }

def pool3 : Array CpInfo := pool [(1, .class_ 2), (0, u "java/lang/Comparable"), (0, .class_ 4), (0, u "java/lang/Object")] 7

/-- java/lang/Comparable -/
def k3 : Class := { plain "java/lang/Comparable" (some 0) with
  accessFlags := 1537
  interfaces := #[]
  cf := some (fileOf pool3 1 #[] #[] 1537 3 #[] #[])
  fields := #[]
  methods := #[]
  instanceTypes := #[]
  staticTypes := #[]
  resolved := Array.replicate 12 none
  statics := none }

def pool4 : Array CpInfo := pool [(1, .class_ 2), (0, u "java/io/Serializable"), (0, .class_ 4), (0, u "java/lang/Object")] 2

/-- java/io/Serializable -/
def k4 : Class := { plain "java/io/Serializable" (some 0) with
  accessFlags := 1537
  interfaces := #[]
  cf := some (fileOf pool4 1 #[] #[] 1537 3 #[] #[])
  fields := #[]
  methods := #[]
  instanceTypes := #[]
  staticTypes := #[]
  resolved := Array.replicate 7 none
  statics := none }

def pool5 : Array CpInfo := pool [(2, .class_ 4), (1, u "java/lang/Enum"), (0, u "name"), (0, u "Ljava/lang/String;"), (2, u "ordinal"), (0, u "I"), (1, .class_ 14), (1, u "java/lang/Object"), (4, u "hash"), (86, .class_ 108), (1, u "java/lang/Enum$EnumDesc"), (2, .class_ 112), (0, u "java/lang/constant/Constable"), (0, .class_ 114), (0, u "java/lang/Comparable"), (0, .class_ 116), (0, u "java/io/Serializable")] 87

/-- java/lang/Enum -/
def k5 : Class := { plain "java/lang/Enum" (some 0) with
  accessFlags := 1057
  interfaces := #[2, 3, 4]
  cf := some (fileOf pool5 2 #[.nestMembers #[106]] #[] 1057 12 #[111, 113, 115] #[{ accessFlags := 18, nameIndex := 5, descriptorIndex := 6, attributes := #[] }, { accessFlags := 18, nameIndex := 9, descriptorIndex := 10, attributes := #[] }, { accessFlags := 2, nameIndex := 19, descriptorIndex := 10, attributes := #[] }])
  fields := #[{ name := "name", type := (.object "java/lang/String"), accessFlags := 18, slot := 0, constantValue := 0 }, { name := "ordinal", type := .int, accessFlags := 18, slot := 1, constantValue := 0 }, { name := "hash", type := .int, accessFlags := 2, slot := 2, constantValue := 0 }]
  methods := #[]
  instanceTypes := #[(.object "java/lang/String"), .int, .int]
  staticTypes := #[]
  resolved := Array.replicate 204 none
  statics := none }

def pool6 : Array CpInfo := pool [(1, .class_ 2), (0, u "com/example/riddle0/riddle0/SavedForm$Kind"), (2, u "STANDARD"), (0, u "Lcom/example/riddle0/riddle0/SavedForm$Kind;"), (2, u "COUNTING"), (2, u "$VALUES"), (0, u "[Lcom/example/riddle0/riddle0/SavedForm$Kind;"), (6, .class_ 22), (1, u "java/lang/Enum"), (8, u "code"), (0, u "I"), (0, .fieldref 1 34), (0, .nameAndType 35 32), (0, u "slotBits"), (0, .long 63), (17, u "wordCount"), (0, u "(J)I"), (6, .class_ 63), (0, u "com/example/riddle0/riddle0/SavedForm")] 2

def k6c0 : Code := { maxStack := 4, maxLocals := 3, code := prog_9_method_4_code, exceptionTable := #[], attributes := #[] }
def k6m0 : Method := { name := "wordCount", desc := "(J)I", sig := { parameters := [.long], returnType := some .int }, accessFlags := 0, code := some k6c0 }
/-- com/example/riddle0/riddle0/SavedForm$Kind -/
def k6 : Class := { plain "com/example/riddle0/riddle0/SavedForm$Kind" (some 5) with
  accessFlags := 16432
  interfaces := #[]
  cf := some (fileOf pool6 1 #[.nestHost 62] #[{ accessFlags := 0, nameIndex := 54, descriptorIndex := 55, attributes := #[] }] 16432 20 #[] #[{ accessFlags := 16409, nameIndex := 5, descriptorIndex := 6, attributes := #[] }, { accessFlags := 16409, nameIndex := 9, descriptorIndex := 6, attributes := #[] }, { accessFlags := 16, nameIndex := 31, descriptorIndex := 32, attributes := #[] }, { accessFlags := 16, nameIndex := 35, descriptorIndex := 32, attributes := #[] }, { accessFlags := 4122, nameIndex := 12, descriptorIndex := 13, attributes := #[] }])
  fields := #[{ name := "STANDARD", type := (.object "com/example/riddle0/riddle0/SavedForm$Kind"), accessFlags := 16409, slot := 0, constantValue := 0 }, { name := "COUNTING", type := (.object "com/example/riddle0/riddle0/SavedForm$Kind"), accessFlags := 16409, slot := 1, constantValue := 0 }, { name := "code", type := .int, accessFlags := 16, slot := 3, constantValue := 0 }, { name := "slotBits", type := .int, accessFlags := 16, slot := 4, constantValue := 0 }, { name := "$VALUES", type := (.array (.object "com/example/riddle0/riddle0/SavedForm$Kind")), accessFlags := 4122, slot := 2, constantValue := 0 }]
  methods := #[k6m0]
  instanceTypes := #[(.object "java/lang/String"), .int, .int, .int, .int]
  staticTypes := #[(.object "com/example/riddle0/riddle0/SavedForm$Kind"), (.object "com/example/riddle0/riddle0/SavedForm$Kind"), (.array (.object "com/example/riddle0/riddle0/SavedForm$Kind"))]
  resolved := Array.replicate 66 none
  statics := some 0 }

def pool7 : Array CpInfo := pool [(1, u "java/lang/Cloneable"), (0, .class_ 1), (0, u "java/lang/Object"), (0, .class_ 3)] 3

/-- java/lang/Cloneable -/
def k7 : Class := { plain "java/lang/Cloneable" (some 0) with
  accessFlags := 1537
  interfaces := #[]
  cf := some (fileOf pool7 2 #[] #[] 1537 4 #[] #[])
  fields := #[]
  methods := #[]
  instanceTypes := #[]
  staticTypes := #[]
  resolved := Array.replicate 8 none
  statics := none }

/-- the primitive byte -/
def k8 : Class := { plain "byte" none with kind := .primitive 'B', accessFlags := 0x411 }
/-- [B -/
def k9 : Class := { plain "[B" (some 0) with kind := .array 8 .byte, interfaces := #[7, 4], accessFlags := 1041 }

/-- the primitive int -/
def k10 : Class := { plain "int" none with kind := .primitive 'I', accessFlags := 0x411 }
/-- [I -/
def k11 : Class := { plain "[I" (some 0) with kind := .array 10 .int, interfaces := #[7, 4], accessFlags := 1041 }

def heap : Heap := #[{ cls := 6, slots := #[.ref 1, .ref 2, .null], vm := .statics 6 },
  { cls := 6, slots := #[.null, .int 0, .int 0, .int 0, .int 1], vm := .none },
  { cls := 6, slots := #[.null, .int 1, .int 0, .int 0, .int 4], vm := .none }]
def classes : Array Class := #[k0, k1, k2, k3, k4, k5, k6, k7, k8, k9, k10, k11]
def interned : List (Array UInt16 × Addr) := []
def slotsUsed : Nat := 13
def theMethod : MethodId := ⟨1, 1⟩
def args0 : Array Value := #[.long 5, .int 1]
def aboutOver (below : List Frame) : State where
  vm := { classes := classes, interned := interned.toArray }
  heap := heap
  slotsUsed := slotsUsed
  threads := #[{ frames := .invoking theMethod args0 :: below }]
def below0 : List Frame := [.native { method := ⟨0, 0⟩, args := #[] }]
def about1 : State := aboutOver below0
def p0 : Program := .bare "" "" ""
def e0 : Env := launch0.env 0 0 0
theorem w_frames : about1.frames = Frame.invoking theMethod args0 :: below0 := rfl
set_option maxRecDepth 65536 in
theorem w_args : argsFit about1.vm theMethod args0 = true := by decide +kernel
set_option maxRecDepth 65536 in
theorem w_heap : heapFits about1 = true := by decide +kernel
set_option maxRecDepth 65536 in
theorem w_runnable : about1.curStatus? = some .runnable := by decide +kernel
set_option maxRecDepth 65536 in
theorem w_alone : about1.alone = true := by decide +kernel
set_option maxRecDepth 65536 in
theorem w_named : about1.methodNamed? x = some theMethod := by decide +kernel
set_option maxRecDepth 65536 in
theorem w_hears : about1.hears theMethod below0 = true := by decide +kernel
set_option maxRecDepth 65536 in
theorem w_ripe : about1.ripe theMethod args0 below0 = true := by decide +kernel
theorem w_running : about1.status = .running := rfl
set_option maxRecDepth 65536 in
theorem w_room : about1.hasRoom e0.platform room_1 = true :=
  launch0.hasRoom_least _ room_1 (by decide +kernel) (by decide +kernel) (by decide +kernel) (by decide +kernel) (by decide +kernel) (by decide +kernel)
theorem allAtoms_all (ts : List Jvm.Cond) (a : Array Jvm.Value) (st : Jvm.State) : (allAtoms ts).before a st = ts.all (fun c => c.before a st) := by
  induction ts with
  | nil => rfl
  | cons c t ih =>
    show (Jvm.Cond.and c (allAtoms t)).before a st = _
    rw [Jvm.Cond.before_and, ih, List.all_cons]
def words1 : List Jvm.Cond := Jvm.Cond.code x code maxLocals ret :: tables_1
/-- a 'code' word, met by the world's own term for the bytes: nothing is compared byte by byte -/
theorem code_word {y : MethodName} {bytes : ByteArray} {mx : Nat} {rt : Option FieldType} {a : Array Value} {s : State} {m : MethodId} {meth : Method} {c : Code} (h1 : s.methodNamed? y = some m) (h2 : s.vm.method? m = some meth) (h3 : meth.code = some c) (h4 : c.code = bytes)
    (h5 : (c.maxLocals == mx && c.exceptionTable.isEmpty && decide (c.maxStack ≤ mostOperands) && decide (meth.sig.returnType = rt) && !meth.locks && decide (parseMethodDescriptor y.desc = some meth.sig)) = true) : (Jvm.Cond.code y bytes mx rt).before a s = true := by
  simp only [Bool.and_eq_true, beq_iff_eq, Bool.not_eq_true', decide_eq_true_eq] at h5
  obtain ⟨⟨⟨⟨⟨g1, g2⟩, g3⟩, g4⟩, g5⟩, g6⟩ := h5
  simp [Cond.before, Cond.holds, Cond.value, h1, h2, h3, h4, g1, g2, g3, g4, g5, g6]
def isCode : Jvm.Cond → Bool
  | .code _ _ _ _ => true
  | _ => false
theorem all_split {L : List Jvm.Cond} {P : Jvm.Cond → Bool} (h1 : L.all (fun c => isCode c || P c) = true) (h2 : ∀ c ∈ L.filter isCode, P c = true) : L.all P = true := by
  refine List.all_eq_true.mpr fun c hc => ?_
  have h := List.all_eq_true.mp h1 c hc
  rcases Bool.eq_false_or_eq_true (isCode c) with hi | hi
  · exact h2 c (List.mem_filter.mpr ⟨hc, hi⟩)
  · simpa [hi] using h
set_option maxRecDepth 65536 in
theorem w_c0 : (Jvm.Cond.code x code maxLocals ret).before args0 about1 = true := code_word (m := ⟨1, 1⟩) (meth := k1m1) (c := k1c1) (by decide +kernel) rfl rfl rfl (by decide +kernel)
set_option maxRecDepth 65536 in
theorem w_c1 : (Jvm.Cond.code ({ cls := "com/example/riddle0/riddle0/SavedForm$Kind", name := "wordCount", desc := "(J)I" } : Jvm.MethodName) prog_9_method_4_code (3 : Nat) (Option.some Jvm.ClassFile.FieldType.int)).before args0 about1 = true := code_word (m := ⟨6, 0⟩) (meth := k6m0) (c := k6c0) (by decide +kernel) rfl rfl rfl (by decide +kernel)
def codes1 : List Jvm.Cond := [Jvm.Cond.code x code maxLocals ret, Jvm.Cond.code ({ cls := "com/example/riddle0/riddle0/SavedForm$Kind", name := "wordCount", desc := "(J)I" } : Jvm.MethodName) prog_9_method_4_code (3 : Nat) (Option.some Jvm.ClassFile.FieldType.int)]
set_option maxRecDepth 65536 in
theorem codes_eq : words1.filter isCode = codes1 := rfl
theorem w_codes : ∀ c ∈ words1.filter isCode, c.before args0 about1 = true := by
  rw [codes_eq]
  intro c hc
  simp only [codes1, List.mem_cons, List.not_mem_nil, or_false] at hc
  rcases hc with rfl | rfl
  · exact w_c0
  · exact w_c1
set_option maxRecDepth 65536 in
theorem w_t1 : words1.all (fun c => isCode c || c.before args0 about1) = true := by decide +kernel
theorem w_tables : (allAtoms (Jvm.Cond.code x code maxLocals ret :: tables_1)).before args0 about1 = true := by
  rw [allAtoms_all]
  show words1.all (fun c => c.before args0 about1) = true
  refine all_split ?_ w_codes
  rw [w_t1]
set_option maxRecDepth 65536 in
theorem w_case : (Jvm.Cond.and given_1 narrow_1).before args0 about1 = true := by decide +kernel
theorem w_applies : (headSpec (Jvm.Cond.code x code maxLocals ret :: tables_1) room_1).applies x e0.platform about1 = true :=
  (Spec.applies_iff w_frames).mpr ⟨w_running, w_runnable, w_alone, w_named, w_hears, w_ripe, w_room, w_tables⟩
theorem atStart : AtStart classFile x code maxLocals ret World_1 tables_1 room_1 Calls_1 rest_1 Pre_1 launch0 p0 e0 about1 theMethod args0 below0 :=
  ⟨lists_1, trivial, launch0.admits_env _ _ _, launch0.least_env, fairChoices_fair.cas, fairChoices_fair.clock, w_frames, w_args, w_heap, w_applies, trivial, trivial, w_case⟩
end start1
theorem witness_1 : WitnessClaimed_1 := ⟨start1.p0, start1.e0, start1.about1, start1.theMethod, start1.args0, start1.below0, start1.atStart⟩
end Jvm.Pilot.@@N@@
