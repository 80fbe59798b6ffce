import JvmDerived
import JvmDerived.Pilot.@@N@@Statement
import JvmDerived.Pilot.@@N@@Code
set_option linter.unusedVariables false
set_option linter.unusedSimpArgs false
namespace Jvm.Pilot.@@N@@
open Jvm Jvm.ClassFile Sem Op Lib Jvm.Free Jvm.Stand Jvm.LawKit Jvm.RoadKit Bundle Jvm.Pilot.@@N@@.Jvm.D
/-! A. where a walk stands: W; what a body owes: Gl; a body's contract: Ctr -/
abbrev Cx := Program × Env × State × MethodId × Array Value × List Frame × Method × Code × State
def W (l : Launch) (Z : State) (n0 : Nat) (y : MethodName) (bytes : ByteArray) (maxl : Nat) (ret : Option FieldType) (R : Room) (G : Cx) (h : Heap) (pc : Nat) (Ls : Array Slot) (St : List Value) (cells slots : Nat) : Prop :=
  match G with
  | (p, e, s, m, args, below, meth, c, st) =>
    p.tables.exec = Jvm.exec ∧ Z.Warmed39 s.vm ∧ c.code = bytes ∧ c.maxLocals = maxl ∧ s.vm.findClass y.cls = some m.cls ∧ meth.name = y.name ∧ meth.sig.returnType = ret ∧ meth.locks = false ∧ n0 ≤ s.heap.size ∧
    ∃ (T : State) (locs : List Loc), Stand p l e R s m args below meth c T locs cells slots ∧ Fr n0 locs ∧ T.heap = h ∧ ∀ t, Steps p.tables e below (T.setTop (mkF m pc Ls St)) t → Steps p.tables e below st t
def Gl (R : Room) (n0 : Nat) (G : Cx) (Q : Option Value → Heap → Prop) : Prop :=
  match G with
  | (p, e, s, m, args, below, meth, c, st) => ∃ s₂ o, Steps p.tables e below st s₂ ∧ s₂.status = .running ∧ Ended s₂ below o ∧ ∃ v L, o = .returned v ∧ (Fr n0 L ∧ Q v s₂.heap) ∧ FrameEnd s o s₂ L R.cells R.slots
def Ctr (l : Launch) (Z : State) (n0 : Nat) (y : MethodName) (bytes : ByteArray) (maxl : Nat) (ret : Option FieldType) (ws : List Jvm.Cond) (R : Room) (as : Array Value) (h0 : Heap) (Q : Option Value → Heap → Prop) : Prop :=
  MetFree l y (head1 (Jvm.Cond.code y bytes maxl ret :: ws) R) (fun a U => a = as ∧ Z.Warmed39 U.vm ∧ U.heap = h0) (fun _ _ _ _ _ => True) (fun _ U o U' => ∃ v L, o = .returned v ∧ (Fr n0 L ∧ Q v U'.heap) ∧ FrameEnd U o U' L R.cells R.slots)
def QI (P : Int32 → Heap → Prop) (v : Option Value) (h : Heap) : Prop := ∃ r, v = some (.int r) ∧ P r h
def QJ (P : Int64 → Heap → Prop) (v : Option Value) (h : Heap) : Prop := ∃ r, v = some (.long r) ∧ P r h
def QA (P : Addr → Heap → Prop) (v : Option Value) (h : Heap) : Prop := ∃ r, v = some (.ref r) ∧ P r h
def QV (P : Heap → Prop) (v : Option Value) (h : Heap) : Prop := v = none ∧ P h
theorem ilt {x y : Int32} {a b : Int} (ha : x.toInt = a) (hb : y.toInt = b) (h : a < b) : x < y := by subst ha hb; exact Int32.lt_iff_toInt_lt.mpr h
theorem inlt {x y : Int32} {a b : Int} (ha : x.toInt = a) (hb : y.toInt = b) (h : ¬ a < b) : ¬ x < y := by subst ha hb; exact fun q => h (Int32.lt_iff_toInt_lt.mp q)
theorem igt {x y : Int32} {a b : Int} (ha : x.toInt = a) (hb : y.toInt = b) (h : b < a) : y < x := ilt hb ha h
theorem ingt {x y : Int32} {a b : Int} (ha : x.toInt = a) (hb : y.toInt = b) (h : ¬ b < a) : ¬ y < x := inlt hb ha h
theorem ieq {x y : Int32} {a b : Int} (ha : x.toInt = a) (hb : y.toInt = b) (h : a = b) : x = y := by subst ha hb; exact Int32.toInt_inj.mp h
theorem ine {x y : Int32} {a b : Int} (ha : x.toInt = a) (hb : y.toInt = b) (h : ¬ a = b) : ¬ x = y := by subst ha hb; exact fun q => h (Int32.toInt_inj.mpr q)
theorem llt {x y : Int64} {a b : Int} (ha : x.toInt = a) (hb : y.toInt = b) (h : a < b) : lcmpW x y < 0 := by subst ha hb; exact (lw_lt _ _).mpr (Int64.lt_iff_toInt_lt.mpr h)
theorem lnlt {x y : Int64} {a b : Int} (ha : x.toInt = a) (hb : y.toInt = b) (h : ¬ a < b) : ¬ lcmpW x y < 0 := by subst ha hb; exact fun q => h (Int64.lt_iff_toInt_lt.mp ((lw_lt _ _).mp q))
theorem lgt {x y : Int64} {a b : Int} (ha : x.toInt = a) (hb : y.toInt = b) (h : b < a) : 0 < lcmpW x y := by subst ha hb; exact (lw_gt _ _).mpr (Int64.lt_iff_toInt_lt.mpr h)
theorem lngt {x y : Int64} {a b : Int} (ha : x.toInt = a) (hb : y.toInt = b) (h : ¬ b < a) : ¬ 0 < lcmpW x y := by subst ha hb; exact fun q => h (Int64.lt_iff_toInt_lt.mp ((lw_gt _ _).mp q))
theorem leq {x y : Int64} {a b : Int} (ha : x.toInt = a) (hb : y.toInt = b) (h : a = b) : lcmpW x y = 0 := by subst ha hb; exact (lw_eq _ _).mpr (Int64.toInt_inj.mp h)
theorem lne {x y : Int64} {a b : Int} (ha : x.toInt = a) (hb : y.toInt = b) (h : ¬ a = b) : ¬ lcmpW x y = 0 := by subst ha hb; exact fun q => h (Int64.toInt_inj.mpr ((lw_eq _ _).mp q))
section Walk
variable {l : Launch} {Z : State} {n0 : Nat} {y : MethodName} {bytes : ByteArray} {maxl : Nat} {ret : Option FieldType} {R : Room} {G : Cx} {h : Heap} {pc pc' : Nat} {Ls : Array Slot} {St : List Value} {C S C' S' : Nat} {Q : Option Value → Heap → Prop} {a0 : Array Value}
theorem W.mk {p : Program} {e : Env} {s : State} {m : MethodId} {args : Array Value} {below : List Frame} {meth : Method} {c : Code} {st : State} {T : State} {locs : List Loc} (hx : p.tables.exec = Jvm.exec) (hZ : Z.Warmed39 s.vm) (hby : c.code = bytes) (hml : c.maxLocals = maxl) (hown : s.vm.findClass y.cls = some m.cls) (hnm : meth.name = y.name) (hrt : meth.sig.returnType = ret) (hlk : meth.locks = false) (hn0 : n0 ≤ s.heap.size)
    (X : Stand p l e R s m args below meth c T locs C S) (N : Fr n0 locs) (eT : T.heap = h) (k : ∀ t, Steps p.tables e below (T.setTop (mkF m pc Ls St)) t → Steps p.tables e below st t) : W l Z n0 y bytes maxl ret R (p, e, s, m, args, below, meth, c, st) h pc Ls St C S :=
  show _ ∧ _ from ⟨hx, hZ, hby, hml, hown, hnm, hrt, hlk, hn0, T, locs, X, N, eT, k⟩
theorem ctr_of {ws : List Jvm.Cond} {as : Array Value} (hpn : plainFor y = true) (hn0 : n0 ≤ h.size) (hef : ∀ m, entryFrame m as maxl = mkF m 0 Ls []) (body : ∀ G, W l Z n0 y bytes maxl ret R G h 0 Ls [] 0 0 → Gl R n0 G Q) : Ctr l Z n0 y bytes maxl ret ws R as h Q := by
  refine MetFree.of_bodySF hpn hisR ?_
  intro p e s m args below meth c s₁ Bd hml0 hP hK
  obtain ⟨rfl, hZ, hh⟩ := hP
  have e0 : s₁.heap = h := by rw [← hh, Bd.state]; rfl
  exact body (p, e, s, m, args, below, meth, c, s₁.setTop (entryFrame m args maxl)) (W.mk Bd.exec hZ Bd.bytes hml0 (findClass_of_methodNamed Bd.named) (name_of_methodNamed Bd.named Bd.method).1 Bd.returns (BodyLoose.notSynchronized Bd) (hh ▸ hn0) (Stand.of_body Bd) (Fr.nil n0) e0 (fun t k => castTop (hef m) k))
theorem W.size (A : W l Z n0 y bytes maxl ret R G h pc Ls St C S) : n0 ≤ h.size := by
  obtain ⟨p, e, s, m, args, below, meth, c, st⟩ := G
  obtain ⟨hx, hZ, hby, hml, hown, hnm, hrt, hlk, hn0, T, locs, X, N, eT, k⟩ := A
  exact Nat.le_trans hn0 (by rw [← eT]; exact X.same.2.1)
theorem W.more (A : W l Z n0 y bytes maxl ret R G h pc Ls St C S) (hC : C ≤ C') (hS : S ≤ S') : W l Z n0 y bytes maxl ret R G h pc Ls St C' S' := by
  obtain ⟨p, e, s, m, args, below, meth, c, st⟩ := G
  obtain ⟨hx, hZ, hby, hml, hown, hnm, hrt, hlk, hn0, T, locs, X, N, eT, k⟩ := A
  exact W.mk hx hZ hby hml hown hnm hrt hlk hn0 (X.more hC hS) N eT k
theorem W.cast {Ls' : Array Slot} {St' : List Value} (A : W l Z n0 y bytes maxl ret R G h pc Ls St C S) (hp : pc = pc') (hL : Ls = Ls') (hSt : St = St') : W l Z n0 y bytes maxl ret R G h pc' Ls' St' C S := by subst hp hL hSt; exact A
/-- a plain step -/
theorem W.step (A : W l Z n0 y bytes maxl ret R G h pc Ls St C S) {Ls' : Array Slot} {St' : List Value}
    (f : ∀ {p : Program} {e : Env} {s : State} {m : MethodId} {args : Array Value} {below : List Frame} {meth : Method} {c : Code} {T t : State} {locs : List Loc}, Stand p l e R s m args below meth c T locs C S → p.tables.exec = Jvm.exec → Z.Warmed39 s.vm → s.vm.findClass y.cls = some m.cls → c.code = bytes → T.heap = h → Steps p.tables e below (T.setTop (mkF m pc' Ls' St')) t → Steps p.tables e below (T.setTop (mkF m pc Ls St)) t) : W l Z n0 y bytes maxl ret R G h pc' Ls' St' C S := by
  obtain ⟨p, e, s, m, args, below, meth, c, st⟩ := G
  obtain ⟨hx, hZ, hby, hml, hown, hnm, hrt, hlk, hn0, T, locs, X, N, eT, k⟩ := A
  exact W.mk hx hZ hby hml hown hnm hrt hlk hn0 X N eT (fun t q => k t (f X hx hZ hown hby eT q))
/-! B. plain instructions -/
theorem W.iloadN (A : W l Z n0 y bytes maxl ret R G h pc Ls St C S) {k : Fin 4} {v : Int32} (hd : decode bytes pc = .ok (.iload_n k, 1)) (hl : Ls[k.val]? = some (.val (.int v))) (hp : pc + 1 = pc') : W l Z n0 y bytes maxl ret R G h pc' Ls (.int v :: St) C S := by
  subst hp; exact A.step fun X hx _ _ q _ r => XS.iloadN X.here hx rfl (hb q hd) hl r
theorem W.iload (A : W l Z n0 y bytes maxl ret R G h pc Ls St C S) {k : Nat} {v : Int32} (hd : decode bytes pc = .ok (.iload k, 2)) (hl : Ls[k]? = some (.val (.int v))) (hp : pc + 2 = pc') : W l Z n0 y bytes maxl ret R G h pc' Ls (.int v :: St) C S := by
  subst hp; exact A.step fun X hx _ _ q _ r => XS.iload X.here hx rfl (hb q hd) hl r
theorem W.lloadN (A : W l Z n0 y bytes maxl ret R G h pc Ls St C S) {k : Fin 4} {v : Int64} (hd : decode bytes pc = .ok (.lload_n k, 1)) (hl : Ls[k.val]? = some (.val (.long v))) (hp : pc + 1 = pc') : W l Z n0 y bytes maxl ret R G h pc' Ls (.long v :: St) C S := by
  subst hp; exact A.step fun X hx _ _ q _ r => XS.lloadN X.here hx rfl (hb q hd) hl r
theorem W.lload (A : W l Z n0 y bytes maxl ret R G h pc Ls St C S) {k : Nat} {v : Int64} (hd : decode bytes pc = .ok (.lload k, 2)) (hl : Ls[k]? = some (.val (.long v))) (hp : pc + 2 = pc') : W l Z n0 y bytes maxl ret R G h pc' Ls (.long v :: St) C S := by
  subst hp; exact A.step fun X hx _ _ q _ r => XS.lload X.here hx rfl (hb q hd) hl r
theorem W.aloadN (A : W l Z n0 y bytes maxl ret R G h pc Ls St C S) {k : Fin 4} {v : Value} (hd : decode bytes pc = .ok (.aload_n k, 1)) (hl : Ls[k.val]? = some (.val v)) (hv : v.isRef = true) (hp : pc + 1 = pc') : W l Z n0 y bytes maxl ret R G h pc' Ls (v :: St) C S := by
  subst hp; exact A.step fun X hx _ _ q _ r => XS.aloadN X.here hx rfl (hb q hd) hl hv r
theorem W.aload (A : W l Z n0 y bytes maxl ret R G h pc Ls St C S) {k : Nat} {v : Value} (hd : decode bytes pc = .ok (.aload k, 2)) (hl : Ls[k]? = some (.val v)) (hv : v.isRef = true) (hp : pc + 2 = pc') : W l Z n0 y bytes maxl ret R G h pc' Ls (v :: St) C S := by
  subst hp; exact A.step fun X hx _ _ q _ r => XS.aload X.here hx rfl (hb q hd) hl hv r
theorem W.istoreN {v : Int32} (A : W l Z n0 y bytes maxl ret R G h pc Ls (.int v :: St) C S) {k : Fin 4} {Ls' : Array Slot} (hd : decode bytes pc = .ok (.istore_n k, 1)) (hl : storeLocals Ls k.val (.int v) = some Ls') (hp : pc + 1 = pc') : W l Z n0 y bytes maxl ret R G h pc' Ls' St C S := by
  subst hp; exact A.step fun X hx _ _ q _ r => XS.istoreN X.here hx rfl (hb q hd) rfl hl r
theorem W.istore {v : Int32} (A : W l Z n0 y bytes maxl ret R G h pc Ls (.int v :: St) C S) {k : Nat} {Ls' : Array Slot} (hd : decode bytes pc = .ok (.istore k, 2)) (hl : storeLocals Ls k (.int v) = some Ls') (hp : pc + 2 = pc') : W l Z n0 y bytes maxl ret R G h pc' Ls' St C S := by
  subst hp; exact A.step fun X hx _ _ q _ r => XS.istore X.here hx rfl (hb q hd) rfl hl r
theorem W.lstoreN {v : Int64} (A : W l Z n0 y bytes maxl ret R G h pc Ls (.long v :: St) C S) {k : Fin 4} {Ls' : Array Slot} (hd : decode bytes pc = .ok (.lstore_n k, 1)) (hl : storeLocals Ls k.val (.long v) = some Ls') (hp : pc + 1 = pc') : W l Z n0 y bytes maxl ret R G h pc' Ls' St C S := by
  subst hp; exact A.step fun X hx _ _ q _ r => XS.lstoreN X.here hx rfl (hb q hd) rfl hl r
theorem W.lstore {v : Int64} (A : W l Z n0 y bytes maxl ret R G h pc Ls (.long v :: St) C S) {k : Nat} {Ls' : Array Slot} (hd : decode bytes pc = .ok (.lstore k, 2)) (hl : storeLocals Ls k (.long v) = some Ls') (hp : pc + 2 = pc') : W l Z n0 y bytes maxl ret R G h pc' Ls' St C S := by
  subst hp; exact A.step fun X hx _ _ q _ r => XS.lstore X.here hx rfl (hb q hd) rfl hl r
theorem W.astoreN {v : Value} (A : W l Z n0 y bytes maxl ret R G h pc Ls (v :: St) C S) {k : Fin 4} {Ls' : Array Slot} (hd : decode bytes pc = .ok (.astore_n k, 1)) (hv : v.isRef = true) (hl : storeLocals Ls k.val v = some Ls') (hp : pc + 1 = pc') : W l Z n0 y bytes maxl ret R G h pc' Ls' St C S := by
  subst hp; exact A.step fun X hx _ _ q _ r => XS.astoreN X.here hx rfl (hb q hd) rfl hv hl r
theorem W.astore {v : Value} (A : W l Z n0 y bytes maxl ret R G h pc Ls (v :: St) C S) {k : Nat} {Ls' : Array Slot} (hd : decode bytes pc = .ok (.astore k, 2)) (hv : v.isRef = true) (hl : storeLocals Ls k v = some Ls') (hp : pc + 2 = pc') : W l Z n0 y bytes maxl ret R G h pc' Ls' St C S := by
  subst hp; exact A.step fun X hx _ _ q _ r => XS.astore X.here hx rfl (hb q hd) rfl hv hl r
theorem W.iconst (A : W l Z n0 y bytes maxl ret R G h pc Ls St C S) {i : Int} {z : Int32} (hd : decode bytes pc = .ok (.iconst i, 1)) (hz : Int32.ofInt i = z) (hp : pc + 1 = pc') : W l Z n0 y bytes maxl ret R G h pc' Ls (.int z :: St) C S := by
  subst hp hz; exact A.step fun X hx _ _ q _ r => XS.iconst X.here hx rfl (hb q hd) r
theorem W.bipush (A : W l Z n0 y bytes maxl ret R G h pc Ls St C S) {i : Int} {z : Int32} (hd : decode bytes pc = .ok (.bipush i, 2)) (hz : (Int8.ofInt i).toInt32 = z) (hp : pc + 2 = pc') : W l Z n0 y bytes maxl ret R G h pc' Ls (.int z :: St) C S := by
  subst hp hz; exact A.step fun X hx _ _ q _ r => XS.bipush X.here hx rfl (hb q hd) r
theorem W.sipush (A : W l Z n0 y bytes maxl ret R G h pc Ls St C S) {i : Int} {z : Int32} (hd : decode bytes pc = .ok (.sipush i, 3)) (hz : (Int16.ofInt i).toInt32 = z) (hp : pc + 3 = pc') : W l Z n0 y bytes maxl ret R G h pc' Ls (.int z :: St) C S := by
  subst hp hz; exact A.step fun X hx _ _ q _ r => XS.sipush X.here hx rfl (hb q hd) r
theorem W.lconst (A : W l Z n0 y bytes maxl ret R G h pc Ls St C S) {k : Fin 2} {z : Int64} (hd : decode bytes pc = .ok (.lconst k, 1)) (hz : Int64.ofNat k.val = z) (hp : pc + 1 = pc') : W l Z n0 y bytes maxl ret R G h pc' Ls (.long z :: St) C S := by
  subst hp hz; exact A.step fun X hx _ _ q _ r => XS.lconst X.here hx rfl (hb q hd) r
theorem W.aconstNull (A : W l Z n0 y bytes maxl ret R G h pc Ls St C S) (hd : decode bytes pc = .ok (.aconst_null, 1)) (hp : pc + 1 = pc') : W l Z n0 y bytes maxl ret R G h pc' Ls (.null :: St) C S := by
  subst hp; exact A.step fun X hx _ _ q _ r => XS.aconstNull X.here hx rfl (hb q hd) r
theorem W.ldc (A : W l Z n0 y bytes maxl ret R G h pc Ls St C S) {i : Nat} {z : Int32} (hd : decode bytes pc = .ok (.ldc i, 2)) (w : (Jvm.Cond.constant y.cls i z).before a0 Z = true) (hp : pc + 2 = pc') : W l Z n0 y bytes maxl ret R G h pc' Ls (.int z :: St) C S := by
  subst hp; exact A.step fun X hx hZ hown q _ r => X.ldcInt hx hown (mvT hZ w) (g := mkF _ pc Ls St) rfl (hb q hd) _ r
theorem W.ldcW (A : W l Z n0 y bytes maxl ret R G h pc Ls St C S) {i : Nat} {z : Int32} (hd : decode bytes pc = .ok (.ldc_w i, 3)) (w : (Jvm.Cond.constant y.cls i z).before a0 Z = true) (hp : pc + 3 = pc') : W l Z n0 y bytes maxl ret R G h pc' Ls (.int z :: St) C S := by
  subst hp; exact A.step fun X hx hZ hown q _ r => X.ldcwInt hx hown (mvT hZ w) (g := mkF _ pc Ls St) rfl (hb q hd) _ r
theorem W.ldc2 (A : W l Z n0 y bytes maxl ret R G h pc Ls St C S) {i : Nat} {z : Int64} (hd : decode bytes pc = .ok (.ldc2_w i, 3)) (w : (Jvm.Cond.constantLong y.cls i z).before a0 Z = true) (hp : pc + 3 = pc') : W l Z n0 y bytes maxl ret R G h pc' Ls (.long z :: St) C S := by
  subst hp; exact A.step fun X hx hZ hown q _ r => X.ldc2Long hx hown (mvT hZ w) (g := mkF _ pc Ls St) rfl (hb q hd) _ r
theorem W.iinc (A : W l Z n0 y bytes maxl ret R G h pc Ls St C S) {k : Nat} {i : Int} {v z : Int32} {Ls' : Array Slot} (hd : decode bytes pc = .ok (.iinc k i, 3)) (hl : Ls[k]? = some (.val (.int v))) (hz : v + Int32.ofInt i = z) (hl' : storeLocals Ls k (.int z) = some Ls') (hp : pc + 3 = pc') : W l Z n0 y bytes maxl ret R G h pc' Ls' St C S := by
  subst hp hz; exact A.step fun X hx _ _ q _ r => XS.iinc X.here hx rfl (hb q hd) hl hl' r
theorem W.iadd {x z : Int32} (A : W l Z n0 y bytes maxl ret R G h pc Ls (.int z :: .int x :: St) C S) (hd : decode bytes pc = .ok (.iadd, 1)) (hp : pc + 1 = pc') : W l Z n0 y bytes maxl ret R G h pc' Ls (.int (x + z) :: St) C S := by
  subst hp; exact A.step fun X hx _ _ q _ r => XS.iadd X.here hx rfl (hb q hd) rfl r
theorem W.ladd {x z : Int64} (A : W l Z n0 y bytes maxl ret R G h pc Ls (.long z :: .long x :: St) C S) (hd : decode bytes pc = .ok (.ladd, 1)) (hp : pc + 1 = pc') : W l Z n0 y bytes maxl ret R G h pc' Ls (.long (x + z) :: St) C S := by
  subst hp; exact A.step fun X hx _ _ q _ r => XS.ladd X.here hx rfl (hb q hd) rfl r
theorem W.isub {x z : Int32} (A : W l Z n0 y bytes maxl ret R G h pc Ls (.int z :: .int x :: St) C S) (hd : decode bytes pc = .ok (.isub, 1)) (hp : pc + 1 = pc') : W l Z n0 y bytes maxl ret R G h pc' Ls (.int (x - z) :: St) C S := by
  subst hp; exact A.step fun X hx _ _ q _ r => XS.isub X.here hx rfl (hb q hd) rfl r
theorem W.lsub {x z : Int64} (A : W l Z n0 y bytes maxl ret R G h pc Ls (.long z :: .long x :: St) C S) (hd : decode bytes pc = .ok (.lsub, 1)) (hp : pc + 1 = pc') : W l Z n0 y bytes maxl ret R G h pc' Ls (.long (x - z) :: St) C S := by
  subst hp; exact A.step fun X hx _ _ q _ r => XS.lsub X.here hx rfl (hb q hd) rfl r
theorem W.imul {x z : Int32} (A : W l Z n0 y bytes maxl ret R G h pc Ls (.int z :: .int x :: St) C S) (hd : decode bytes pc = .ok (.imul, 1)) (hp : pc + 1 = pc') : W l Z n0 y bytes maxl ret R G h pc' Ls (.int (x * z) :: St) C S := by
  subst hp; exact A.step fun X hx _ _ q _ r => XS.imul X.here hx rfl (hb q hd) rfl r
theorem W.lmul {x z : Int64} (A : W l Z n0 y bytes maxl ret R G h pc Ls (.long z :: .long x :: St) C S) (hd : decode bytes pc = .ok (.lmul, 1)) (hp : pc + 1 = pc') : W l Z n0 y bytes maxl ret R G h pc' Ls (.long (x * z) :: St) C S := by
  subst hp; exact A.step fun X hx _ _ q _ r => XS.lmul X.here hx rfl (hb q hd) rfl r
theorem W.iand {x z : Int32} (A : W l Z n0 y bytes maxl ret R G h pc Ls (.int z :: .int x :: St) C S) (hd : decode bytes pc = .ok (.iand, 1)) (hp : pc + 1 = pc') : W l Z n0 y bytes maxl ret R G h pc' Ls (.int (x &&& z) :: St) C S := by
  subst hp; exact A.step fun X hx _ _ q _ r => XS.iand X.here hx rfl (hb q hd) rfl r
theorem W.land {x z : Int64} (A : W l Z n0 y bytes maxl ret R G h pc Ls (.long z :: .long x :: St) C S) (hd : decode bytes pc = .ok (.land, 1)) (hp : pc + 1 = pc') : W l Z n0 y bytes maxl ret R G h pc' Ls (.long (x &&& z) :: St) C S := by
  subst hp; exact A.step fun X hx _ _ q _ r => XS.land X.here hx rfl (hb q hd) rfl r
theorem W.ior {x z : Int32} (A : W l Z n0 y bytes maxl ret R G h pc Ls (.int z :: .int x :: St) C S) (hd : decode bytes pc = .ok (.ior, 1)) (hp : pc + 1 = pc') : W l Z n0 y bytes maxl ret R G h pc' Ls (.int (x ||| z) :: St) C S := by
  subst hp; exact A.step fun X hx _ _ q _ r => XS.ior X.here hx rfl (hb q hd) rfl r
theorem W.lor {x z : Int64} (A : W l Z n0 y bytes maxl ret R G h pc Ls (.long z :: .long x :: St) C S) (hd : decode bytes pc = .ok (.lor, 1)) (hp : pc + 1 = pc') : W l Z n0 y bytes maxl ret R G h pc' Ls (.long (x ||| z) :: St) C S := by
  subst hp; exact A.step fun X hx _ _ q _ r => XS.lor X.here hx rfl (hb q hd) rfl r
theorem W.ixor {x z : Int32} (A : W l Z n0 y bytes maxl ret R G h pc Ls (.int z :: .int x :: St) C S) (hd : decode bytes pc = .ok (.ixor, 1)) (hp : pc + 1 = pc') : W l Z n0 y bytes maxl ret R G h pc' Ls (.int (x ^^^ z) :: St) C S := by
  subst hp; exact A.step fun X hx _ _ q _ r => XS.ixor X.here hx rfl (hb q hd) rfl r
theorem W.lxor {x z : Int64} (A : W l Z n0 y bytes maxl ret R G h pc Ls (.long z :: .long x :: St) C S) (hd : decode bytes pc = .ok (.lxor, 1)) (hp : pc + 1 = pc') : W l Z n0 y bytes maxl ret R G h pc' Ls (.long (x ^^^ z) :: St) C S := by
  subst hp; exact A.step fun X hx _ _ q _ r => XS.lxor X.here hx rfl (hb q hd) rfl r
theorem W.ineg {x : Int32} (A : W l Z n0 y bytes maxl ret R G h pc Ls (.int x :: St) C S) (hd : decode bytes pc = .ok (.ineg, 1)) (hp : pc + 1 = pc') : W l Z n0 y bytes maxl ret R G h pc' Ls (.int (-x) :: St) C S := by
  subst hp; exact A.step fun X hx _ _ q _ r => XS.ineg X.here hx rfl (hb q hd) rfl r
theorem W.lneg {x : Int64} (A : W l Z n0 y bytes maxl ret R G h pc Ls (.long x :: St) C S) (hd : decode bytes pc = .ok (.lneg, 1)) (hp : pc + 1 = pc') : W l Z n0 y bytes maxl ret R G h pc' Ls (.long (-x) :: St) C S := by
  subst hp; exact A.step fun X hx _ _ q _ r => XS.lneg X.here hx rfl (hb q hd) rfl r
theorem W.ishl {x z : Int32} (A : W l Z n0 y bytes maxl ret R G h pc Ls (.int z :: .int x :: St) C S) (hd : decode bytes pc = .ok (.ishl, 1)) (hp : pc + 1 = pc') : W l Z n0 y bytes maxl ret R G h pc' Ls (.int (x <<< (z &&& 31)) :: St) C S := by
  subst hp; exact A.step fun X hx _ _ q _ r => XS.ishl X.here hx rfl (hb q hd) rfl r
theorem W.ishr {x z : Int32} (A : W l Z n0 y bytes maxl ret R G h pc Ls (.int z :: .int x :: St) C S) (hd : decode bytes pc = .ok (.ishr, 1)) (hp : pc + 1 = pc') : W l Z n0 y bytes maxl ret R G h pc' Ls (.int (x >>> (z &&& 31)) :: St) C S := by
  subst hp; exact A.step fun X hx _ _ q _ r => XS.ishr X.here hx rfl (hb q hd) rfl r
theorem W.iushr {x z : Int32} (A : W l Z n0 y bytes maxl ret R G h pc Ls (.int z :: .int x :: St) C S) (hd : decode bytes pc = .ok (.iushr, 1)) (hp : pc + 1 = pc') : W l Z n0 y bytes maxl ret R G h pc' Ls (.int ((x.toUInt32 >>> (z &&& 31).toUInt32).toInt32) :: St) C S := by
  subst hp; exact A.step fun X hx _ _ q _ r => XS.iushr X.here hx rfl (hb q hd) rfl r
theorem W.lshl {x : Int64} {z : Int32} (A : W l Z n0 y bytes maxl ret R G h pc Ls (.int z :: .long x :: St) C S) (hd : decode bytes pc = .ok (.lshl, 1)) (hp : pc + 1 = pc') : W l Z n0 y bytes maxl ret R G h pc' Ls (.long (x <<< (z &&& 0x3f).toInt64) :: St) C S := by
  subst hp; exact A.step fun X hx _ _ q _ r => XS.lshl X.here hx rfl (hb q hd) rfl r
theorem W.lshr {x : Int64} {z : Int32} (A : W l Z n0 y bytes maxl ret R G h pc Ls (.int z :: .long x :: St) C S) (hd : decode bytes pc = .ok (.lshr, 1)) (hp : pc + 1 = pc') : W l Z n0 y bytes maxl ret R G h pc' Ls (.long (x >>> (z &&& 0x3f).toInt64) :: St) C S := by
  subst hp; exact A.step fun X hx _ _ q _ r => XS.lshr X.here hx rfl (hb q hd) rfl r
theorem W.lushr {x : Int64} {z : Int32} (A : W l Z n0 y bytes maxl ret R G h pc Ls (.int z :: .long x :: St) C S) (hd : decode bytes pc = .ok (.lushr, 1)) (hp : pc + 1 = pc') : W l Z n0 y bytes maxl ret R G h pc' Ls (.long ((x.toUInt64 >>> (z &&& 0x3f).toInt64.toUInt64).toInt64) :: St) C S := by
  subst hp; exact A.step fun X hx _ _ q _ r => XS.lushr X.here hx rfl (hb q hd) rfl r
theorem W.i2l {x : Int32} (A : W l Z n0 y bytes maxl ret R G h pc Ls (.int x :: St) C S) (hd : decode bytes pc = .ok (.i2l, 1)) (hp : pc + 1 = pc') : W l Z n0 y bytes maxl ret R G h pc' Ls (.long x.toInt64 :: St) C S := by
  subst hp; exact A.step fun X hx _ _ q _ r => XS.i2l X.here hx rfl (hb q hd) rfl r
theorem W.l2i {x : Int64} (A : W l Z n0 y bytes maxl ret R G h pc Ls (.long x :: St) C S) (hd : decode bytes pc = .ok (.l2i, 1)) (hp : pc + 1 = pc') : W l Z n0 y bytes maxl ret R G h pc' Ls (.int x.toInt32 :: St) C S := by
  subst hp; exact A.step fun X hx _ _ q _ r => XS.l2i X.here hx rfl (hb q hd) rfl r
theorem W.i2b {x : Int32} (A : W l Z n0 y bytes maxl ret R G h pc Ls (.int x :: St) C S) (hd : decode bytes pc = .ok (.i2b, 1)) (hp : pc + 1 = pc') : W l Z n0 y bytes maxl ret R G h pc' Ls (.int x.toInt8.toInt32 :: St) C S := by
  subst hp; exact A.step fun X hx _ _ q _ r => XS.i2b X.here hx rfl (hb q hd) rfl r
theorem W.i2s {x : Int32} (A : W l Z n0 y bytes maxl ret R G h pc Ls (.int x :: St) C S) (hd : decode bytes pc = .ok (.i2s, 1)) (hp : pc + 1 = pc') : W l Z n0 y bytes maxl ret R G h pc' Ls (.int x.toInt16.toInt32 :: St) C S := by
  subst hp; exact A.step fun X hx _ _ q _ r => XS.i2s X.here hx rfl (hb q hd) rfl r
theorem W.i2c {x : Int32} (A : W l Z n0 y bytes maxl ret R G h pc Ls (.int x :: St) C S) (hd : decode bytes pc = .ok (.i2c, 1)) (hp : pc + 1 = pc') : W l Z n0 y bytes maxl ret R G h pc' Ls (.int x.toUInt32.toUInt16.toUInt32.toInt32 :: St) C S := by
  subst hp; exact A.step fun X hx _ _ q _ r => XS.i2c X.here hx rfl (hb q hd) rfl r
theorem W.lcmp {x z : Int64} (A : W l Z n0 y bytes maxl ret R G h pc Ls (.long z :: .long x :: St) C S) (hd : decode bytes pc = .ok (.lcmp, 1)) (hp : pc + 1 = pc') : W l Z n0 y bytes maxl ret R G h pc' Ls (.int (lcmpW x z) :: St) C S := by
  subst hp; exact A.step fun X hx _ _ q _ r => XS.lcmp X.here hx rfl (hb q hd) rfl r
theorem W.idiv {x z : Int32} (A : W l Z n0 y bytes maxl ret R G h pc Ls (.int z :: .int x :: St) C S) (hd : decode bytes pc = .ok (.idiv, 1)) (hz : z ≠ 0) (hp : pc + 1 = pc') : W l Z n0 y bytes maxl ret R G h pc' Ls (.int (x / z) :: St) C S := by
  subst hp; exact A.step fun X hx _ _ q _ r => XS.idiv X.here hx rfl (hb q hd) rfl hz r
theorem W.irem {x z : Int32} (A : W l Z n0 y bytes maxl ret R G h pc Ls (.int z :: .int x :: St) C S) (hd : decode bytes pc = .ok (.irem, 1)) (hz : z ≠ 0) (hp : pc + 1 = pc') : W l Z n0 y bytes maxl ret R G h pc' Ls (.int (x % z) :: St) C S := by
  subst hp; exact A.step fun X hx _ _ q _ r => iremM (g := mkF _ _ _ _) X hx rfl (hb q hd) rfl hz r
theorem W.ldiv {x z : Int64} (A : W l Z n0 y bytes maxl ret R G h pc Ls (.long z :: .long x :: St) C S) (hd : decode bytes pc = .ok (.ldiv, 1)) (hz : z ≠ 0) (hp : pc + 1 = pc') : W l Z n0 y bytes maxl ret R G h pc' Ls (.long (x / z) :: St) C S := by
  subst hp; exact A.step fun X hx _ _ q _ r => XS.ldiv X.here hx rfl (hb q hd) rfl hz r
theorem W.lrem {x z : Int64} (A : W l Z n0 y bytes maxl ret R G h pc Ls (.long z :: .long x :: St) C S) (hd : decode bytes pc = .ok (.lrem, 1)) (hz : z ≠ 0) (hp : pc + 1 = pc') : W l Z n0 y bytes maxl ret R G h pc' Ls (.long (x % z) :: St) C S := by
  subst hp; exact A.step fun X hx _ _ q _ r => XS.lrem X.here hx rfl (hb q hd) rfl hz (by rw [lrem_mod]; exact r)
theorem W.dup {v : Value} (A : W l Z n0 y bytes maxl ret R G h pc Ls (v :: St) C S) (hd : decode bytes pc = .ok (.dup, 1)) (hc : v.category = 1) (hp : pc + 1 = pc') : W l Z n0 y bytes maxl ret R G h pc' Ls (v :: v :: St) C S := by
  subst hp; exact A.step fun X hx _ _ q _ r => XS.dup X.here hx rfl (hb q hd) rfl hc r
theorem W.pop {v : Value} (A : W l Z n0 y bytes maxl ret R G h pc Ls (v :: St) C S) (hd : decode bytes pc = .ok (.pop, 1)) (hc : v.category = 1) (hp : pc + 1 = pc') : W l Z n0 y bytes maxl ret R G h pc' Ls St C S := by
  subst hp; exact A.step fun X hx _ _ q _ r => XS.pop X.here hx rfl (hb q hd) rfl hc r
theorem W.dupX1 {v w : Value} (A : W l Z n0 y bytes maxl ret R G h pc Ls (v :: w :: St) C S) (hd : decode bytes pc = .ok (.dup_x1, 1)) (hc : v.category = 1) (hc' : w.category = 1) (hp : pc + 1 = pc') : W l Z n0 y bytes maxl ret R G h pc' Ls (v :: w :: v :: St) C S := by
  subst hp; exact A.step fun X hx _ _ q _ r => XS.dupX1 X.here hx rfl (hb q hd) rfl hc hc' r
theorem W.dup2 {v w : Value} (A : W l Z n0 y bytes maxl ret R G h pc Ls (v :: w :: St) C S) (hd : decode bytes pc = .ok (.dup2, 1)) (hc : v.category = 1) (hc' : w.category = 1) (hp : pc + 1 = pc') : W l Z n0 y bytes maxl ret R G h pc' Ls (v :: w :: v :: w :: St) C S := by
  subst hp; exact A.step fun X hx _ _ q _ r => XT.dup2 X.here hx rfl (hb q hd) rfl hc hc' r
theorem W.dup2L {x : Int64} (A : W l Z n0 y bytes maxl ret R G h pc Ls (.long x :: St) C S) (hd : decode bytes pc = .ok (.dup2, 1)) (hp : pc + 1 = pc') : W l Z n0 y bytes maxl ret R G h pc' Ls (.long x :: .long x :: St) C S := by
  subst hp; exact A.step fun X hx _ _ q _ r => XT.dup2L X.here hx rfl (hb q hd) rfl r
theorem W.goto (A : W l Z n0 y bytes maxl ret R G h pc Ls St C S) {o : Int} (hd : decode bytes pc = .ok (.goto o, 3)) (ho : 0 ≤ (pc : Int) + o) (hp : ((pc : Int) + o).toNat = pc') : W l Z n0 y bytes maxl ret R G h pc' Ls St C S :=
  A.step fun X hx _ _ q _ r => XS.goto X.here hx rfl rfl (hb q hd) ho hp r
theorem W.ifYes {x : Int32} (A : W l Z n0 y bytes maxl ret R G h pc Ls (.int x :: St) C S) {cd : ClassFile.Cond} {o : Int} (hd : decode bytes pc = .ok (.ifCond cd o, 3)) (hc : if_icmp.holds cd x 0 = true) (ho : 0 ≤ (pc : Int) + o) (hp : ((pc : Int) + o).toNat = pc') : W l Z n0 y bytes maxl ret R G h pc' Ls St C S :=
  A.step fun X hx _ _ q _ r => XS.ifYes X.here hx rfl rfl (hb q hd) rfl ((if0 _ _).trans hc) ho hp r
theorem W.ifNo {x : Int32} (A : W l Z n0 y bytes maxl ret R G h pc Ls (.int x :: St) C S) {cd : ClassFile.Cond} {o : Int} (hd : decode bytes pc = .ok (.ifCond cd o, 3)) (hc : if_icmp.holds cd x 0 = false) (hp : pc + 3 = pc') : W l Z n0 y bytes maxl ret R G h pc' Ls St C S := by
  subst hp; exact A.step fun X hx _ _ q _ r => XS.ifNo X.here hx rfl (hb q hd) rfl ((if0 _ _).trans hc) r
theorem W.icmpYes {x z : Int32} (A : W l Z n0 y bytes maxl ret R G h pc Ls (.int z :: .int x :: St) C S) {cd : ClassFile.Cond} {o : Int} (hd : decode bytes pc = .ok (.if_icmp cd o, 3)) (hc : if_icmp.holds cd x z = true) (ho : 0 ≤ (pc : Int) + o) (hp : ((pc : Int) + o).toNat = pc') : W l Z n0 y bytes maxl ret R G h pc' Ls St C S :=
  A.step fun X hx _ _ q _ r => XS.icmpYes X.here hx rfl rfl (hb q hd) rfl hc ho hp r
theorem W.icmpNo {x z : Int32} (A : W l Z n0 y bytes maxl ret R G h pc Ls (.int z :: .int x :: St) C S) {cd : ClassFile.Cond} {o : Int} (hd : decode bytes pc = .ok (.if_icmp cd o, 3)) (hc : if_icmp.holds cd x z = false) (hp : pc + 3 = pc') : W l Z n0 y bytes maxl ret R G h pc' Ls St C S := by
  subst hp; exact A.step fun X hx _ _ q _ r => XS.icmpNo X.here hx rfl (hb q hd) rfl hc r
theorem W.ifnullYes (A : W l Z n0 y bytes maxl ret R G h pc Ls (.null :: St) C S) {o : Int} (hd : decode bytes pc = .ok (.ifnull o, 3)) (ho : 0 ≤ (pc : Int) + o) (hp : ((pc : Int) + o).toNat = pc') : W l Z n0 y bytes maxl ret R G h pc' Ls St C S :=
  A.step fun X hx _ _ q _ r => XS.ifnullYes X.here hx rfl rfl (hb q hd) rfl ho hp r
theorem W.ifnullNo {a : Addr} (A : W l Z n0 y bytes maxl ret R G h pc Ls (.ref a :: St) C S) {o : Int} (hd : decode bytes pc = .ok (.ifnull o, 3)) (hp : pc + 3 = pc') : W l Z n0 y bytes maxl ret R G h pc' Ls St C S := by
  subst hp; exact A.step fun X hx _ _ q _ r => XS.ifnullNo X.here hx rfl (hb q hd) rfl r
theorem W.ifnonnullNo (A : W l Z n0 y bytes maxl ret R G h pc Ls (.null :: St) C S) {o : Int} (hd : decode bytes pc = .ok (.ifnonnull o, 3)) (hp : pc + 3 = pc') : W l Z n0 y bytes maxl ret R G h pc' Ls St C S := by
  subst hp; exact A.step fun X hx _ _ q _ r => XS.ifnonnullNo X.here hx rfl (hb q hd) rfl r
theorem W.ifnonnullYes {a : Addr} (A : W l Z n0 y bytes maxl ret R G h pc Ls (.ref a :: St) C S) {o : Int} (hd : decode bytes pc = .ok (.ifnonnull o, 3)) (ho : 0 ≤ (pc : Int) + o) (hp : ((pc : Int) + o).toNat = pc') : W l Z n0 y bytes maxl ret R G h pc' Ls St C S :=
  A.step fun X hx _ _ q _ r => XS.ifnonnullYes X.here hx rfl rfl (hb q hd) rfl ho hp r
/-! C. the returns -/
theorem W.fin {v : Option Value} (A : W l Z n0 y bytes maxl ret R G h pc Ls St C S) (hC : C ≤ R.cells) (hS : S ≤ R.slots) (hv : ret = none → v = none) (hQ : Q v h)
    (f : ∀ {p : Program} {e : Env} {s : State} {m : MethodId} {args : Array Value} {below : List Frame} {meth : Method} {c : Code} {T : State} {locs : List Loc} {fs : List Frame}, Stand p l e R s m args below meth c T locs C S → p.tables.exec = Jvm.exec → c.code = bytes → meth.sig.returnType = ret → (∀ (f : JFrame) (acts : List Action), f.method = m → f.locked = none → f.entered = [] → (doReturn e (T.setTop f) acts v).1 = T.setFrames fs) → Steps p.tables e below (T.setTop (mkF m pc Ls St)) (T.setFrames fs)) : Gl R n0 G Q := by
  obtain ⟨p, e, s, m, args, below, meth, c, st⟩ := G
  obtain ⟨hx, hZ, hby, hml, hown, hnm, hrt, hlk, hn0, T, locs, X, N, eT, k⟩ := A
  obtain ⟨fs, hr, hrun, hended, hW, hsame⟩ := X.leave (v := v) (fun q => hv (hrt.symm.trans q)) hlk
  show ∃ s₂ o, _
  refine ⟨_, _, k _ (f X hx hby hrt hr), hrun, hended, v, locs, rfl, ⟨N, ?_⟩, ⟨_, rfl⟩, hW, hsame.mono hC hS⟩
  show Q v T.heap
  rw [eT]; exact hQ
theorem W.retI {z : Int32} (A : W l Z n0 y bytes maxl (some .int) R G h pc Ls (.int z :: St) C S) (hd : decode bytes pc = .ok (.ireturn, 1)) (hC : C ≤ R.cells) (hS : S ≤ R.slots) (hQ : Q (some (.int z)) h) : Gl R n0 G Q :=
  A.fin hC hS (fun q => nomatch q) hQ fun X hx q hret hr => retOut X hx hret (t := .int) rfl (Or.inl ⟨rfl, Or.inl rfl, z, rfl⟩) (hb q hd) hr
theorem W.retN {z z' : Int32} {t : FieldType} (A : W l Z n0 y bytes maxl (some t) R G h pc Ls (.int z :: St) C S) (hd : decode bytes pc = .ok (.ireturn, 1)) (hC : C ≤ R.cells) (hS : S ≤ R.slots) (ht : t = .boolean ∨ t = .byte ∨ t = .char ∨ t = .short) (hz : nar t z = z') (hQ : Q (some (.int z')) h) : Gl R n0 G Q := by
  subst hz; exact A.fin hC hS (fun q => nomatch q) hQ fun X hx q hret hr => RoadKit.retN X hx hret ht (hb q hd) hr
theorem W.retJ {z : Int64} (A : W l Z n0 y bytes maxl (some .long) R G h pc Ls (.long z :: St) C S) (hd : decode bytes pc = .ok (.lreturn, 1)) (hC : C ≤ R.cells) (hS : S ≤ R.slots) (hQ : Q (some (.long z)) h) : Gl R n0 G Q :=
  A.fin hC hS (fun q => nomatch q) hQ fun X hx q hret hr => retOut X hx hret (t := .long) rfl (Or.inr (Or.inl ⟨rfl, rfl, z, rfl⟩)) (hb q hd) hr
theorem W.retA {v : Value} {t : FieldType} (A : W l Z n0 y bytes maxl (some t) R G h pc Ls (v :: St) C S) (hd : decode bytes pc = .ok (.areturn, 1)) (hC : C ≤ R.cells) (hS : S ≤ R.slots) (ht : t.isReference = true) (hv : v.isRef = true) (hn : narrow t v = v) (hQ : Q (some v) h) : Gl R n0 G Q :=
  A.fin hC hS (fun q => nomatch q) hQ fun X hx q hret hr => retOut X hx hret (t := t) hn (Or.inr (Or.inr (Or.inr (Or.inr ⟨rfl, ht, hv⟩)))) (hb q hd) hr
theorem W.retV (A : W l Z n0 y bytes maxl none R G h pc Ls [] C S) (hd : decode bytes pc = .ok (.return_, 1)) (hC : C ≤ R.cells) (hS : S ≤ R.slots) (hQ : Q none h) : Gl R n0 G Q :=
  A.fin hC hS (fun _ => rfl) hQ fun X hx q hret hr => X.returnOut hx hret (hb q hd) hr
/-! D. calls -/
theorem W.callS (A : W l Z n0 y bytes maxl ret R G h pc Ls St C S) {y' : MethodName} {bytes' : ByteArray} {maxl' : Nat} {ret' : Option FieldType} {R' : Room} {as : Array Value} {idx : Nat} {argsL rest : List Value} {ps : List FieldType} {rr : Option FieldType} (hd : decode bytes pc = .ok (.invokestatic idx, 3))
    (w1 : (Jvm.Cond.methodLink y.cls idx y').before a0 Z = true) (w2 : (Jvm.Cond.static y').before a0 Z = true) (w3 : (Jvm.Cond.initialized y'.cls).before a0 Z = true) (w4 : (Jvm.Cond.code y' bytes' maxl' ret').before a0 Z = true) (hM : Ctr l Z n0 y' bytes' maxl' ret' [] R' as h Q) (has : argsL.toArray = as) (hs : St = argsL.reverse ++ rest)
    (hpd : parseMethodDescriptor y'.desc = some ⟨ps, rr⟩) (hlen : argsL.length = ps.length) (hsz : Ls.size = maxl) (hy : y'.cls ≠ "java/lang/invoke/MethodHandle" ∧ y'.cls ≠ "java/lang/invoke/VarHandle") (hf : R'.frames + 1 ≤ R.frames) (hlo : (rest.map fun v => v.category).sum + (maxl' + 11) + R'.locals ≤ R.locals) (hC : C + R'.cells ≤ R.cells) (hS : S + R'.slots ≤ R.slots) (hC' : C + R'.cells = C') (hS' : S + R'.slots = S') (hp : pc + 3 = pc') :
    ∃ v h', Q v h' ∧ W l Z n0 y bytes maxl ret R G h' pc' Ls (v.toList ++ rest) C' S' := by
  subst hp hC' hS' has
  obtain ⟨p, e, s, m, args, below, meth, c, st⟩ := G
  obtain ⟨hx, hZ, hby, hml, hown, hnm, hrt, hlk, hn0, T, locs, X, N, eT, k⟩ := A
  obtain ⟨v, _, ⟨T', L', k', n'⟩, -, X', ⟨Lc, hQ, l1, y1, z1⟩, st'⟩ := Jvm.LawKit.callS X hx (y := y') hown (mvT hZ w1) (mvT hZ w2) (mvT hZ w3) (mvT hZ w4) hy (backOf (Q := fun v h L => Fr n0 L ∧ Q v h) (W := (rest.map fun v => v.category).sum) hM hZ w4 w3 hf hlo) (g := mkF m pc Ls St) rfl (by rw [hml]; exact hsz) (argsL := argsL) (rest := rest) (lenOf hpd hlen) hs (by show 2 * 0 + _ ≤ _; omega) (hb hby hd) (fun _ _ => ⟨rfl, eT, hC, hS⟩)
  dsimp only [Pt.U, Pt.locs, Pt.cells, Pt.slots] at X' l1 y1 z1 st' hQ
  subst l1 y1 z1
  exact ⟨v, T'.heap, hQ.2, W.mk hx hZ hby hml hown hnm hrt hlk hn0 X' (N.app hQ.1) rfl (fun t q => k t (st' t q))⟩
theorem W.callI (A : W l Z n0 y bytes maxl ret R G h pc Ls St C S) {a : Addr} {y' : MethodName} {bytes' : ByteArray} {maxl' : Nat} {R' : Room} {as : Array Value} {idx : Nat} {argsL rest : List Value} {ps : List FieldType} {rr : Option FieldType} (hd : decode bytes pc = .ok (.invokespecial idx, 3)) (hy1 : y'.name = "<init>")
    (w1 : (Jvm.Cond.methodLink y.cls idx y').before a0 Z = true) (w2 : (Jvm.Cond.instanceMethod y').before a0 Z = true) (w3 : (Jvm.Cond.initialized y'.cls).before a0 Z = true) (w4 : (Jvm.Cond.code y' bytes' maxl' none).before a0 Z = true) (hM : Ctr l Z n0 y' bytes' maxl' none [] R' as h Q) (has : (.ref a :: argsL).toArray = as) (hs : St = argsL.reverse ++ .ref a :: rest)
    (hpd : parseMethodDescriptor y'.desc = some ⟨ps, rr⟩) (hlen : argsL.length = ps.length) (hsz : Ls.size = maxl) (hy : y'.cls ≠ "java/lang/invoke/MethodHandle" ∧ y'.cls ≠ "java/lang/invoke/VarHandle") (hf : R'.frames + 1 ≤ R.frames) (hlo : (rest.map fun v => v.category).sum + (maxl' + 11) + R'.locals ≤ R.locals) (hC : C + R'.cells ≤ R.cells) (hS : S + R'.slots ≤ R.slots) (hC' : C + R'.cells = C') (hS' : S + R'.slots = S') (hp : pc + 3 = pc') :
    ∃ v h', Q v h' ∧ W l Z n0 y bytes maxl ret R G h' pc' Ls (v.toList ++ rest) C' S' := by
  subst hp hC' hS' has
  obtain ⟨p, e, s, m, args, below, meth, c, st⟩ := G
  obtain ⟨hx, hZ, hby, hml, hown, hnm, hrt, hlk, hn0, T, locs, X, N, eT, k⟩ := A
  obtain ⟨v, _, ⟨T', L', k', n'⟩, -, X', ⟨Lc, hQ, l1, y1, z1⟩, st'⟩ := X.specialBack hx (y := y') hy1 hown (mvT hZ w1) (mvT hZ w2) (mvT hZ w4) hy (backOf (Q := fun v h L => Fr n0 L ∧ Q v h) (W := (rest.map fun v => v.category).sum) hM hZ w4 w3 hf hlo) (g := mkF m pc Ls St) rfl (by rw [hml]; exact hsz) (Steps.refl _) (a := a) (argsL := argsL) (rest := rest) (lenOf hpd hlen) hs (by show 2 * 0 + _ ≤ _; omega) (hb hby hd) (fun _ _ => ⟨rfl, eT, hC, hS⟩)
  dsimp only [Pt.U, Pt.locs, Pt.cells, Pt.slots] at X' l1 y1 z1 st' hQ
  subst l1 y1 z1
  exact ⟨v, T'.heap, hQ.2, W.mk hx hZ hby hml hown hnm hrt hlk hn0 X' (N.app hQ.1) rfl (fun t q => k t (st'.trans q))⟩
theorem W.callV (A : W l Z n0 y bytes maxl ret R G h pc Ls St C S) {a : Addr} {K : String} {y' z' : MethodName} {bytes' : ByteArray} {maxl' : Nat} {ret' : Option FieldType} {R' : Room} {as : Array Value} {idx : Nat} {argsL rest : List Value} {ps : List FieldType} {rr : Option FieldType} (hd : decode bytes pc = .ok (.invokevirtual idx, 3)) (E : Exa Z h a K)
    (w1 : (Jvm.Cond.methodLink y.cls idx y').before a0 Z = true) (wd : (Jvm.Cond.declares y').before a0 Z = true) (hnf : ∀ {s : State}, Z.Warmed39 s.vm → NotFace s y') (ws : (Jvm.Cond.selects K y' z').before a0 Z = true) (w2 : (Jvm.Cond.instanceMethod z').before a0 Z = true) (w3 : (Jvm.Cond.initialized z'.cls).before a0 Z = true) (w4 : (Jvm.Cond.code z' bytes' maxl' ret').before a0 Z = true) (hM : Ctr l Z n0 z' bytes' maxl' ret' [] R' as h Q) (has : (.ref a :: argsL).toArray = as) (hs : St = argsL.reverse ++ .ref a :: rest)
    (hpd : parseMethodDescriptor y'.desc = some ⟨ps, rr⟩) (hlen : argsL.length = ps.length) (hsz : Ls.size = maxl) (hy : y'.cls ≠ "java/lang/invoke/MethodHandle" ∧ y'.cls ≠ "java/lang/invoke/VarHandle") (hf : R'.frames + 1 ≤ R.frames) (hlo : (rest.map fun v => v.category).sum + (maxl' + 11) + R'.locals ≤ R.locals) (hC : C + R'.cells ≤ R.cells) (hS : S + R'.slots ≤ R.slots) (hC' : C + R'.cells = C') (hS' : S + R'.slots = S') (hp : pc + 3 = pc') :
    ∃ v h', Q v h' ∧ W l Z n0 y bytes maxl ret R G h' pc' Ls (v.toList ++ rest) C' S' := by
  subst hp hC' hS' has
  obtain ⟨p, e, s, m, args, below, meth, c, st⟩ := G
  obtain ⟨hx, hZ, hby, hml, hown, hnm, hrt, hlk, hn0, T, locs, X, N, eT, k⟩ := A
  obtain ⟨cq, kq, qa, qb, qc⟩ := isOf hZ eT E
  obtain ⟨v, _, ⟨T', L', k', n'⟩, -, X', ⟨Lc, hQ, l1, y1, z1⟩, st'⟩ := X.virtualBack hx (y := y') (z := z') hown (mvT hZ w1) (mvT hZ wd) (hnf hZ) (mvT hZ ws) (mvT hZ w2) hy (backOf (Q := fun v h L => Fr n0 L ∧ Q v h) (W := (rest.map fun v => v.category).sum) hM hZ w4 w3 hf hlo) qa qc (g := mkF m pc Ls St) rfl (by rw [hml]; exact hsz) (Steps.refl _) (argsL := argsL) (rest := rest) (lenOf hpd hlen) hs (by show 2 * 0 + _ ≤ _; omega) (hb hby hd) (fun _ _ => ⟨rfl, eT, hC, hS⟩)
  dsimp only [Pt.U, Pt.locs, Pt.cells, Pt.slots] at X' l1 y1 z1 st' hQ
  subst l1 y1 z1
  exact ⟨v, T'.heap, hQ.2, W.mk hx hZ hby hml hown hnm hrt hlk hn0 X' (N.app hQ.1) rfl (fun t q => k t (st'.trans q))⟩
theorem W.kI {P : Int32 → Heap → Prop} {rest : List Value} (q : ∃ v h', QI P v h' ∧ W l Z n0 y bytes maxl ret R G h' pc Ls (v.toList ++ rest) C S) : ∃ r h', P r h' ∧ W l Z n0 y bytes maxl ret R G h' pc Ls (.int r :: rest) C S := by
  obtain ⟨v, h', ⟨r, rfl, hP⟩, A⟩ := q; exact ⟨r, h', hP, A⟩
theorem W.kJ {P : Int64 → Heap → Prop} {rest : List Value} (q : ∃ v h', QJ P v h' ∧ W l Z n0 y bytes maxl ret R G h' pc Ls (v.toList ++ rest) C S) : ∃ r h', P r h' ∧ W l Z n0 y bytes maxl ret R G h' pc Ls (.long r :: rest) C S := by
  obtain ⟨v, h', ⟨r, rfl, hP⟩, A⟩ := q; exact ⟨r, h', hP, A⟩
theorem W.kA {P : Addr → Heap → Prop} {rest : List Value} (q : ∃ v h', QA P v h' ∧ W l Z n0 y bytes maxl ret R G h' pc Ls (v.toList ++ rest) C S) : ∃ r h', P r h' ∧ W l Z n0 y bytes maxl ret R G h' pc Ls (.ref r :: rest) C S := by
  obtain ⟨v, h', ⟨r, rfl, hP⟩, A⟩ := q; exact ⟨r, h', hP, A⟩
theorem W.kV {P : Heap → Prop} {rest : List Value} (q : ∃ v h', QV P v h' ∧ W l Z n0 y bytes maxl ret R G h' pc Ls (v.toList ++ rest) C S) : ∃ h', P h' ∧ W l Z n0 y bytes maxl ret R G h' pc Ls rest C S := by
  obtain ⟨v, h', ⟨rfl, hP⟩, A⟩ := q; exact ⟨h', hP, A⟩
end Walk
end Jvm.Pilot.@@N@@
namespace Jvm.Pilot.@@N@@
open Jvm Jvm.ClassFile Sem Op Lib Jvm.Free Jvm.Stand Jvm.LawKit Jvm.RoadKit Bundle
/-! numbers -/
theorem rng32 (x : Int32) : -2147483648 ≤ x.toInt ∧ x.toInt < 2147483648 := ⟨x.le_toInt, x.toInt_lt⟩
theorem rng64 (x : Int64) : -9223372036854775808 ≤ x.toInt ∧ x.toInt < 9223372036854775808 := ⟨x.le_toInt, x.toInt_lt⟩
theorem add32 (x y : Int32) (h1 : -2147483648 ≤ x.toInt + y.toInt) (h2 : x.toInt + y.toInt < 2147483648) : (x + y).toInt = x.toInt + y.toInt := by
  have e := c_iadd x y; have r := rng32 (x + y); omega
theorem sub32 (x y : Int32) (h1 : -2147483648 ≤ x.toInt - y.toInt) (h2 : x.toInt - y.toInt < 2147483648) : (x - y).toInt = x.toInt - y.toInt := by
  have e := c_isub x y; have r := rng32 (x - y); omega
theorem mul32 (x y : Int32) (h1 : -2147483648 ≤ x.toInt * y.toInt) (h2 : x.toInt * y.toInt < 2147483648) : (x * y).toInt = x.toInt * y.toInt := by
  have e := c_imul x y; have r := rng32 (x * y); generalize x.toInt * y.toInt = z at *; omega
theorem add64 (x y : Int64) (h1 : -9223372036854775808 ≤ x.toInt + y.toInt) (h2 : x.toInt + y.toInt < 9223372036854775808) : (x + y).toInt = x.toInt + y.toInt := by
  have e := c_ladd x y; have r := rng64 (x + y); omega
theorem sub64 (x y : Int64) (h1 : -9223372036854775808 ≤ x.toInt - y.toInt) (h2 : x.toInt - y.toInt < 9223372036854775808) : (x - y).toInt = x.toInt - y.toInt := by
  have e := c_lsub x y; have r := rng64 (x - y); omega
theorem mul64 (x y : Int64) (h1 : -9223372036854775808 ≤ x.toInt * y.toInt) (h2 : x.toInt * y.toInt < 9223372036854775808) : (x * y).toInt = x.toInt * y.toInt := by
  have e := c_lmul x y; have r := rng64 (x * y); generalize x.toInt * y.toInt = z at *; omega
theorem mulc32 (x c : Int32) (k : Int) (hc : c.toInt = k) (h1 : -2147483648 ≤ x.toInt * k) (h2 : x.toInt * k < 2147483648) : (x * c).toInt = x.toInt * k := by
  subst hc; exact mul32 x c h1 h2
theorem mulc64 (x c : Int64) (k : Int) (hc : c.toInt = k) (h1 : -9223372036854775808 ≤ x.toInt * k) (h2 : x.toInt * k < 9223372036854775808) : (x * c).toInt = x.toInt * k := by
  subst hc; exact mul64 x c h1 h2
theorem addc32 (x c : Int32) (k : Int) (hc : c.toInt = k) (h1 : -2147483648 ≤ x.toInt + k) (h2 : x.toInt + k < 2147483648) : (x + c).toInt = x.toInt + k := by
  subst hc; exact add32 x c h1 h2
theorem subc32 (x c : Int32) (k : Int) (hc : c.toInt = k) (h1 : -2147483648 ≤ x.toInt - k) (h2 : x.toInt - k < 2147483648) : (x - c).toInt = x.toInt - k := by
  subst hc; exact sub32 x c h1 h2
theorem sta_int {args : Array Value} {s : State} {C n d : String} {v : Int32} (h : (Jvm.Cond.eq (Jvm.Term.static C n d) (Jvm.Term.int v)).value args s none s [] = some true) : (Jvm.Term.static C n d).eval args s none [] s = some (.int v) := by
  obtain ⟨a, b, h1, h2, -, -⟩ := cmp_v (Or.inl h)
  cases Option.some.inj (h2.symm.trans (rfl : (Jvm.Term.int v).eval args s none [] s = some (.int v)))
  rw [h1]; cases a <;> simp [Cond.value, h1, h2] at h ⊢; exact h
theorem sta_long {args : Array Value} {s : State} {C n d : String} {v : Int64} (h : (Jvm.Cond.eq (Jvm.Term.static C n d) (Jvm.Term.long v)).value args s none s [] = some true) : (Jvm.Term.static C n d).eval args s none [] s = some (.long v) := by
  obtain ⟨a, b, h1, h2, -, -⟩ := cmp_v (Or.inl h)
  cases Option.some.inj (h2.symm.trans (rfl : (Jvm.Term.long v).eval args s none [] s = some (.long v)))
  rw [h1]; cases a <;> simp [Cond.value, h1, h2] at h ⊢; exact h
/-- (y & 0x7fffffff) % m -/
theorem pmod32 (x m : Int32) (M : Int) (hm : m.toInt = M) (hM : 0 < M) : ((x &&& (2147483647 : Int32)) % m).toInt = (x.toInt % 2147483648) % M ∧ 0 ≤ ((x &&& (2147483647 : Int32)) % m).toInt ∧ ((x &&& (2147483647 : Int32)) % m).toInt < M := by
  have e : (x &&& (2147483647 : Int32)).toInt = x.toInt % 2147483648 := c_mask x 2147483647 31 (by decide) (by decide)
  have q := (c_irem (x &&& (2147483647 : Int32)) m M hm).1 (by omega)
  have := Int.emod_nonneg (x.toInt % 2147483648) (show M ≠ 0 by omega)
  have := Int.emod_lt_of_pos (x.toInt % 2147483648) hM
  rw [q, e]; omega
/-- (x & Long.MAX_VALUE) % m -/
theorem pmod64 (x m : Int64) (M : Int) (hm : m.toInt = M) (hM : 0 < M) : 0 ≤ ((x &&& (9223372036854775807 : Int64)) % m).toInt ∧ ((x &&& (9223372036854775807 : Int64)) % m).toInt < M := by
  have e : (x &&& (9223372036854775807 : Int64)).toInt = x.toInt % 9223372036854775808 := c_maskL x 9223372036854775807 63 (by decide) (by decide)
  have q := (c_lrem (x &&& (9223372036854775807 : Int64)) m M hm).1 (by omega)
  rw [lrem_mod] at q
  have := Int.emod_nonneg (x.toInt % 9223372036854775808) (show M ≠ 0 by omega)
  have := Int.emod_lt_of_pos (x.toInt % 9223372036854775808) hM
  rw [q, e]; omega
end Jvm.Pilot.@@N@@
namespace Jvm.Pilot.@@N@@
open Jvm Jvm.ClassFile Sem Op Lib Jvm.Free Jvm.Stand Jvm.LawKit Jvm.RoadKit Bundle Jvm.Pilot.@@N@@.Jvm.D
section Heaps
variable {l : Launch} {Z : State} {n0 : Nat} {y : MethodName} {bytes : ByteArray} {maxl : Nat} {ret : Option FieldType} {R : Room} {G : Cx} {h h' : Heap} {pc pc' : Nat} {Ls : Array Slot} {St : List Value} {C S C' S' : Nat} {Q : Option Value → Heap → Prop} {a0 : Array Value} {a b : Addr}
/-- a step that moves the state and keeps the heap -/
theorem W.stepT (A : W l Z n0 y bytes maxl ret R G h pc Ls St C S) {Ls' : Array Slot} {St' : List Value}
    (f : ∀ {p : Program} {e : Env} {s : State} {m : MethodId} {args : Array Value} {below : List Frame} {meth : Method} {c : Code} {T : State} {locs : List Loc}, Stand p l e R s m args below meth c T locs C S → p.tables.exec = Jvm.exec → Z.Warmed39 s.vm → s.vm.findClass y.cls = some m.cls → c.code = bytes → c.maxLocals = maxl → T.heap = h →
      ∃ T', Stand p l e R s m args below meth c T' locs C S ∧ T'.heap = h ∧ ∀ t, Steps p.tables e below (T'.setTop (mkF m pc' Ls' St')) t → Steps p.tables e below (T.setTop (mkF m pc Ls St)) t) : W l Z n0 y bytes maxl ret R G h pc' Ls' St' C S := by
  obtain ⟨p, e, s, m, args, below, meth, c, st⟩ := G
  obtain ⟨hx, hZ, hby, hml, hown, hnm, hrt, hlk, hn0, T, locs, X, N, eT, k⟩ := A
  obtain ⟨T', X', e', st'⟩ := f X hx hZ hown hby hml eT
  exact W.mk hx hZ hby hml hown hnm hrt hlk hn0 X' N e' (fun t q => k t (st' t q))
theorem W.getF (A : W l Z n0 y bytes maxl ret R G h pc Ls (.ref a :: St) C S) {index : Nat} {R0 O n d host : String} {v : Value} (hd : decode bytes pc = .ok (.getfield index, 3)) (w : (Jvm.Cond.fieldLink y.cls index R0 n d).before a0 Z = true ∨ (Jvm.Cond.fieldLinkNest y.cls index R0 n d host).before a0 Z = true) (via : Via Z R0 O n d) (F : Fld Z h a O n d v) (hp : pc + 3 = pc') : W l Z n0 y bytes maxl ret R G h pc' Ls (v :: St) C S := by
  subst hp; exact A.stepT fun X hx hZ hown q _ eT => RoadKit.getF X hx hZ hown w via eT F (g := mkF _ _ _ _) rfl rfl (hb q hd)
theorem W.getS (A : W l Z n0 y bytes maxl ret R G h pc Ls St C S) {index : Nat} {R0 O n d host : String} {v : Value} (hd : decode bytes pc = .ok (.getstatic index, 3)) (w : (Jvm.Cond.fieldLink y.cls index R0 n d).before a0 Z = true ∨ (Jvm.Cond.fieldLinkNest y.cls index R0 n d host).before a0 Z = true) (via : Via Z R0 O n d) (F : Sta Z h O n d v) (hp : pc + 3 = pc') : W l Z n0 y bytes maxl ret R G h pc' Ls (v :: St) C S := by
  subst hp; exact A.stepT fun X hx hZ hown q _ eT => getS2 X hx hZ hown w via eT F (g := mkF _ _ _ _) rfl (hb q hd)
theorem W.initO (A : W l Z n0 y bytes maxl ret R G h pc Ls (.ref a :: St) C S) {idx : Nat} (hd : decode bytes pc = .ok (.invokespecial idx, 3)) (w1 : (Jvm.Cond.methodLink y.cls idx Lib.objectInit).before a0 Z = true) (w2 : (Jvm.Cond.instanceMethod Lib.objectInit).before a0 Z = true) (w3 : (Jvm.Cond.code Lib.objectInit ⟨#[0xb1]⟩ 1 none).before a0 Z = true) (hsz : Ls.size = maxl) (hf : 1 ≤ R.frames) (hlo : (St.map fun v => v.category).sum + 12 ≤ R.locals) (hp : pc + 3 = pc') : W l Z n0 y bytes maxl ret R G h pc' Ls St C S := by
  subst hp; exact A.stepT fun X hx hZ hown q hml eT => RoadKit.initO X hx hZ hown w1 w2 w3 eT (g := mkF _ _ _ _) rfl (by rw [hml]; exact hsz) rfl (hb q hd) hf (W := (St.map fun v => v.category).sum) (by show 2 * 0 + _ ≤ _; omega) hlo
theorem W.cast0 (A : W l Z n0 y bytes maxl ret R G h pc Ls (.ref a :: St) C S) {index : Nat} {K : String} (hd : decode bytes pc = .ok (.checkcast index, 3)) (w : (Jvm.Cond.classLink y.cls index K).before a0 Z = true) (F : Ins Z h a K true) (hp : pc + 3 = pc') : W l Z n0 y bytes maxl ret R G h pc' Ls (.ref a :: St) C S := by
  subst hp; exact A.stepT fun X hx hZ hown q _ eT => castY X hx hZ hown w eT F (g := mkF _ _ _ _) rfl rfl (hb q hd)
theorem W.inst1 (A : W l Z n0 y bytes maxl ret R G h pc Ls (.ref a :: St) C S) {index : Nat} {K : String} (hd : decode bytes pc = .ok (.instanceof index, 3)) (w : (Jvm.Cond.classLink y.cls index K).before a0 Z = true) (F : Ins Z h a K true) (hp : pc + 3 = pc') : W l Z n0 y bytes maxl ret R G h pc' Ls (.int 1 :: St) C S := by
  subst hp; exact A.stepT fun X hx hZ hown q _ eT => instY X hx hZ hown w eT F (g := mkF _ _ _ _) rfl rfl (hb q hd)
theorem W.putF {v : Value} (A : W l Z n0 y bytes maxl ret R G h pc Ls (v :: .ref a :: St) C S) {index kk : Nat} {R0 O n d host K : String} {ty : FieldType} {old : Value} (hd : decode bytes pc = .ok (.putfield index, 3)) (w : (Jvm.Cond.fieldLink y.cls index R0 n d).before a0 Z = true ∨ (Jvm.Cond.fieldLinkNest y.cls index R0 n d host).before a0 Z = true) (via : Via Z R0 O n d)
    (F : Fld Z h a O n d old) (E : Exa Z h a K) (Lw : (Jvm.Cond.lays K O n d).before a0 Z = true ∨ ((Jvm.Cond.laysFinal K O n d).before a0 Z = true ∧ y.cls = O ∧ y.name = "<init>")) (wi : (Jvm.Cond.instantiable K kk).before a0 Z = true) (hty : parseFieldDescriptor d = some ty) (hn : narrow ty v = v) (hf : fits ty v = true) (ga : n0 ≤ a) (hp : pc + 3 = pc') :
    ∃ h', Wr h h' a (Jvm.RoadKit.slotOf Z O n d) v ∧ W l Z n0 y bytes maxl ret R G h' pc' Ls St C S := by
  subst hp
  obtain ⟨p, e, s, m, args, below, meth, c, st⟩ := G
  obtain ⟨hx, hZ, hby, hml, hown, hnm, hrt, hlk, hn0, T, locs, X, N, eT, k⟩ := A
  obtain ⟨T', h', X', e', W', st'⟩ := RoadKit.putF X hx hZ hown w via eT F E (Lw.imp id fun q => ⟨q.1, q.2.1, hnm.trans q.2.2⟩) wi hty hn hf (g := mkF m pc Ls _) rfl rfl (hb hby hd)
  exact ⟨h', W', W.mk hx hZ hby hml hown hnm hrt hlk hn0 X' (Fr.snoc X' N ga) e' (fun t q => k t (st' t q))⟩
theorem W.putFN {v v' : Value} (A : W l Z n0 y bytes maxl ret R G h pc Ls (v :: .ref a :: St) C S) {index kk : Nat} {R0 O n d K : String} {ty : FieldType} {old : Value} (hd : decode bytes pc = .ok (.putfield index, 3)) (w : (Jvm.Cond.fieldLink y.cls index R0 n d).before a0 Z = true) (via : Via Z R0 O n d)
    (F : Fld Z h a O n d old) (E : Exa Z h a K) (Lw : (Jvm.Cond.lays K O n d).before a0 Z = true ∨ ((Jvm.Cond.laysFinal K O n d).before a0 Z = true ∧ y.cls = O ∧ y.name = "<init>")) (wi : (Jvm.Cond.instantiable K kk).before a0 Z = true) (hty : parseFieldDescriptor d = some ty) (hn : narrow ty v = v') (hf : fits ty v' = true) (ga : n0 ≤ a) (hp : pc + 3 = pc') :
    ∃ h', Wr h h' a (Jvm.RoadKit.slotOf Z O n d) v' ∧ W l Z n0 y bytes maxl ret R G h' pc' Ls St C S := by
  subst hp
  obtain ⟨p, e, s, m, args, below, meth, c, st⟩ := G
  obtain ⟨hx, hZ, hby, hml, hown, hnm, hrt, hlk, hn0, T, locs, X, N, eT, k⟩ := A
  obtain ⟨T', h', X', e', W', st'⟩ := RoadKit.putFN X hx hZ hown w via eT F E (Lw.imp id fun q => ⟨q.1, q.2.1, hnm.trans q.2.2⟩) wi hty hn hf (g := mkF m pc Ls _) rfl rfl (hb hby hd)
  exact ⟨h', W', W.mk hx hZ hby hml hown hnm hrt hlk hn0 X' (Fr.snoc X' N ga) e' (fun t q => k t (st' t q))⟩
theorem W.newO (A : W l Z n0 y bytes maxl ret R G h pc Ls St C S) {index n : Nat} {K : String} (hd : decode bytes pc = .ok (.new index, 3)) (w : (Jvm.Cond.classLink y.cls index K).before a0 Z = true) (wi : (Jvm.Cond.instantiable K n).before a0 Z = true) (wz : (Jvm.Cond.initialized K).before a0 Z = true) (hC : C + 1 ≤ R.cells) (hS : S + n ≤ R.slots) (hC' : C + 1 = C') (hS' : S + n = S') (hp : pc + 3 = pc') :
    ∃ h' b, b = h.size ∧ n0 ≤ b ∧ Ext h h' ∧ Exa Z h' b K ∧ (∀ {O nm d : String} {ty : FieldType}, Laid Z a0 K O nm d → parseFieldDescriptor d = some ty → Fld Z h' b O nm d (defaultValue ty)) ∧ W l Z n0 y bytes maxl ret R G h' pc' Ls (.ref b :: St) C' S' := by
  subst hp hC' hS'
  have hsz := A.size
  obtain ⟨p, e, s, m, args, below, meth, c, st⟩ := G
  obtain ⟨hx, hZ, hby, hml, hown, hnm, hrt, hlk, hn0, T, locs, X, N, eT, k⟩ := A
  obtain ⟨T', h', X', e', E', A', D', -, st'⟩ := RoadKit.newO X hx hZ hown w wi wz eT (g := mkF m pc Ls St) rfl (hb hby hd) hC hS
  exact ⟨h', h.size, rfl, hsz, E', A', D', W.mk hx hZ hby hml hown hnm hrt hlk hn0 X' N e' (fun t q => k t (st' t q))⟩
/-! arrays: what each place holds, by a function of the place -/
def Ars (Z : State) (h : Heap) (a : Addr) (ty : FieldType) (N : Nat) (f : Nat → Value) : Prop := ∃ c : Cell, Arr Z h a c ty ∧ c.slots.size = N ∧ N < 2 ^ 31 ∧ ∀ j, j < N → c.slots[j]? = some (f j)
def upd (f : Nat → Value) (i : Nat) (v : Value) : Nat → Value := fun j => if j = i then v else f j
theorem upd_same (f : Nat → Value) (i : Nat) (v : Value) : upd f i v i = v := by simp [upd]
theorem upd_ne (f : Nat → Value) {i j : Nat} (v : Value) (q : j ≠ i) : upd f i v j = f j := by simp [upd, q]
variable {ty : FieldType} {N : Nat} {f : Nat → Value} {ws : List Addr} {sl : Nat} {v : Value}
theorem Ars.lt (F : Ars Z h a ty N f) : a < h.size := by obtain ⟨c, A, -⟩ := F; exact A.lt
theorem Ars.ext (F : Ars Z h a ty N f) (E : Ext h h') : Ars Z h' a ty N f := by obtain ⟨c, A, r⟩ := F; exact ⟨c, A.ext E, r⟩
theorem Ars.other (F : Ars Z h b ty N f) (V : Wr h h' a sl v) (q : b ≠ a) : Ars Z h' b ty N f := by obtain ⟨c, A, r⟩ := F; exact ⟨c, A.other V q, r⟩
theorem Ars.keep (F : Ars Z h a ty N f) (K : Keep h h' ws) (q : a ∉ ws) : Ars Z h' a ty N f := by obtain ⟨c, A, r⟩ := F; exact ⟨c, ⟨K.2.1 a c A.1 q, A.2⟩, r⟩
theorem Ars.same {i : Nat} (F : Ars Z h a ty N f) (V : Wr h h' a i v) (hi : i < N) : Ars Z h' a ty N (upd f i v) := by
  obtain ⟨c, A, hs, hN, hv⟩ := F
  refine ⟨_, A.same V, by rw [sz_set]; exact hs, hN, fun j hj => ?_⟩
  by_cases q : j = i
  · subst q; simp [Cell.setSlot, upd, hs, hj]
  · simp only [Cell.setSlot, upd, if_neg q]; rw [Array.getElem?_setIfInBounds_ne (Ne.symm q)]; exact hv j hj
theorem Ars.fn {g : Nat → Value} (F : Ars Z h a ty N f) (q : ∀ j, j < N → f j = g j) : Ars Z h a ty N g := by
  obtain ⟨c, A, hs, hN, hv⟩ := F; exact ⟨c, A, hs, hN, fun j hj => by rw [← q j hj]; exact hv j hj⟩
theorem Ars.size (F : Ars Z h a ty N f) : N < 2 ^ 31 := by obtain ⟨c, A, hs, hN, hv⟩ := F; exact hN
theorem inb {j : Int32} {i N : Nat} {c : Cell} (hs : c.slots.size = N) (hj : j.toInt = i) (hi : i < N) : ¬ (j < 0 ∨ c.slots.size ≤ j.toNatClampNeg) ∧ j.toNatClampNeg = i := by
  have e0 : (0 : Int32).toInt = 0 := rfl
  rw [hs, Int32.lt_iff_toInt_lt]; simp only [Int32.toNatClampNeg]; omega
theorem W.newP (A : W l Z n0 y bytes maxl ret R G h pc Ls (.int z :: St) C S) {aty : ArrayType} {N cap : Nat} (hd : decode bytes pc = .ok (.newarray aty, 2)) (w : (Jvm.Cond.arrayClass (newarray.typeOf aty)).before a0 Z = true) (hz : z.toInt = N) (hcap : N ≤ cap) (hcb : cap * 8 ≤ 536870912) (hC : C + 1 ≤ R.cells) (hS : S + cap ≤ R.slots) (hC' : C + 1 = C') (hS' : S + cap = S') (hp : pc + 2 = pc') :
    ∃ h' b, b = h.size ∧ n0 ≤ b ∧ Ext h h' ∧ Ars Z h' b (newarray.typeOf aty) N (fun _ => defaultValue (newarray.typeOf aty)) ∧ W l Z n0 y bytes maxl ret R G h' pc' Ls (.ref b :: St) C' S' := by
  subst hp hC' hS'
  have hsz := A.size
  have e0 : (0 : Int32).toInt = 0 := rfl
  have hneg : ¬ z < 0 := by rw [Int32.lt_iff_toInt_lt]; omega
  have hcl : z.toNatClampNeg = N := by simp only [Int32.toNatClampNeg]; omega
  obtain ⟨p, e, s, m, args, below, meth, c, st⟩ := G
  obtain ⟨hx, hZ, hby, hml, hown, hnm, hrt, hlk, hn0, T, locs, X, Nf, eT, k⟩ := A
  obtain ⟨T', h', kA, X', e', E', A', st'⟩ := RoadKit.newP X hx hZ w eT (g := mkF m pc Ls _) rfl (hb hby hd) rfl hneg (cap := cap) (by omega) hcb hC hS
  refine ⟨h', h.size, rfl, hsz, E', ⟨_, A', by rw [sz_new, hcl], by omega, fun j hj => ?_⟩, W.mk hx hZ hby hml hown hnm hrt hlk hn0 X' Nf e' (fun t q => k t (st' t q))⟩
  simp [newA, hcl, hj]
theorem W.alen (A : W l Z n0 y bytes maxl ret R G h pc Ls (.ref a :: St) C S) (hd : decode bytes pc = .ok (.arraylength, 1)) (F : Ars Z h a ty N f) {z : Int32} (hz : z.toInt = N) (hp : pc + 1 = pc') : W l Z n0 y bytes maxl ret R G h pc' Ls (.int z :: St) C S := by
  subst hp
  obtain ⟨cl, Ar, hs, hN, hv⟩ := F
  have e0 : (0 : Int32).toInt = 0 := rfl
  have hneg : ¬ z < 0 := by rw [Int32.lt_iff_toInt_lt]; omega
  have hcl : cl.slots.size = z.toNatClampNeg := by simp only [Int32.toNatClampNeg]; omega
  exact A.step fun X hx hZ hown q eT r => X.arraylength hx (by rw [eT]; exact Ar.1) (State.isArrayOf_alike hZ.alike Ar.2.1) (g := mkF _ _ _ _) rfl rfl (hb q hd) _ (by rw [len_of hcl hneg]; exact r)
theorem W.iaload {j : Int32} (A : W l Z n0 y bytes maxl ret R G h pc Ls (.int j :: .ref a :: St) C S) (hd : decode bytes pc = .ok (.iaload, 1)) (F : Ars Z h a .int N f) {i : Nat} (hj : j.toInt = i) (hi : i < N) {v : Value} (hv : f i = v) (hp : pc + 1 = pc') : W l Z n0 y bytes maxl ret R G h pc' Ls (v :: St) C S := by
  subst hp
  obtain ⟨cl, Ar, hs, hN, hf⟩ := F
  obtain ⟨q1, q2⟩ := inb hs hj hi
  exact A.step fun X hx hZ hown q eT r => X.iaload hx (by rw [eT]; exact Ar.1) (State.isArrayOf_alike hZ.alike Ar.2.1) Ar.2.2 q1 (by rw [q2, hf i hi, hv]) (g := mkF _ _ _ _) rfl rfl (hb q hd) _ r
theorem W.laload {j : Int32} (A : W l Z n0 y bytes maxl ret R G h pc Ls (.int j :: .ref a :: St) C S) (hd : decode bytes pc = .ok (.laload, 1)) (F : Ars Z h a .long N f) {i : Nat} (hj : j.toInt = i) (hi : i < N) {v : Value} (hv : f i = v) (hp : pc + 1 = pc') : W l Z n0 y bytes maxl ret R G h pc' Ls (v :: St) C S := by
  subst hp
  obtain ⟨cl, Ar, hs, hN, hf⟩ := F
  obtain ⟨q1, q2⟩ := inb hs hj hi
  exact A.step fun X hx hZ hown q eT r => X.laload hx (by rw [eT]; exact Ar.1) (State.isArrayOf_alike hZ.alike Ar.2.1) Ar.2.2 q1 (by rw [q2, hf i hi, hv]) (g := mkF _ _ _ _) rfl rfl (hb q hd) _ r
theorem W.baload {j : Int32} (A : W l Z n0 y bytes maxl ret R G h pc Ls (.int j :: .ref a :: St) C S) (hd : decode bytes pc = .ok (.baload, 1)) (F : Ars Z h a .byte N f) {i : Nat} (hj : j.toInt = i) (hi : i < N) {v : Value} (hv : f i = v) (hp : pc + 1 = pc') : W l Z n0 y bytes maxl ret R G h pc' Ls (v :: St) C S := by
  subst hp
  obtain ⟨cl, Ar, hs, hN, hf⟩ := F
  obtain ⟨q1, q2⟩ := inb hs hj hi
  exact A.step fun X hx hZ hown q eT r => X.baloadBytes hx (by rw [eT]; exact Ar.1) (State.isArrayOf_alike hZ.alike Ar.2.1) Ar.2.2 q1 (by rw [q2, hf i hi, hv]) (g := mkF _ _ _ _) rfl rfl (hb q hd) _ r
theorem W.caload {j : Int32} (A : W l Z n0 y bytes maxl ret R G h pc Ls (.int j :: .ref a :: St) C S) (hd : decode bytes pc = .ok (.caload, 1)) (F : Ars Z h a .char N f) {i : Nat} (hj : j.toInt = i) (hi : i < N) {v : Value} (hv : f i = v) (hp : pc + 1 = pc') : W l Z n0 y bytes maxl ret R G h pc' Ls (v :: St) C S := by
  subst hp
  obtain ⟨cl, Ar, hs, hN, hf⟩ := F
  obtain ⟨q1, q2⟩ := inb hs hj hi
  exact A.step fun X hx hZ hown q eT r => X.caload hx (by rw [eT]; exact Ar.1) (State.isArrayOf_alike hZ.alike Ar.2.1) Ar.2.2 q1 (by rw [q2, hf i hi, hv]) (g := mkF _ _ _ _) rfl rfl (hb q hd) _ r
theorem W.iastore {j x : Int32} (A : W l Z n0 y bytes maxl ret R G h pc Ls (.int x :: .int j :: .ref a :: St) C S) (hd : decode bytes pc = .ok (.iastore, 1)) (F : Ars Z h a .int N f) {i : Nat} (hj : j.toInt = i) (hi : i < N) (ga : n0 ≤ a) (hp : pc + 1 = pc') : ∃ h', Wr h h' a i (.int x) ∧ Ars Z h' a .int N (upd f i (.int x)) ∧ W l Z n0 y bytes maxl ret R G h' pc' Ls St C S := by
  subst hp
  have F0 := F
  obtain ⟨cl, Ar, hs, hN, hf⟩ := F
  obtain ⟨q1, q2⟩ := inb hs hj hi
  obtain ⟨p, e, s, m, args, below, meth, c, st⟩ := G
  obtain ⟨hx, hZ, hby, hml, hown, hnm, hrt, hlk, hn0, T, locs, X, Nf, eT, k⟩ := A
  obtain ⟨T', h', X', e', W', st'⟩ := stI X hx hZ eT Ar q1 (g := mkF m pc Ls _) rfl rfl (hb hby hd)
  rw [q2] at W'
  exact ⟨h', W', F0.same W' hi, W.mk hx hZ hby hml hown hnm hrt hlk hn0 X' (Fr.snoc X' Nf ga) e' (fun t q => k t (st' t q))⟩
theorem W.lastore {j : Int32} {x : Int64} (A : W l Z n0 y bytes maxl ret R G h pc Ls (.long x :: .int j :: .ref a :: St) C S) (hd : decode bytes pc = .ok (.lastore, 1)) (F : Ars Z h a .long N f) {i : Nat} (hj : j.toInt = i) (hi : i < N) (ga : n0 ≤ a) (hp : pc + 1 = pc') : ∃ h', Wr h h' a i (.long x) ∧ Ars Z h' a .long N (upd f i (.long x)) ∧ W l Z n0 y bytes maxl ret R G h' pc' Ls St C S := by
  subst hp
  have F0 := F
  obtain ⟨cl, Ar, hs, hN, hf⟩ := F
  obtain ⟨q1, q2⟩ := inb hs hj hi
  obtain ⟨p, e, s, m, args, below, meth, c, st⟩ := G
  obtain ⟨hx, hZ, hby, hml, hown, hnm, hrt, hlk, hn0, T, locs, X, Nf, eT, k⟩ := A
  obtain ⟨T', h', X', e', W', st'⟩ := stJ X hx hZ eT Ar q1 (g := mkF m pc Ls _) rfl rfl (hb hby hd)
  rw [q2] at W'
  exact ⟨h', W', F0.same W' hi, W.mk hx hZ hby hml hown hnm hrt hlk hn0 X' (Fr.snoc X' Nf ga) e' (fun t q => k t (st' t q))⟩
theorem W.bastore {j x : Int32} (A : W l Z n0 y bytes maxl ret R G h pc Ls (.int x :: .int j :: .ref a :: St) C S) (hd : decode bytes pc = .ok (.bastore, 1)) (F : Ars Z h a .byte N f) {i : Nat} (hj : j.toInt = i) (hi : i < N) (ga : n0 ≤ a) (hp : pc + 1 = pc') : ∃ h', Wr h h' a i (.int x.toInt8.toInt32) ∧ Ars Z h' a .byte N (upd f i (.int x.toInt8.toInt32)) ∧ W l Z n0 y bytes maxl ret R G h' pc' Ls St C S := by
  subst hp
  have F0 := F
  obtain ⟨cl, Ar, hs, hN, hf⟩ := F
  obtain ⟨q1, q2⟩ := inb hs hj hi
  obtain ⟨p, e, s, m, args, below, meth, c, st⟩ := G
  obtain ⟨hx, hZ, hby, hml, hown, hnm, hrt, hlk, hn0, T, locs, X, Nf, eT, k⟩ := A
  obtain ⟨T', h', X', e', W', st'⟩ := stB X hx hZ eT Ar q1 (g := mkF m pc Ls _) rfl rfl (hb hby hd)
  rw [q2] at W'
  exact ⟨h', W', F0.same W' hi, W.mk hx hZ hby hml hown hnm hrt hlk hn0 X' (Fr.snoc X' Nf ga) e' (fun t q => k t (st' t q))⟩
theorem W.castore {j x : Int32} (A : W l Z n0 y bytes maxl ret R G h pc Ls (.int x :: .int j :: .ref a :: St) C S) (hd : decode bytes pc = .ok (.castore, 1)) (F : Ars Z h a .char N f) {i : Nat} (hj : j.toInt = i) (hi : i < N) (ga : n0 ≤ a) (hp : pc + 1 = pc') : ∃ h', Wr h h' a i (.int (nar .char x)) ∧ Ars Z h' a .char N (upd f i (.int (nar .char x))) ∧ W l Z n0 y bytes maxl ret R G h' pc' Ls St C S := by
  subst hp
  have F0 := F
  obtain ⟨cl, Ar, hs, hN, hf⟩ := F
  obtain ⟨q1, q2⟩ := inb hs hj hi
  obtain ⟨p, e, s, m, args, below, meth, c, st⟩ := G
  obtain ⟨hx, hZ, hby, hml, hown, hnm, hrt, hlk, hn0, T, locs, X, Nf, eT, k⟩ := A
  obtain ⟨T', h', X', e', W', st'⟩ := stC X hx hZ eT Ar q1 (g := mkF m pc Ls _) rfl rfl (hb hby hd)
  rw [q2] at W'
  exact ⟨h', W', F0.same W' hi, W.mk hx hZ hby hml hown hnm hrt hlk hn0 X' (Fr.snoc X' Nf ga) e' (fun t q => k t (st' t q))⟩
end Heaps
end Jvm.Pilot.@@N@@
namespace Jvm.Pilot.@@N@@
open Jvm Jvm.ClassFile Sem Op Lib Jvm.Free Jvm.Stand Jvm.LawKit Jvm.RoadKit Bundle Jvm.Pilot.@@N@@.Jvm.D
theorem own_01 (x : Int32) (h : x.toInt = 1 ∨ x.toInt = 0) : x = 1 ∨ x = 0 := h.imp (fun q => Int32.toInt_inj.mp q) (fun q => Int32.toInt_inj.mp q)
theorem own_n0 (x : Int32) (h : x.toInt = 1 ∨ x.toInt = 0) : (nar .boolean (x ||| (0 : Int32))).toInt = x.toInt := by rcases own_01 x h with rfl | rfl <;> decide
theorem own_n1 (x : Int32) (h : x.toInt = 1 ∨ x.toInt = 0) : (nar .boolean (x ||| (1 : Int32))).toInt = 1 := by rcases own_01 x h with rfl | rfl <;> decide
theorem pd_0 : parseMethodDescriptor "(J)V" = some ⟨[.long], none⟩ := by decide +kernel
theorem pd_1 : parseMethodDescriptor "(J[BI)V" = some ⟨[.long, (.array .byte), .int], none⟩ := by decide +kernel
theorem pd_2 : parseMethodDescriptor "(J)Z" = some ⟨[.long], some .boolean⟩ := by decide +kernel
theorem pn1 : plainFor (⟨"com/example/steady_quorum/steadyquorum/server/Session", "<init>", "(J[BI)V"⟩ : MethodName) = true := by first | exact plainFor_of_name (by first | (simp [plainName, overriddenIn]; done) | decide +kernel) | exact Jvm.Free.JP.mathPlain rfl (by decide +kernel) | decide +kernel
theorem d1_0 : decode prog_90_method_1_code 0 = .ok (.aload_n 0, 1) := by decide +kernel
theorem d1_1 : decode prog_90_method_1_code 1 = .ok (.invokespecial 1, 3) := by decide +kernel
theorem d1_4 : decode prog_90_method_1_code 4 = .ok (.aload_n 0, 1) := by decide +kernel
theorem d1_5 : decode prog_90_method_1_code 5 = .ok (.lload_n 1, 1) := by decide +kernel
theorem d1_6 : decode prog_90_method_1_code 6 = .ok (.putfield 7, 3) := by decide +kernel
theorem d1_9 : decode prog_90_method_1_code 9 = .ok (.aload_n 0, 1) := by decide +kernel
theorem d1_10 : decode prog_90_method_1_code 10 = .ok (.aload_n 3, 1) := by decide +kernel
theorem d1_11 : decode prog_90_method_1_code 11 = .ok (.putfield 13, 3) := by decide +kernel
theorem d1_14 : decode prog_90_method_1_code 14 = .ok (.aload_n 0, 1) := by decide +kernel
theorem d1_15 : decode prog_90_method_1_code 15 = .ok (.iload 4, 2) := by decide +kernel
theorem d1_17 : decode prog_90_method_1_code 17 = .ok (.putfield 17, 3) := by decide +kernel
theorem d1_20 : decode prog_90_method_1_code 20 = .ok (.return_, 1) := by decide +kernel
abbrev y1 : MethodName := (⟨"com/example/steady_quorum/steadyquorum/server/Session", "<init>", "(J[BI)V"⟩ : MethodName)
abbrev R1 : Room := { frames := 1, cells := 0, slots := 0, locals := 12 }
set_option maxRecDepth 65536 in
set_option maxHeartbeats 4000000 in
theorem ef1 (a : Addr) (id : Int64) (pw : Addr) (t : Int32) (m : MethodId) : entryFrame m #[(.ref a), (.long id), (.ref pw), (.int t)] 5 = mkF m 0 #[.val (.ref a), .val (.long id), .second, .val (.ref pw), .val (.int t)] [] := by first | (simp [entryFrame, mkF, argsToLocals, Value.category]; done) | rfl
set_option maxRecDepth 65536 in
set_option maxHeartbeats 40000000 in
theorem rm1 (l : Launch) (Z : State) (a0 : Array Value) (hw : ∀ d ∈ tables_1, d.before a0 Z = true) (n0 : Nat) (ws : List Jvm.Cond) (a : Addr) (id : Int64) (pw : Addr) (t : Int32)  (h0 : Heap) (hn0 : n0 ≤ h0.size) (e0 : Exa Z h0 a "com/example/steady_quorum/steadyquorum/server/Session") (e1 : Fld Z h0 a "com/example/steady_quorum/steadyquorum/server/Session" "id" "J" (.long (0 : Int64))) (e2 : Fld Z h0 a "com/example/steady_quorum/steadyquorum/server/Session" "password" "[B" .null) (e3 : Fld Z h0 a "com/example/steady_quorum/steadyquorum/server/Session" "timeoutMillis" "I" (.int (0 : Int32))) (e4 : Fld Z h0 a "com/example/steady_quorum/steadyquorum/server/Session" "deadlineMillis" "J" (.long (0 : Int64))) (e5 : Fld Z h0 a "com/example/steady_quorum/steadyquorum/server/Session" "expiring" "Z" (.int (0 : Int32))) (e6 : n0 ≤ a) :
    Ctr l Z n0 y1 prog_90_method_1_code 5 (none) ws R1 #[(.ref a), (.long id), (.ref pw), (.int t)] h0 (QV fun h => (Keep h0 h [a]) ∧ (Fld Z h a "com/example/steady_quorum/steadyquorum/server/Session" "timeoutMillis" "I" (.int t)) ∧ (Fld Z h a "com/example/steady_quorum/steadyquorum/server/Session" "deadlineMillis" "J" (.long (0 : Int64))) ∧ (Fld Z h a "com/example/steady_quorum/steadyquorum/server/Session" "expiring" "Z" (.int (0 : Int32))) ∧ (True)) := by
  refine ctr_of pn1 hn0 (ef1 a id pw t) fun G A0 => ?_
  have A1 := A0.aloadN (v := (.ref a)) (pc' := 1) d1_0 rfl rfl rfl
  have A2 := A1.initO (pc' := 4) d1_1 (hw _ (List.mem_of_getElem? (i := 7) rfl)) (hw _ (List.mem_of_getElem? (i := 8) rfl)) (hw _ (List.mem_of_getElem? (i := 9) rfl)) rfl (by decide) (Nat.le_of_ble_eq_true rfl) rfl
  have A3 := A2.aloadN (v := (.ref a)) (pc' := 5) d1_4 rfl rfl rfl
  have A4 := A3.lloadN (v := id) (pc' := 6) d1_5 rfl rfl
  obtain ⟨h6, w7, A5⟩ := A4.putF (pc' := 9) (ty := .long) (host := "") d1_6 (Or.inl (hw _ (List.mem_of_getElem? (i := 10) rfl))) Via.refl e1 e0 (Or.inr ⟨(hw _ (List.mem_of_getElem? (i := 11) rfl)), rfl, rfl⟩) (hw _ (List.mem_of_getElem? (i := 1) rfl)) (by decide) rfl rfl e6 rfl
  have f8 := e1.same w7
  have A9 := A5.aloadN (v := (.ref a)) (pc' := 10) d1_9 rfl rfl rfl
  have A10 := A9.aloadN (v := (.ref pw)) (pc' := 11) d1_10 rfl rfl rfl
  have f11 := (e2.other w7 (Or.inr (slot_ne (Or.inr (hw _ (List.mem_of_getElem? (i := 13) rfl))) (Or.inr (hw _ (List.mem_of_getElem? (i := 11) rfl))) (by decide) (t := (.array .byte)) (t' := .long) (by decide) (by decide))))
  have f12 := (e0.wr w7)
  obtain ⟨h14, w15, A13⟩ := A10.putF (pc' := 14) (ty := (.array .byte)) (host := "") d1_11 (Or.inl (hw _ (List.mem_of_getElem? (i := 12) rfl))) Via.refl f11 f12 (Or.inr ⟨(hw _ (List.mem_of_getElem? (i := 13) rfl)), rfl, rfl⟩) (hw _ (List.mem_of_getElem? (i := 1) rfl)) (by decide) rfl rfl e6 rfl
  have f16 := f11.same w15
  have A17 := A13.aloadN (v := (.ref a)) (pc' := 15) d1_14 rfl rfl rfl
  have A18 := A17.iload (v := t) (pc' := 17) d1_15 rfl rfl
  have f19 := ((e3.other w7 (Or.inr (slot_ne (Or.inr (hw _ (List.mem_of_getElem? (i := 15) rfl))) (Or.inr (hw _ (List.mem_of_getElem? (i := 11) rfl))) (by decide) (t := .int) (t' := .long) (by decide) (by decide)))).other w15 (Or.inr (slot_ne (Or.inr (hw _ (List.mem_of_getElem? (i := 15) rfl))) (Or.inr (hw _ (List.mem_of_getElem? (i := 13) rfl))) (by decide) (t := .int) (t' := (.array .byte)) (by decide) (by decide))))
  have f20 := (f12.wr w15)
  obtain ⟨h22, w23, A21⟩ := A18.putF (pc' := 20) (ty := .int) (host := "") d1_17 (Or.inl (hw _ (List.mem_of_getElem? (i := 14) rfl))) Via.refl f19 f20 (Or.inr ⟨(hw _ (List.mem_of_getElem? (i := 15) rfl)), rfl, rfl⟩) (hw _ (List.mem_of_getElem? (i := 1) rfl)) (by decide) rfl rfl e6 rfl
  have f24 := f19.same w23
  have K25 : Keep h0 h22 [a] := ((((Keep.refl h0 [a]).wr w7 (Or.inl (List.mem_of_getElem? (i := 0) rfl))).wr w15 (Or.inl (List.mem_of_getElem? (i := 0) rfl))).wr w23 (Or.inl (List.mem_of_getElem? (i := 0) rfl)))
  have f26 := (((e4.other w7 (Or.inr (slot_ne (Or.inl (hw _ (List.mem_of_getElem? (i := 24) rfl))) (Or.inr (hw _ (List.mem_of_getElem? (i := 11) rfl))) (by decide) (t := .long) (t' := .long) (by decide) (by decide)))).other w15 (Or.inr (slot_ne (Or.inl (hw _ (List.mem_of_getElem? (i := 24) rfl))) (Or.inr (hw _ (List.mem_of_getElem? (i := 13) rfl))) (by decide) (t := .long) (t' := (.array .byte)) (by decide) (by decide)))).other w23 (Or.inr (slot_ne (Or.inl (hw _ (List.mem_of_getElem? (i := 24) rfl))) (Or.inr (hw _ (List.mem_of_getElem? (i := 15) rfl))) (by decide) (t := .long) (t' := .int) (by decide) (by decide))))
  have f27 := (((e5.other w7 (Or.inr (slot_ne (Or.inl (hw _ (List.mem_of_getElem? (i := 22) rfl))) (Or.inr (hw _ (List.mem_of_getElem? (i := 11) rfl))) (by decide) (t := .boolean) (t' := .long) (by decide) (by decide)))).other w15 (Or.inr (slot_ne (Or.inl (hw _ (List.mem_of_getElem? (i := 22) rfl))) (Or.inr (hw _ (List.mem_of_getElem? (i := 13) rfl))) (by decide) (t := .boolean) (t' := (.array .byte)) (by decide) (by decide)))).other w23 (Or.inr (slot_ne (Or.inl (hw _ (List.mem_of_getElem? (i := 22) rfl))) (Or.inr (hw _ (List.mem_of_getElem? (i := 15) rfl))) (by decide) (t := .boolean) (t' := .int) (by decide) (by decide))))
  refine A21.retV d1_20 (by decide) (by decide) ⟨rfl, ⟨K25, f24, f26, f27, ?_⟩⟩
  trivial
theorem pn4 : plainFor (⟨"com/example/steady_quorum/steadyquorum/server/Session", "heardAt", "(J)V"⟩ : MethodName) = true := by first | exact plainFor_of_name (by first | (simp [plainName, overriddenIn]; done) | decide +kernel) | exact Jvm.Free.JP.mathPlain rfl (by decide +kernel) | decide +kernel
theorem d4_0 : decode prog_90_method_8_code 0 = .ok (.aload_n 0, 1) := by decide +kernel
theorem d4_1 : decode prog_90_method_8_code 1 = .ok (.lload_n 1, 1) := by decide +kernel
theorem d4_2 : decode prog_90_method_8_code 2 = .ok (.aload_n 0, 1) := by decide +kernel
theorem d4_3 : decode prog_90_method_8_code 3 = .ok (.getfield 17, 3) := by decide +kernel
theorem d4_6 : decode prog_90_method_8_code 6 = .ok (.i2l, 1) := by decide +kernel
theorem d4_7 : decode prog_90_method_8_code 7 = .ok (.ladd, 1) := by decide +kernel
theorem d4_8 : decode prog_90_method_8_code 8 = .ok (.putfield 30, 3) := by decide +kernel
theorem d4_11 : decode prog_90_method_8_code 11 = .ok (.return_, 1) := by decide +kernel
abbrev y4 : MethodName := (⟨"com/example/steady_quorum/steadyquorum/server/Session", "heardAt", "(J)V"⟩ : MethodName)
abbrev R4 : Room := { frames := 0, cells := 0, slots := 0, locals := 0 }
set_option maxRecDepth 65536 in
set_option maxHeartbeats 4000000 in
theorem ef4 (a : Addr) (q : Int64) (m : MethodId) : entryFrame m #[(.ref a), (.long q)] 3 = mkF m 0 #[.val (.ref a), .val (.long q), .second] [] := by first | (simp [entryFrame, mkF, argsToLocals, Value.category]; done) | rfl
set_option maxRecDepth 65536 in
set_option maxHeartbeats 40000000 in
theorem rm4 (l : Launch) (Z : State) (a0 : Array Value) (hw : ∀ d ∈ tables_1, d.before a0 Z = true) (n0 : Nat) (ws : List Jvm.Cond) (a : Addr) (q : Int64) (t : Int32) (d : Int64) (x : Int32) (h0 : Heap) (hn0 : n0 ≤ h0.size) (e0 : Exa Z h0 a "com/example/steady_quorum/steadyquorum/server/Session") (e1 : n0 ≤ a) (e2 : Fld Z h0 a "com/example/steady_quorum/steadyquorum/server/Session" "timeoutMillis" "I" (.int t)) (e3 : Fld Z h0 a "com/example/steady_quorum/steadyquorum/server/Session" "deadlineMillis" "J" (.long d)) (e4 : Fld Z h0 a "com/example/steady_quorum/steadyquorum/server/Session" "expiring" "Z" (.int x)) :
    Ctr l Z n0 y4 prog_90_method_8_code 3 (none) ws R4 #[(.ref a), (.long q)] h0 (QV fun h => (Keep h0 h [a]) ∧ (Fld Z h a "com/example/steady_quorum/steadyquorum/server/Session" "timeoutMillis" "I" (.int t)) ∧ (Fld Z h a "com/example/steady_quorum/steadyquorum/server/Session" "deadlineMillis" "J" (.long (q + t.toInt64))) ∧ (Fld Z h a "com/example/steady_quorum/steadyquorum/server/Session" "expiring" "Z" (.int x)) ∧ (True)) := by
  refine ctr_of pn4 hn0 (ef4 a q) fun G A0 => ?_
  have A1 := A0.aloadN (v := (.ref a)) (pc' := 1) d4_0 rfl rfl rfl
  have A2 := A1.lloadN (v := q) (pc' := 2) d4_1 rfl rfl
  have A3 := A2.aloadN (v := (.ref a)) (pc' := 3) d4_2 rfl rfl rfl
  have A4 := A3.getF (pc' := 6) (host := "") d4_3 (Or.inl (hw _ (List.mem_of_getElem? (i := 14) rfl))) Via.refl e2 rfl
  have A5 := A4.i2l (pc' := 7) d4_6 rfl
  have A6 := A5.ladd (pc' := 8) d4_7 rfl
  obtain ⟨h8, w9, A7⟩ := A6.putF (pc' := 11) (ty := .long) (host := "") d4_8 (Or.inl (hw _ (List.mem_of_getElem? (i := 23) rfl))) Via.refl e3 e0 (Or.inl (hw _ (List.mem_of_getElem? (i := 24) rfl))) (hw _ (List.mem_of_getElem? (i := 1) rfl)) (by decide) rfl rfl e1 rfl
  have f10 := e3.same w9
  have K11 : Keep h0 h8 [a] := ((Keep.refl h0 [a]).wr w9 (Or.inl (List.mem_of_getElem? (i := 0) rfl)))
  have f12 := (e2.other w9 (Or.inr (slot_ne (Or.inr (hw _ (List.mem_of_getElem? (i := 15) rfl))) (Or.inl (hw _ (List.mem_of_getElem? (i := 24) rfl))) (by decide) (t := .int) (t' := .long) (by decide) (by decide))))
  have f13 := (e4.other w9 (Or.inr (slot_ne (Or.inl (hw _ (List.mem_of_getElem? (i := 22) rfl))) (Or.inl (hw _ (List.mem_of_getElem? (i := 24) rfl))) (by decide) (t := .boolean) (t' := .long) (by decide) (by decide))))
  refine A7.retV d4_11 (by decide) (by decide) ⟨rfl, ⟨K11, f12, f10, f13, ?_⟩⟩
  trivial
theorem pn5 : plainFor (⟨"com/example/steady_quorum/steadyquorum/server/Session", "restartAt", "(J)V"⟩ : MethodName) = true := by first | exact plainFor_of_name (by first | (simp [plainName, overriddenIn]; done) | decide +kernel) | exact Jvm.Free.JP.mathPlain rfl (by decide +kernel) | decide +kernel
theorem d5_0 : decode prog_90_method_9_code 0 = .ok (.aload_n 0, 1) := by decide +kernel
theorem d5_1 : decode prog_90_method_9_code 1 = .ok (.lload_n 1, 1) := by decide +kernel
theorem d5_2 : decode prog_90_method_9_code 2 = .ok (.invokevirtual 33, 3) := by decide +kernel
theorem d5_5 : decode prog_90_method_9_code 5 = .ok (.aload_n 0, 1) := by decide +kernel
theorem d5_6 : decode prog_90_method_9_code 6 = .ok (.iconst 0, 1) := by decide +kernel
theorem d5_7 : decode prog_90_method_9_code 7 = .ok (.putfield 37, 3) := by decide +kernel
theorem d5_10 : decode prog_90_method_9_code 10 = .ok (.return_, 1) := by decide +kernel
abbrev y5 : MethodName := (⟨"com/example/steady_quorum/steadyquorum/server/Session", "restartAt", "(J)V"⟩ : MethodName)
abbrev R5 : Room := { frames := 1, cells := 0, slots := 0, locals := 14 }
set_option maxRecDepth 65536 in
set_option maxHeartbeats 4000000 in
theorem ef5 (a : Addr) (q : Int64) (m : MethodId) : entryFrame m #[(.ref a), (.long q)] 3 = mkF m 0 #[.val (.ref a), .val (.long q), .second] [] := by first | (simp [entryFrame, mkF, argsToLocals, Value.category]; done) | rfl
set_option maxRecDepth 65536 in
set_option maxHeartbeats 40000000 in
theorem rm5 (l : Launch) (Z : State) (a0 : Array Value) (hw : ∀ d ∈ tables_1, d.before a0 Z = true) (n0 : Nat) (ws : List Jvm.Cond) (a : Addr) (q : Int64) (t : Int32) (d : Int64) (x : Int32) (h0 : Heap) (hn0 : n0 ≤ h0.size) (e0 : Exa Z h0 a "com/example/steady_quorum/steadyquorum/server/Session") (e1 : n0 ≤ a) (e2 : Fld Z h0 a "com/example/steady_quorum/steadyquorum/server/Session" "timeoutMillis" "I" (.int t)) (e3 : Fld Z h0 a "com/example/steady_quorum/steadyquorum/server/Session" "deadlineMillis" "J" (.long d)) (e4 : Fld Z h0 a "com/example/steady_quorum/steadyquorum/server/Session" "expiring" "Z" (.int x)) :
    Ctr l Z n0 y5 prog_90_method_9_code 3 (none) ws R5 #[(.ref a), (.long q)] h0 (QV fun h => (Keep h0 h [a]) ∧ (Fld Z h a "com/example/steady_quorum/steadyquorum/server/Session" "timeoutMillis" "I" (.int t)) ∧ (Fld Z h a "com/example/steady_quorum/steadyquorum/server/Session" "deadlineMillis" "J" (.long (q + t.toInt64))) ∧ (Fld Z h a "com/example/steady_quorum/steadyquorum/server/Session" "expiring" "Z" (.int (0 : Int32))) ∧ (True)) := by
  refine ctr_of pn5 hn0 (ef5 a q) fun G A0 => ?_
  have A1 := A0.aloadN (v := (.ref a)) (pc' := 1) d5_0 rfl rfl rfl
  have A2 := A1.lloadN (v := q) (pc' := 2) d5_1 rfl rfl
  obtain ⟨h6, ⟨K7, f8, f9, f10, q5⟩, A3⟩ := W.kV (A2.callV (a := a) (argsL := [(.long q)]) (rest := []) (C' := 0) (S' := 0) (pc' := 5) d5_2 e0 (hw _ (List.mem_of_getElem? (i := 35) rfl)) (hw _ (List.mem_of_getElem? (i := 26) rfl)) (fun hZ => notFace_of_selects (args := #[]) (mvT hZ (hw _ (List.mem_of_getElem? (i := 28) rfl)))) (hw _ (List.mem_of_getElem? (i := 28) rfl)) (hw _ (List.mem_of_getElem? (i := 27) rfl)) (hw _ (List.mem_of_getElem? (i := 2) rfl)) (hw _ (List.mem_of_getElem? (i := 29) rfl)) (rm4 l Z a0 hw n0 [] (a) (q) (t) (d) (x) h0 A2.size e0 e1 e2 e3 e4) rfl rfl pd_0 rfl rfl (by decide) (by decide) (Nat.le_of_ble_eq_true rfl) (by decide) (by decide) rfl rfl rfl)
  have A11 := A3.aloadN (v := (.ref a)) (pc' := 6) d5_5 rfl rfl rfl
  have A12 := A11.iconst (z := (0 : Int32)) (pc' := 7) d5_6 rfl rfl
  have f13 := (e0.keep K7)
  obtain ⟨h15, w16, A14⟩ := A12.putFN (pc' := 10) (ty := .boolean) (v' := (.int (0 : Int32))) d5_7 (hw _ (List.mem_of_getElem? (i := 21) rfl)) Via.refl f10 f13 (Or.inl (hw _ (List.mem_of_getElem? (i := 22) rfl))) (hw _ (List.mem_of_getElem? (i := 1) rfl)) (by decide) rfl rfl e1 rfl
  have f17 := f10.same w16
  have K18 : Keep h0 h15 [a] := (((Keep.refl h0 [a]).trans K7 (allS (Or.inl (List.mem_of_getElem? (i := 0) rfl)) all0)).wr w16 (Or.inl (List.mem_of_getElem? (i := 0) rfl)))
  have f19 := (f8.other w16 (Or.inr (slot_ne (Or.inr (hw _ (List.mem_of_getElem? (i := 15) rfl))) (Or.inl (hw _ (List.mem_of_getElem? (i := 22) rfl))) (by decide) (t := .int) (t' := .boolean) (by decide) (by decide))))
  have f20 := (f9.other w16 (Or.inr (slot_ne (Or.inl (hw _ (List.mem_of_getElem? (i := 24) rfl))) (Or.inl (hw _ (List.mem_of_getElem? (i := 22) rfl))) (by decide) (t := .long) (t' := .boolean) (by decide) (by decide))))
  refine A14.retV d5_10 (by decide) (by decide) ⟨rfl, ⟨K18, f19, f20, f17, ?_⟩⟩
  trivial
theorem pn3 : plainFor (⟨"com/example/steady_quorum/steadyquorum/server/Session", "expireBy", "(J)Z"⟩ : MethodName) = true := by first | exact plainFor_of_name (by first | (simp [plainName, overriddenIn]; done) | decide +kernel) | exact Jvm.Free.JP.mathPlain rfl (by decide +kernel) | decide +kernel
theorem d3_0 : decode prog_90_method_10_code 0 = .ok (.aload_n 0, 1) := by decide +kernel
theorem d3_1 : decode prog_90_method_10_code 1 = .ok (.getfield 37, 3) := by decide +kernel
theorem d3_4 : decode prog_90_method_10_code 4 = .ok (.ifCond .ne 16, 3) := by decide +kernel
theorem d3_7 : decode prog_90_method_10_code 7 = .ok (.lload_n 1, 1) := by decide +kernel
theorem d3_8 : decode prog_90_method_10_code 8 = .ok (.aload_n 0, 1) := by decide +kernel
theorem d3_9 : decode prog_90_method_10_code 9 = .ok (.getfield 30, 3) := by decide +kernel
theorem d3_12 : decode prog_90_method_10_code 12 = .ok (.lcmp, 1) := by decide +kernel
theorem d3_13 : decode prog_90_method_10_code 13 = .ok (.ifCond .lt 7, 3) := by decide +kernel
theorem d3_16 : decode prog_90_method_10_code 16 = .ok (.iconst 1, 1) := by decide +kernel
theorem d3_17 : decode prog_90_method_10_code 17 = .ok (.goto 4, 3) := by decide +kernel
theorem d3_20 : decode prog_90_method_10_code 20 = .ok (.iconst 0, 1) := by decide +kernel
theorem d3_21 : decode prog_90_method_10_code 21 = .ok (.istore_n 3, 1) := by decide +kernel
theorem d3_22 : decode prog_90_method_10_code 22 = .ok (.aload_n 0, 1) := by decide +kernel
theorem d3_23 : decode prog_90_method_10_code 23 = .ok (.dup, 1) := by decide +kernel
theorem d3_24 : decode prog_90_method_10_code 24 = .ok (.getfield 37, 3) := by decide +kernel
theorem d3_27 : decode prog_90_method_10_code 27 = .ok (.iload_n 3, 1) := by decide +kernel
theorem d3_28 : decode prog_90_method_10_code 28 = .ok (.ior, 1) := by decide +kernel
theorem d3_29 : decode prog_90_method_10_code 29 = .ok (.putfield 37, 3) := by decide +kernel
theorem d3_32 : decode prog_90_method_10_code 32 = .ok (.iload_n 3, 1) := by decide +kernel
theorem d3_33 : decode prog_90_method_10_code 33 = .ok (.ireturn, 1) := by decide +kernel
abbrev y3 : MethodName := (⟨"com/example/steady_quorum/steadyquorum/server/Session", "expireBy", "(J)Z"⟩ : MethodName)
abbrev R3 : Room := { frames := 0, cells := 0, slots := 0, locals := 0 }
set_option maxRecDepth 65536 in
set_option maxHeartbeats 4000000 in
theorem ef3 (a : Addr) (n : Int64) (m : MethodId) : entryFrame m #[(.ref a), (.long n)] 4 = mkF m 0 #[.val (.ref a), .val (.long n), .second, .unset] [] := by first | (simp [entryFrame, mkF, argsToLocals, Value.category]; done) | rfl
set_option maxRecDepth 65536 in
set_option maxHeartbeats 40000000 in
theorem rm3 (l : Launch) (Z : State) (a0 : Array Value) (hw : ∀ d ∈ tables_1, d.before a0 Z = true) (n0 : Nat) (ws : List Jvm.Cond) (a : Addr) (n : Int64) (t : Int32) (d : Int64) (x : Int32) (h0 : Heap) (hn0 : n0 ≤ h0.size) (e0 : Exa Z h0 a "com/example/steady_quorum/steadyquorum/server/Session") (e1 : n0 ≤ a) (e2 : Fld Z h0 a "com/example/steady_quorum/steadyquorum/server/Session" "timeoutMillis" "I" (.int t)) (e3 : Fld Z h0 a "com/example/steady_quorum/steadyquorum/server/Session" "deadlineMillis" "J" (.long d)) (e4 : Fld Z h0 a "com/example/steady_quorum/steadyquorum/server/Session" "expiring" "Z" (.int x)) (e5 : x.toInt = 1 ∨ x.toInt = 0) :
    Ctr l Z n0 y3 prog_90_method_10_code 4 (some .boolean) ws R3 #[(.ref a), (.long n)] h0 (QI fun r h => ∃ x2 : Int32, (Keep h0 h [a]) ∧ (Fld Z h a "com/example/steady_quorum/steadyquorum/server/Session" "timeoutMillis" "I" (.int t)) ∧ (Fld Z h a "com/example/steady_quorum/steadyquorum/server/Session" "deadlineMillis" "J" (.long d)) ∧ (Fld Z h a "com/example/steady_quorum/steadyquorum/server/Session" "expiring" "Z" (.int x2)) ∧ ((x2.toInt = 1 ∨ x2.toInt = 0) ∧ ((r.toInt = 1 ∧ x.toInt = 0 ∧ d.toInt ≤ n.toInt ∧ x2.toInt = 1) ∨ (r.toInt = 0 ∧ ¬ (x.toInt = 0 ∧ d.toInt ≤ n.toInt) ∧ x2.toInt = x.toInt)))) := by
  refine ctr_of pn3 hn0 (ef3 a n) fun G A0 => ?_
  have A1 := A0.aloadN (v := (.ref a)) (pc' := 1) d3_0 rfl rfl rfl
  have A2 := A1.getF (pc' := 4) (host := "") d3_1 (Or.inl (hw _ (List.mem_of_getElem? (i := 21) rfl))) Via.refl e4 rfl
  by_cases c3 : x.toInt = 0
  · have A4 := A2.ifNo (pc' := 7) d3_4 (teq (ieq (x := x) (y := (0 : Int32)) rfl rfl c3)).2 rfl
    have A5 := A4.lloadN (v := n) (pc' := 8) d3_7 rfl rfl
    have A6 := A5.aloadN (v := (.ref a)) (pc' := 9) d3_8 rfl rfl rfl
    have A7 := A6.getF (pc' := 12) (host := "") d3_9 (Or.inl (hw _ (List.mem_of_getElem? (i := 23) rfl))) Via.refl e3 rfl
    have A8 := A7.lcmp (pc' := 13) d3_12 rfl
    by_cases c9 : n.toInt < d.toInt
    · have A10 := A8.ifYes (pc' := 20) d3_13 (tlt (llt (x := n) (y := d) rfl rfl c9)).1 (by decide) (by decide)
      have A11 := A10.iconst (z := (0 : Int32)) (pc' := 21) d3_20 rfl rfl
      have A12 := A11.istoreN (Ls' := #[.val (.ref a), .val (.long n), .second, .val (.int (0 : Int32))]) (pc' := 22) d3_21 rfl rfl
      have A13 := A12.aloadN (v := (.ref a)) (pc' := 23) d3_22 rfl rfl rfl
      have A14 := A13.dup (pc' := 24) d3_23 rfl rfl
      have A15 := A14.getF (pc' := 27) (host := "") d3_24 (Or.inl (hw _ (List.mem_of_getElem? (i := 21) rfl))) Via.refl e4 rfl
      have A16 := A15.iloadN (v := (0 : Int32)) (pc' := 28) d3_27 rfl rfl
      have A17 := A16.ior (pc' := 29) d3_28 rfl
      obtain ⟨h19, w20, A18⟩ := A17.putFN (pc' := 32) (ty := .boolean) (v' := (.int (nar .boolean (x ||| (0 : Int32))))) d3_29 (hw _ (List.mem_of_getElem? (i := 21) rfl)) Via.refl e4 e0 (Or.inl (hw _ (List.mem_of_getElem? (i := 22) rfl))) (hw _ (List.mem_of_getElem? (i := 1) rfl)) (by decide) rfl (fits_nar_bool _) e1 rfl
      have f21 := e4.same w20
      have A22 := A18.iloadN (v := (0 : Int32)) (pc' := 33) d3_32 rfl rfl
      have K23 : Keep h0 h19 [a] := ((Keep.refl h0 [a]).wr w20 (Or.inl (List.mem_of_getElem? (i := 0) rfl)))
      have f24 := (e2.other w20 (Or.inr (slot_ne (Or.inr (hw _ (List.mem_of_getElem? (i := 15) rfl))) (Or.inl (hw _ (List.mem_of_getElem? (i := 22) rfl))) (by decide) (t := .int) (t' := .boolean) (by decide) (by decide))))
      have f25 := (e3.other w20 (Or.inr (slot_ne (Or.inl (hw _ (List.mem_of_getElem? (i := 24) rfl))) (Or.inl (hw _ (List.mem_of_getElem? (i := 22) rfl))) (by decide) (t := .long) (t' := .boolean) (by decide) (by decide))))
      refine A22.retN (t := .boolean) (z' := (0 : Int32)) d3_33 (by decide) (by decide) (by simp) rfl ⟨_, rfl, ⟨(nar .boolean (x ||| (0 : Int32))), K23, f24, f25, f21, ?_⟩⟩
      have e1 : (0 : Int32).toInt = 0 := rfl
      have q1 := own_n0 x (by assumption)
      have q2 := own_n1 x (by assumption)
      omega
    · have A26 := A8.ifNo (pc' := 16) d3_13 (flt (lnlt (x := n) (y := d) rfl rfl c9)).1 rfl
      have A27 := A26.iconst (z := (1 : Int32)) (pc' := 17) d3_16 rfl rfl
      have A28 := A27.goto (pc' := 21) d3_17 (by decide) (by decide)
      have A29 := A28.istoreN (Ls' := #[.val (.ref a), .val (.long n), .second, .val (.int (1 : Int32))]) (pc' := 22) d3_21 rfl rfl
      have A30 := A29.aloadN (v := (.ref a)) (pc' := 23) d3_22 rfl rfl rfl
      have A31 := A30.dup (pc' := 24) d3_23 rfl rfl
      have A32 := A31.getF (pc' := 27) (host := "") d3_24 (Or.inl (hw _ (List.mem_of_getElem? (i := 21) rfl))) Via.refl e4 rfl
      have A33 := A32.iloadN (v := (1 : Int32)) (pc' := 28) d3_27 rfl rfl
      have A34 := A33.ior (pc' := 29) d3_28 rfl
      obtain ⟨h36, w37, A35⟩ := A34.putFN (pc' := 32) (ty := .boolean) (v' := (.int (nar .boolean (x ||| (1 : Int32))))) d3_29 (hw _ (List.mem_of_getElem? (i := 21) rfl)) Via.refl e4 e0 (Or.inl (hw _ (List.mem_of_getElem? (i := 22) rfl))) (hw _ (List.mem_of_getElem? (i := 1) rfl)) (by decide) rfl (fits_nar_bool _) e1 rfl
      have f38 := e4.same w37
      have A39 := A35.iloadN (v := (1 : Int32)) (pc' := 33) d3_32 rfl rfl
      have K40 : Keep h0 h36 [a] := ((Keep.refl h0 [a]).wr w37 (Or.inl (List.mem_of_getElem? (i := 0) rfl)))
      have f41 := (e2.other w37 (Or.inr (slot_ne (Or.inr (hw _ (List.mem_of_getElem? (i := 15) rfl))) (Or.inl (hw _ (List.mem_of_getElem? (i := 22) rfl))) (by decide) (t := .int) (t' := .boolean) (by decide) (by decide))))
      have f42 := (e3.other w37 (Or.inr (slot_ne (Or.inl (hw _ (List.mem_of_getElem? (i := 24) rfl))) (Or.inl (hw _ (List.mem_of_getElem? (i := 22) rfl))) (by decide) (t := .long) (t' := .boolean) (by decide) (by decide))))
      refine A39.retN (t := .boolean) (z' := (1 : Int32)) d3_33 (by decide) (by decide) (by simp) rfl ⟨_, rfl, ⟨(nar .boolean (x ||| (1 : Int32))), K40, f41, f42, f38, ?_⟩⟩
      have e1 : (1 : Int32).toInt = 1 := rfl
      have q1 := own_n0 x (by assumption)
      have q2 := own_n1 x (by assumption)
      omega
  · have A43 := A2.ifYes (pc' := 20) d3_4 (feq (ine (x := x) (y := (0 : Int32)) rfl rfl c3)).2 (by decide) (by decide)
    have A44 := A43.iconst (z := (0 : Int32)) (pc' := 21) d3_20 rfl rfl
    have A45 := A44.istoreN (Ls' := #[.val (.ref a), .val (.long n), .second, .val (.int (0 : Int32))]) (pc' := 22) d3_21 rfl rfl
    have A46 := A45.aloadN (v := (.ref a)) (pc' := 23) d3_22 rfl rfl rfl
    have A47 := A46.dup (pc' := 24) d3_23 rfl rfl
    have A48 := A47.getF (pc' := 27) (host := "") d3_24 (Or.inl (hw _ (List.mem_of_getElem? (i := 21) rfl))) Via.refl e4 rfl
    have A49 := A48.iloadN (v := (0 : Int32)) (pc' := 28) d3_27 rfl rfl
    have A50 := A49.ior (pc' := 29) d3_28 rfl
    obtain ⟨h52, w53, A51⟩ := A50.putFN (pc' := 32) (ty := .boolean) (v' := (.int (nar .boolean (x ||| (0 : Int32))))) d3_29 (hw _ (List.mem_of_getElem? (i := 21) rfl)) Via.refl e4 e0 (Or.inl (hw _ (List.mem_of_getElem? (i := 22) rfl))) (hw _ (List.mem_of_getElem? (i := 1) rfl)) (by decide) rfl (fits_nar_bool _) e1 rfl
    have f54 := e4.same w53
    have A55 := A51.iloadN (v := (0 : Int32)) (pc' := 33) d3_32 rfl rfl
    have K56 : Keep h0 h52 [a] := ((Keep.refl h0 [a]).wr w53 (Or.inl (List.mem_of_getElem? (i := 0) rfl)))
    have f57 := (e2.other w53 (Or.inr (slot_ne (Or.inr (hw _ (List.mem_of_getElem? (i := 15) rfl))) (Or.inl (hw _ (List.mem_of_getElem? (i := 22) rfl))) (by decide) (t := .int) (t' := .boolean) (by decide) (by decide))))
    have f58 := (e3.other w53 (Or.inr (slot_ne (Or.inl (hw _ (List.mem_of_getElem? (i := 24) rfl))) (Or.inl (hw _ (List.mem_of_getElem? (i := 22) rfl))) (by decide) (t := .long) (t' := .boolean) (by decide) (by decide))))
    refine A55.retN (t := .boolean) (z' := (0 : Int32)) d3_33 (by decide) (by decide) (by simp) rfl ⟨_, rfl, ⟨(nar .boolean (x ||| (0 : Int32))), K56, f57, f58, f54, ?_⟩⟩
    have e1 : (0 : Int32).toInt = 0 := rfl
    have q1 := own_n0 x (by assumption)
    have q2 := own_n1 x (by assumption)
    omega
theorem pn0 : plainFor x = true := plainFor_of_name (by first | (simp [plainName, overriddenIn, x]; done) | decide +kernel)
abbrev y0 : MethodName := x
abbrev R0 : Room := room_1
set_option maxRecDepth 65536 in
set_option maxHeartbeats 4000000 in
theorem ef0 (hh : Int64) (t : Int32) (n1 : Int64) (n2 : Int64) (n3 : Int64) (flags : Int32) (m : MethodId) : entryFrame m #[(.long hh), (.int t), (.long n1), (.long n2), (.long n3), (.int flags)] maxLocals = mkF m 0 #[.val (.long hh), .second, .val (.int t), .val (.long n1), .second, .val (.long n2), .second, .val (.long n3), .second, .val (.int flags), .unset, .unset, .unset, .unset, .unset, .unset, .unset, .unset, .unset, .unset, .unset, .unset, .unset] [] := by first | (simp [entryFrame, mkF, argsToLocals, Value.category, maxLocals]; done) | rfl
set_option maxRecDepth 65536 in
set_option maxHeartbeats 40000000 in
theorem rm0 (l : Launch) (Z : State) (a0 : Array Value) (hw : ∀ d ∈ tables_1, d.before a0 Z = true) (n0 : Nat) (ws : List Jvm.Cond) (hh : Int64) (t : Int32) (n1 : Int64) (n2 : Int64) (n3 : Int64) (flags : Int32)  (h0 : Heap) (hn0 : n0 ≤ h0.size)  :
    Ctr l Z n0 y0 code maxLocals ret ws R0 #[(.long hh), (.int t), (.long n1), (.long n2), (.long n3), (.int flags)] h0 (QI fun r h => (True) ∧ (r = 1)) := by
  refine ctr_of pn0 hn0 (ef0 hh t n1 n2 n3 flags) fun G A0 => ?_
  have k0 : (0 : Int32).toInt = 0 := rfl
  have k1 : (0 : Int64).toInt = 0 := rfl
  obtain ⟨h1, b2, eb3, g4, E5, X6, D7, A8⟩ := A0.newO (C' := 1) (S' := 6) (pc' := 3) at_0 (hw _ (List.mem_of_getElem? (i := 0) rfl)) (hw _ (List.mem_of_getElem? (i := 1) rfl)) (hw _ (List.mem_of_getElem? (i := 2) rfl)) (by decide) (by decide) rfl rfl rfl
  have f9 : Fld Z h1 b2 "com/example/steady_quorum/steadyquorum/server/Session" "id" "J" (.long (0 : Int64)) := D7 (Or.inr (hw _ (List.mem_of_getElem? (i := 11) rfl))) (ty := .long) (by decide)
  have f10 : Fld Z h1 b2 "com/example/steady_quorum/steadyquorum/server/Session" "password" "[B" .null := D7 (Or.inr (hw _ (List.mem_of_getElem? (i := 13) rfl))) (ty := (.array .byte)) (by decide)
  have f11 : Fld Z h1 b2 "com/example/steady_quorum/steadyquorum/server/Session" "timeoutMillis" "I" (.int (0 : Int32)) := D7 (Or.inr (hw _ (List.mem_of_getElem? (i := 15) rfl))) (ty := .int) (by decide)
  have f12 : Fld Z h1 b2 "com/example/steady_quorum/steadyquorum/server/Session" "expiring" "Z" (.int (0 : Int32)) := D7 (Or.inl (hw _ (List.mem_of_getElem? (i := 22) rfl))) (ty := .boolean) (by decide)
  have f13 : Fld Z h1 b2 "com/example/steady_quorum/steadyquorum/server/Session" "deadlineMillis" "J" (.long (0 : Int64)) := D7 (Or.inl (hw _ (List.mem_of_getElem? (i := 24) rfl))) (ty := .long) (by decide)
  have A14 := A8.dup (pc' := 4) at_3 rfl rfl
  have A15 := A14.lconst (z := (0 : Int64)) (pc' := 5) at_4 rfl rfl
  have A16 := A15.iconst (z := (0 : Int32)) (pc' := 6) at_5 rfl rfl
  obtain ⟨h17, b18, eb19, g20, E21, X22, A23⟩ := A16.newP (z := (0 : Int32)) (N := 0) (cap := 0) (C' := 2) (S' := 6) (pc' := 8) at_6 (hw _ (List.mem_of_getElem? (i := 3) rfl)) rfl (by decide) (by decide) (by decide) (by decide) rfl rfl rfl
  have ne24 : b2 ≠ b18 := Nat.ne_of_lt (Nat.lt_of_lt_of_le X6.lt (Nat.le_of_eq eb19.symm))
  change Ars Z h17 b18 .byte 0 (fun _ => (.int (0 : Int32))) at X22
  have A25 := A23.iloadN (v := t) (pc' := 9) at_8 rfl rfl
  have f26 := (X6.ext E21)
  have f27 := (f9.ext E21)
  have f28 := (f10.ext E21)
  have f29 := (f11.ext E21)
  have f30 := (f13.ext E21)
  have f31 := (f12.ext E21)
  obtain ⟨h35, ⟨K36, f37, f38, f39, q34⟩, A32⟩ := W.kV (A25.callI (a := b2) (argsL := [(.long (0 : Int64)), (.ref b18), (.int t)]) (rest := [(.ref b2)]) (C' := 2) (S' := 6) (pc' := 12) at_9 rfl (hw _ (List.mem_of_getElem? (i := 4) rfl)) (hw _ (List.mem_of_getElem? (i := 5) rfl)) (hw _ (List.mem_of_getElem? (i := 2) rfl)) (hw _ (List.mem_of_getElem? (i := 6) rfl)) (rm1 l Z a0 hw n0 [] (b2) ((0 : Int64)) (b18) (t)  h17 A25.size f26 f27 f28 f29 f30 f31 g4) rfl rfl pd_1 rfl rfl (by decide) (by decide) (Nat.le_of_ble_eq_true rfl) (by decide) (by decide) rfl rfl rfl)
  have A40 := A32.astore (Ls' := #[.val (.long hh), .second, .val (.int t), .val (.long n1), .second, .val (.long n2), .second, .val (.long n3), .second, .val (.int flags), .val (.ref b2), .unset, .unset, .unset, .unset, .unset, .unset, .unset, .unset, .unset, .unset, .unset, .unset]) (pc' := 14) at_12 rfl rfl rfl
  have A41 := A40.lconst (z := (0 : Int64)) (pc' := 15) at_14 rfl rfl
  have A42 := A41.lstore (Ls' := #[.val (.long hh), .second, .val (.int t), .val (.long n1), .second, .val (.long n2), .second, .val (.long n3), .second, .val (.int flags), .val (.ref b2), .val (.long (0 : Int64)), .second, .unset, .unset, .unset, .unset, .unset, .unset, .unset, .unset, .unset, .unset]) (pc' := 17) at_15 rfl rfl
  have A43 := A42.iload (v := flags) (pc' := 19) at_17 rfl rfl
  have A44 := A43.iconst (z := (1 : Int32)) (pc' := 20) at_19 rfl rfl
  have A45 := A44.iand (pc' := 21) at_20 rfl
  have join47 : ∀ (v67 : Int64) (v72 : Int64) (h68 : Heap) (q75 : (((flags &&& (1 : Int32)).toInt = 0) ∧ v67.toInt = 0 ∧ v72.toInt = 0) ∨ ((¬ ((flags &&& (1 : Int32)).toInt = 0)) ∧ v67.toInt = (hh + t.toInt64).toInt ∧ v72.toInt = (hh + t.toInt64).toInt)) (f69 : Exa Z h68 b2 "com/example/steady_quorum/steadyquorum/server/Session") (f70 : Ars Z h68 b18 .byte 0 (fun _ => (.int (0 : Int32)))) (f71 : Fld Z h68 b2 "com/example/steady_quorum/steadyquorum/server/Session" "timeoutMillis" "I" (.int t)) (f73 : Fld Z h68 b2 "com/example/steady_quorum/steadyquorum/server/Session" "deadlineMillis" "J" (.long v72)) (f74 : Fld Z h68 b2 "com/example/steady_quorum/steadyquorum/server/Session" "expiring" "Z" (.int (0 : Int32))), W l Z n0 y0 code maxLocals ret R0 G h68 36 #[.val (.long hh), .second, .val (.int t), .val (.long n1), .second, .val (.long n2), .second, .val (.long n3), .second, .val (.int flags), .val (.ref b2), .val (.long v67), .second, .unset, .unset, .unset, .unset, .unset, .unset, .unset, .unset, .unset, .unset] [] 2 6 → Gl R0 n0 G (QI fun r h => (True) ∧ (r = 1)) := by
    intro v67 v72 h68  q75 f69 f70 f71 f73 f74 A66
    have A80 := A66.aload (v := (.ref b2)) (pc' := 38) at_36 rfl rfl rfl
    have A81 := A80.lloadN (v := n1) (pc' := 39) at_38 rfl rfl
    obtain ⟨r83, h85, ⟨u87, K86, f88, f89, f90, q84⟩, A82⟩ := W.kI (A81.callV (a := b2) (argsL := [(.long n1)]) (rest := []) (C' := 2) (S' := 6) (pc' := 42) at_39 f69 (hw _ (List.mem_of_getElem? (i := 16) rfl)) (hw _ (List.mem_of_getElem? (i := 17) rfl)) (fun hZ => notFace_of_selects (args := #[]) (mvT hZ (hw _ (List.mem_of_getElem? (i := 19) rfl)))) (hw _ (List.mem_of_getElem? (i := 19) rfl)) (hw _ (List.mem_of_getElem? (i := 18) rfl)) (hw _ (List.mem_of_getElem? (i := 2) rfl)) (hw _ (List.mem_of_getElem? (i := 20) rfl)) (rm3 l Z a0 hw n0 [] (b2) (n1) (t) (v72) ((0 : Int32)) h68 A81.size f69 g4 f71 f73 f74 (by omega)) rfl rfl pd_2 rfl rfl (by decide) (by decide) (Nat.le_of_ble_eq_true rfl) (by decide) (by decide) rfl rfl rfl)
    have A91 := A82.istore (Ls' := #[.val (.long hh), .second, .val (.int t), .val (.long n1), .second, .val (.long n2), .second, .val (.long n3), .second, .val (.int flags), .val (.ref b2), .val (.long v67), .second, .val (.int r83), .unset, .unset, .unset, .unset, .unset, .unset, .unset, .unset, .unset]) (pc' := 44) at_42 rfl rfl
    have A92 := A91.lloadN (v := n1) (pc' := 45) at_44 rfl rfl
    have A93 := A92.lload (v := v67) (pc' := 47) at_45 rfl rfl
    have A94 := A93.lcmp (pc' := 48) at_47 rfl
    have join96 : ∀ (v103 : Int32) (q104 : ((n1.toInt < v67.toInt) ∧ v103.toInt = 0) ∨ ((¬ (n1.toInt < v67.toInt)) ∧ v103.toInt = 1)), W l Z n0 y0 code maxLocals ret R0 G h85 56 #[.val (.long hh), .second, .val (.int t), .val (.long n1), .second, .val (.long n2), .second, .val (.long n3), .second, .val (.int flags), .val (.ref b2), .val (.long v67), .second, .val (.int r83), .unset, .unset, .unset, .unset, .unset, .unset, .unset, .unset, .unset] [(.int v103)] 2 6 → Gl R0 n0 G (QI fun r h => (True) ∧ (r = 1)) := by
      intro v103   q104  A102
      have A105 := A102.istore (Ls' := #[.val (.long hh), .second, .val (.int t), .val (.long n1), .second, .val (.long n2), .second, .val (.long n3), .second, .val (.int flags), .val (.ref b2), .val (.long v67), .second, .val (.int r83), .val (.int v103), .unset, .unset, .unset, .unset, .unset, .unset, .unset, .unset]) (pc' := 58) at_56 rfl rfl
      have A106 := A105.aload (v := (.ref b2)) (pc' := 60) at_58 rfl rfl rfl
      have A107 := A106.lload (v := n2) (pc' := 62) at_60 rfl rfl
      have f108 := (f69.keep K86)
      obtain ⟨r110, h112, ⟨u114, K113, f115, f116, f117, q111⟩, A109⟩ := W.kI (A107.callV (a := b2) (argsL := [(.long n2)]) (rest := []) (C' := 2) (S' := 6) (pc' := 65) at_62 f108 (hw _ (List.mem_of_getElem? (i := 16) rfl)) (hw _ (List.mem_of_getElem? (i := 17) rfl)) (fun hZ => notFace_of_selects (args := #[]) (mvT hZ (hw _ (List.mem_of_getElem? (i := 19) rfl)))) (hw _ (List.mem_of_getElem? (i := 19) rfl)) (hw _ (List.mem_of_getElem? (i := 18) rfl)) (hw _ (List.mem_of_getElem? (i := 2) rfl)) (hw _ (List.mem_of_getElem? (i := 20) rfl)) (rm3 l Z a0 hw n0 [] (b2) (n2) (t) (v72) (u87) h85 A107.size f108 g4 f88 f89 f90 (by omega)) rfl rfl pd_2 rfl rfl (by decide) (by decide) (Nat.le_of_ble_eq_true rfl) (by decide) (by decide) rfl rfl rfl)
      have A118 := A109.istore (Ls' := #[.val (.long hh), .second, .val (.int t), .val (.long n1), .second, .val (.long n2), .second, .val (.long n3), .second, .val (.int flags), .val (.ref b2), .val (.long v67), .second, .val (.int r83), .val (.int v103), .val (.int r110), .unset, .unset, .unset, .unset, .unset, .unset, .unset]) (pc' := 67) at_65 rfl rfl
      have A119 := A118.iload (v := v103) (pc' := 69) at_67 rfl rfl
      have join121 : ∀ (v135 : Int32) (q136 : ((v103.toInt = 0) ∧ (n2.toInt < v67.toInt) ∧ v135.toInt = 0) ∨ ((v103.toInt = 0) ∧ (¬ (n2.toInt < v67.toInt)) ∧ v135.toInt = 1) ∨ ((¬ (v103.toInt = 0)) ∧ v135.toInt = 0)), W l Z n0 y0 code maxLocals ret R0 G h112 85 #[.val (.long hh), .second, .val (.int t), .val (.long n1), .second, .val (.long n2), .second, .val (.long n3), .second, .val (.int flags), .val (.ref b2), .val (.long v67), .second, .val (.int r83), .val (.int v103), .val (.int r110), .unset, .unset, .unset, .unset, .unset, .unset, .unset] [(.int v135)] 2 6 → Gl R0 n0 G (QI fun r h => (True) ∧ (r = 1)) := by
        intro v135   q136  A134
        have A137 := A134.istore (Ls' := #[.val (.long hh), .second, .val (.int t), .val (.long n1), .second, .val (.long n2), .second, .val (.long n3), .second, .val (.int flags), .val (.ref b2), .val (.long v67), .second, .val (.int r83), .val (.int v103), .val (.int r110), .val (.int v135), .unset, .unset, .unset, .unset, .unset, .unset]) (pc' := 87) at_85 rfl rfl
        have A138 := A137.iload (v := v103) (pc' := 89) at_87 rfl rfl
        have join140 : ∀ (v153 : Int32) (q154 : ((v103.toInt = 0) ∧ (v135.toInt = 0) ∧ v153.toInt = 0) ∨ ((v103.toInt = 0) ∧ (¬ (v135.toInt = 0)) ∧ v153.toInt = 1) ∨ ((¬ (v103.toInt = 0)) ∧ v153.toInt = 1)), W l Z n0 y0 code maxLocals ret R0 G h112 102 #[.val (.long hh), .second, .val (.int t), .val (.long n1), .second, .val (.long n2), .second, .val (.long n3), .second, .val (.int flags), .val (.ref b2), .val (.long v67), .second, .val (.int r83), .val (.int v103), .val (.int r110), .val (.int v135), .unset, .unset, .unset, .unset, .unset, .unset] [(.int v153)] 2 6 → Gl R0 n0 G (QI fun r h => (True) ∧ (r = 1)) := by
          intro v153   q154  A152
          have A155 := A152.istore (Ls' := #[.val (.long hh), .second, .val (.int t), .val (.long n1), .second, .val (.long n2), .second, .val (.long n3), .second, .val (.int flags), .val (.ref b2), .val (.long v67), .second, .val (.int r83), .val (.int v103), .val (.int r110), .val (.int v135), .val (.int v153), .unset, .unset, .unset, .unset, .unset]) (pc' := 104) at_102 rfl rfl
          have A156 := A155.iload (v := flags) (pc' := 106) at_104 rfl rfl
          have A157 := A156.iconst (z := (2 : Int32)) (pc' := 107) at_106 rfl rfl
          have A158 := A157.iand (pc' := 108) at_107 rfl
          have join160 : ∀ (v167 : Int32) (q168 : (((flags &&& (2 : Int32)).toInt = 0) ∧ v167.toInt = 0) ∨ ((¬ ((flags &&& (2 : Int32)).toInt = 0)) ∧ v167.toInt = 1)), W l Z n0 y0 code maxLocals ret R0 G h112 116 #[.val (.long hh), .second, .val (.int t), .val (.long n1), .second, .val (.long n2), .second, .val (.long n3), .second, .val (.int flags), .val (.ref b2), .val (.long v67), .second, .val (.int r83), .val (.int v103), .val (.int r110), .val (.int v135), .val (.int v153), .unset, .unset, .unset, .unset, .unset] [(.int v167)] 2 6 → Gl R0 n0 G (QI fun r h => (True) ∧ (r = 1)) := by
            intro v167   q168  A166
            have A169 := A166.istore (Ls' := #[.val (.long hh), .second, .val (.int t), .val (.long n1), .second, .val (.long n2), .second, .val (.long n3), .second, .val (.int flags), .val (.ref b2), .val (.long v67), .second, .val (.int r83), .val (.int v103), .val (.int r110), .val (.int v135), .val (.int v153), .val (.int v167), .unset, .unset, .unset, .unset]) (pc' := 118) at_116 rfl rfl
            have A170 := A169.iload (v := v167) (pc' := 120) at_118 rfl rfl
            have join172 : ∀ (v204 : Int32) (h199 : Heap) (q206 : ((v167.toInt = 0) ∧ v204.toInt = u114.toInt) ∨ ((¬ (v167.toInt = 0)) ∧ v204.toInt = 0)) (f200 : Exa Z h199 b2 "com/example/steady_quorum/steadyquorum/server/Session") (f201 : Ars Z h199 b18 .byte 0 (fun _ => (.int (0 : Int32)))) (f202 : Fld Z h199 b2 "com/example/steady_quorum/steadyquorum/server/Session" "timeoutMillis" "I" (.int t)) (f203 : Fld Z h199 b2 "com/example/steady_quorum/steadyquorum/server/Session" "deadlineMillis" "J" (.long (hh + t.toInt64))) (f205 : Fld Z h199 b2 "com/example/steady_quorum/steadyquorum/server/Session" "expiring" "Z" (.int v204)), W l Z n0 y0 code maxLocals ret R0 G h199 138 #[.val (.long hh), .second, .val (.int t), .val (.long n1), .second, .val (.long n2), .second, .val (.long n3), .second, .val (.int flags), .val (.ref b2), .val (.long v67), .second, .val (.int r83), .val (.int v103), .val (.int r110), .val (.int v135), .val (.int v153), .val (.int v167), .unset, .unset, .unset, .unset] [] 2 6 → Gl R0 n0 G (QI fun r h => (True) ∧ (r = 1)) := by
              intro v204 h199  q206 f200 f201 f202 f203 f205 A198
              have A211 := A198.lloadN (v := hh) (pc' := 139) at_138 rfl rfl
              have A212 := A211.iloadN (v := t) (pc' := 140) at_139 rfl rfl
              have A213 := A212.i2l (pc' := 141) at_140 rfl
              have A214 := A213.ladd (pc' := 142) at_141 rfl
              have A215 := A214.lstore (Ls' := #[.val (.long hh), .second, .val (.int t), .val (.long n1), .second, .val (.long n2), .second, .val (.long n3), .second, .val (.int flags), .val (.ref b2), .val (.long v67), .second, .val (.int r83), .val (.int v103), .val (.int r110), .val (.int v135), .val (.int v153), .val (.int v167), .val (.long (hh + t.toInt64)), .second, .unset, .unset]) (pc' := 144) at_142 rfl rfl
              have A216 := A215.aload (v := (.ref b2)) (pc' := 146) at_144 rfl rfl rfl
              have A217 := A216.lload (v := n3) (pc' := 148) at_146 rfl rfl
              obtain ⟨r219, h221, ⟨u223, K222, f224, f225, f226, q220⟩, A218⟩ := W.kI (A217.callV (a := b2) (argsL := [(.long n3)]) (rest := []) (C' := 2) (S' := 6) (pc' := 151) at_148 f200 (hw _ (List.mem_of_getElem? (i := 16) rfl)) (hw _ (List.mem_of_getElem? (i := 17) rfl)) (fun hZ => notFace_of_selects (args := #[]) (mvT hZ (hw _ (List.mem_of_getElem? (i := 19) rfl)))) (hw _ (List.mem_of_getElem? (i := 19) rfl)) (hw _ (List.mem_of_getElem? (i := 18) rfl)) (hw _ (List.mem_of_getElem? (i := 2) rfl)) (hw _ (List.mem_of_getElem? (i := 20) rfl)) (rm3 l Z a0 hw n0 [] (b2) (n3) (t) ((hh + t.toInt64)) (v204) h199 A217.size f200 g4 f202 f203 f205 (by omega)) rfl rfl pd_2 rfl rfl (by decide) (by decide) (Nat.le_of_ble_eq_true rfl) (by decide) (by decide) rfl rfl rfl)
              have A227 := A218.istore (Ls' := #[.val (.long hh), .second, .val (.int t), .val (.long n1), .second, .val (.long n2), .second, .val (.long n3), .second, .val (.int flags), .val (.ref b2), .val (.long v67), .second, .val (.int r83), .val (.int v103), .val (.int r110), .val (.int v135), .val (.int v153), .val (.int v167), .val (.long (hh + t.toInt64)), .second, .val (.int r219), .unset]) (pc' := 153) at_151 rfl rfl
              have A228 := A227.iload (v := v167) (pc' := 155) at_153 rfl rfl
              have join230 : ∀ (v264 : Int32) (q265 : ((v167.toInt = 0) ∧ (v153.toInt = 0) ∧ (n3.toInt < (hh + t.toInt64).toInt) ∧ v264.toInt = 0) ∨ ((v167.toInt = 0) ∧ (v153.toInt = 0) ∧ (¬ (n3.toInt < (hh + t.toInt64).toInt)) ∧ v264.toInt = 1) ∨ ((v167.toInt = 0) ∧ (¬ (v153.toInt = 0)) ∧ v264.toInt = 0) ∨ ((¬ (v167.toInt = 0)) ∧ (n3.toInt < (hh + t.toInt64).toInt) ∧ v264.toInt = 0) ∨ ((¬ (v167.toInt = 0)) ∧ (¬ (n3.toInt < (hh + t.toInt64).toInt)) ∧ v264.toInt = 1)), W l Z n0 y0 code maxLocals ret R0 G h221 196 #[.val (.long hh), .second, .val (.int t), .val (.long n1), .second, .val (.long n2), .second, .val (.long n3), .second, .val (.int flags), .val (.ref b2), .val (.long v67), .second, .val (.int r83), .val (.int v103), .val (.int r110), .val (.int v135), .val (.int v153), .val (.int v167), .val (.long (hh + t.toInt64)), .second, .val (.int r219), .val (.int v264)] [] 2 6 → Gl R0 n0 G (QI fun r h => (True) ∧ (r = 1)) := by
                intro v264   q265  A263
                have A266 := A263.iload (v := r83) (pc' := 198) at_196 rfl rfl
                have A267 := A266.iload (v := v103) (pc' := 200) at_198 rfl rfl
                by_cases c268 : r83.toInt = v103.toInt
                · have A269 := A267.icmpNo (pc' := 203) at_200 (teq (ieq (x := r83) (y := v103) rfl rfl c268)).2 rfl
                  have A270 := A269.iload (v := r110) (pc' := 205) at_203 rfl rfl
                  have A271 := A270.iload (v := v135) (pc' := 207) at_205 rfl rfl
                  by_cases c272 : r110.toInt = v135.toInt
                  · have A273 := A271.icmpNo (pc' := 210) at_207 (teq (ieq (x := r110) (y := v135) rfl rfl c272)).2 rfl
                    have A274 := A273.iload (v := r219) (pc' := 212) at_210 rfl rfl
                    have A275 := A274.iload (v := v264) (pc' := 214) at_212 rfl rfl
                    by_cases c276 : r219.toInt = v264.toInt
                    · have A277 := A275.icmpNo (pc' := 217) at_214 (teq (ieq (x := r219) (y := v264) rfl rfl c276)).2 rfl
                      have A278 := A277.iconst (z := (1 : Int32)) (pc' := 218) at_217 rfl rfl
                      have A279 := A278.goto (pc' := 222) at_218 (by decide) (by decide)
                      refine A279.retN (t := .boolean) (z' := (1 : Int32)) at_222 (by decide) (by decide) (by simp) rfl ⟨_, rfl, ⟨trivial, ?_⟩⟩
                      have e1 : (1 : Int32).toInt = 1 := rfl
                      rfl
                    · have A280 := A275.icmpYes (pc' := 221) at_214 (feq (ine (x := r219) (y := v264) rfl rfl c276)).2 (by decide) (by decide)
                      have A281 := A280.iconst (z := (0 : Int32)) (pc' := 222) at_221 rfl rfl
                      refine A281.retN (t := .boolean) (z' := (0 : Int32)) at_222 (by decide) (by decide) (by simp) rfl ⟨_, rfl, ⟨trivial, ?_⟩⟩
                      have e1 : (0 : Int32).toInt = 0 := rfl
                      exfalso
                      omega
                  · have A282 := A271.icmpYes (pc' := 221) at_207 (feq (ine (x := r110) (y := v135) rfl rfl c272)).2 (by decide) (by decide)
                    have A283 := A282.iconst (z := (0 : Int32)) (pc' := 222) at_221 rfl rfl
                    refine A283.retN (t := .boolean) (z' := (0 : Int32)) at_222 (by decide) (by decide) (by simp) rfl ⟨_, rfl, ⟨trivial, ?_⟩⟩
                    have e1 : (0 : Int32).toInt = 0 := rfl
                    exfalso
                    omega
                · have A284 := A267.icmpYes (pc' := 221) at_200 (feq (ine (x := r83) (y := v103) rfl rfl c268)).2 (by decide) (by decide)
                  have A285 := A284.iconst (z := (0 : Int32)) (pc' := 222) at_221 rfl rfl
                  refine A285.retN (t := .boolean) (z' := (0 : Int32)) at_222 (by decide) (by decide) (by simp) rfl ⟨_, rfl, ⟨trivial, ?_⟩⟩
                  have e1 : (0 : Int32).toInt = 0 := rfl
                  exfalso
                  omega
              by_cases c229 : v167.toInt = 0
              · have A231 := A228.ifYes (pc' := 176) at_155 (teq (ieq (x := v167) (y := (0 : Int32)) rfl rfl c229)).1 (by decide) (by decide)
                have A232 := A231.iload (v := v153) (pc' := 178) at_176 rfl rfl
                by_cases c233 : v153.toInt = 0
                · have A234 := A232.ifNo (pc' := 181) at_178 (teq (ieq (x := v153) (y := (0 : Int32)) rfl rfl c233)).2 rfl
                  have A235 := A234.lload (v := n3) (pc' := 183) at_181 rfl rfl
                  have A236 := A235.lload (v := (hh + t.toInt64)) (pc' := 185) at_183 rfl rfl
                  have A237 := A236.lcmp (pc' := 186) at_185 rfl
                  by_cases c238 : n3.toInt < (hh + t.toInt64).toInt
                  · have A239 := A237.ifYes (pc' := 193) at_186 (tlt (llt (x := n3) (y := (hh + t.toInt64)) rfl rfl c238)).1 (by decide) (by decide)
                    have A240 := A239.iconst (z := (0 : Int32)) (pc' := 194) at_193 rfl rfl
                    have A241 := A240.istore (Ls' := #[.val (.long hh), .second, .val (.int t), .val (.long n1), .second, .val (.long n2), .second, .val (.long n3), .second, .val (.int flags), .val (.ref b2), .val (.long v67), .second, .val (.int r83), .val (.int v103), .val (.int r110), .val (.int v135), .val (.int v153), .val (.int v167), .val (.long (hh + t.toInt64)), .second, .val (.int r219), .val (.int (0 : Int32))]) (pc' := 196) at_194 rfl rfl
                    exact join230 ((0 : Int32))   (Or.inl ⟨c229, c233, c238, rfl⟩)  A241
                  · have A242 := A237.ifNo (pc' := 189) at_186 (flt (lnlt (x := n3) (y := (hh + t.toInt64)) rfl rfl c238)).1 rfl
                    have A243 := A242.iconst (z := (1 : Int32)) (pc' := 190) at_189 rfl rfl
                    have A244 := A243.goto (pc' := 194) at_190 (by decide) (by decide)
                    have A245 := A244.istore (Ls' := #[.val (.long hh), .second, .val (.int t), .val (.long n1), .second, .val (.long n2), .second, .val (.long n3), .second, .val (.int flags), .val (.ref b2), .val (.long v67), .second, .val (.int r83), .val (.int v103), .val (.int r110), .val (.int v135), .val (.int v153), .val (.int v167), .val (.long (hh + t.toInt64)), .second, .val (.int r219), .val (.int (1 : Int32))]) (pc' := 196) at_194 rfl rfl
                    exact join230 ((1 : Int32))   (Or.inr (Or.inl ⟨c229, c233, c238, rfl⟩))  A245
                · have A246 := A232.ifYes (pc' := 193) at_178 (feq (ine (x := v153) (y := (0 : Int32)) rfl rfl c233)).2 (by decide) (by decide)
                  have A247 := A246.iconst (z := (0 : Int32)) (pc' := 194) at_193 rfl rfl
                  have A248 := A247.istore (Ls' := #[.val (.long hh), .second, .val (.int t), .val (.long n1), .second, .val (.long n2), .second, .val (.long n3), .second, .val (.int flags), .val (.ref b2), .val (.long v67), .second, .val (.int r83), .val (.int v103), .val (.int r110), .val (.int v135), .val (.int v153), .val (.int v167), .val (.long (hh + t.toInt64)), .second, .val (.int r219), .val (.int (0 : Int32))]) (pc' := 196) at_194 rfl rfl
                  exact join230 ((0 : Int32))   (Or.inr (Or.inr (Or.inl ⟨c229, c233, rfl⟩)))  A248
              · have A249 := A228.ifNo (pc' := 158) at_155 (feq (ine (x := v167) (y := (0 : Int32)) rfl rfl c229)).1 rfl
                have A250 := A249.lload (v := n3) (pc' := 160) at_158 rfl rfl
                have A251 := A250.lload (v := (hh + t.toInt64)) (pc' := 162) at_160 rfl rfl
                have A252 := A251.lcmp (pc' := 163) at_162 rfl
                by_cases c253 : n3.toInt < (hh + t.toInt64).toInt
                · have A254 := A252.ifYes (pc' := 170) at_163 (tlt (llt (x := n3) (y := (hh + t.toInt64)) rfl rfl c253)).1 (by decide) (by decide)
                  have A255 := A254.iconst (z := (0 : Int32)) (pc' := 171) at_170 rfl rfl
                  have A256 := A255.istore (Ls' := #[.val (.long hh), .second, .val (.int t), .val (.long n1), .second, .val (.long n2), .second, .val (.long n3), .second, .val (.int flags), .val (.ref b2), .val (.long v67), .second, .val (.int r83), .val (.int v103), .val (.int r110), .val (.int v135), .val (.int v153), .val (.int v167), .val (.long (hh + t.toInt64)), .second, .val (.int r219), .val (.int (0 : Int32))]) (pc' := 173) at_171 rfl rfl
                  have A257 := A256.goto (pc' := 196) at_173 (by decide) (by decide)
                  exact join230 ((0 : Int32))   (Or.inr (Or.inr (Or.inr (Or.inl ⟨c229, c253, rfl⟩))))  A257
                · have A258 := A252.ifNo (pc' := 166) at_163 (flt (lnlt (x := n3) (y := (hh + t.toInt64)) rfl rfl c253)).1 rfl
                  have A259 := A258.iconst (z := (1 : Int32)) (pc' := 167) at_166 rfl rfl
                  have A260 := A259.goto (pc' := 171) at_167 (by decide) (by decide)
                  have A261 := A260.istore (Ls' := #[.val (.long hh), .second, .val (.int t), .val (.long n1), .second, .val (.long n2), .second, .val (.long n3), .second, .val (.int flags), .val (.ref b2), .val (.long v67), .second, .val (.int r83), .val (.int v103), .val (.int r110), .val (.int v135), .val (.int v153), .val (.int v167), .val (.long (hh + t.toInt64)), .second, .val (.int r219), .val (.int (1 : Int32))]) (pc' := 173) at_171 rfl rfl
                  have A262 := A261.goto (pc' := 196) at_173 (by decide) (by decide)
                  exact join230 ((1 : Int32))   (Or.inr (Or.inr (Or.inr (Or.inr ⟨c229, c253, rfl⟩))))  A262
            by_cases c171 : v167.toInt = 0
            · have A173 := A170.ifYes (pc' := 132) at_120 (teq (ieq (x := v167) (y := (0 : Int32)) rfl rfl c171)).1 (by decide) (by decide)
              have A174 := A173.aload (v := (.ref b2)) (pc' := 134) at_132 rfl rfl rfl
              have A175 := A174.lloadN (v := hh) (pc' := 135) at_134 rfl rfl
              have f176 := (f108.keep K113)
              obtain ⟨h180, ⟨K181, f182, f183, f184, q179⟩, A177⟩ := W.kV (A175.callV (a := b2) (argsL := [(.long hh)]) (rest := []) (C' := 2) (S' := 6) (pc' := 138) at_135 f176 (hw _ (List.mem_of_getElem? (i := 25) rfl)) (hw _ (List.mem_of_getElem? (i := 26) rfl)) (fun hZ => notFace_of_selects (args := #[]) (mvT hZ (hw _ (List.mem_of_getElem? (i := 28) rfl)))) (hw _ (List.mem_of_getElem? (i := 28) rfl)) (hw _ (List.mem_of_getElem? (i := 27) rfl)) (hw _ (List.mem_of_getElem? (i := 2) rfl)) (hw _ (List.mem_of_getElem? (i := 29) rfl)) (rm4 l Z a0 hw n0 [] (b2) (hh) (t) (v72) (u114) h112 A175.size f176 g4 f115 f116 f117) rfl rfl pd_0 rfl rfl (by decide) (by decide) (Nat.le_of_ble_eq_true rfl) (by decide) (by decide) rfl rfl rfl)
              have f207 := (f176.keep K181)
              have f208 := (((f70.keep K86 (ninS (Ne.symm ne24) nin0)).keep K113 (ninS (Ne.symm ne24) nin0)).keep K181 (ninS (Ne.symm ne24) nin0))
              exact join172 (u114) h180  (Or.inl ⟨c171, rfl⟩) f207 f208 f182 f183 f184 A177
            · have A185 := A170.ifNo (pc' := 123) at_120 (feq (ine (x := v167) (y := (0 : Int32)) rfl rfl c171)).1 rfl
              have A186 := A185.aload (v := (.ref b2)) (pc' := 125) at_123 rfl rfl rfl
              have A187 := A186.lloadN (v := hh) (pc' := 126) at_125 rfl rfl
              have f188 := (f108.keep K113)
              obtain ⟨h192, ⟨K193, f194, f195, f196, q191⟩, A189⟩ := W.kV (A187.callV (a := b2) (argsL := [(.long hh)]) (rest := []) (C' := 2) (S' := 6) (pc' := 129) at_126 f188 (hw _ (List.mem_of_getElem? (i := 30) rfl)) (hw _ (List.mem_of_getElem? (i := 31) rfl)) (fun hZ => notFace_of_selects (args := #[]) (mvT hZ (hw _ (List.mem_of_getElem? (i := 33) rfl)))) (hw _ (List.mem_of_getElem? (i := 33) rfl)) (hw _ (List.mem_of_getElem? (i := 32) rfl)) (hw _ (List.mem_of_getElem? (i := 2) rfl)) (hw _ (List.mem_of_getElem? (i := 34) rfl)) (rm5 l Z a0 hw n0 [] (b2) (hh) (t) (v72) (u114) h112 A187.size f188 g4 f115 f116 f117) rfl rfl pd_0 rfl rfl (by decide) (by decide) (Nat.le_of_ble_eq_true rfl) (by decide) (by decide) rfl rfl rfl)
              have A197 := A189.goto (pc' := 138) at_129 (by decide) (by decide)
              have f209 := (f188.keep K193)
              have f210 := (((f70.keep K86 (ninS (Ne.symm ne24) nin0)).keep K113 (ninS (Ne.symm ne24) nin0)).keep K193 (ninS (Ne.symm ne24) nin0))
              exact join172 ((0 : Int32)) h192  (Or.inr ⟨c171, rfl⟩) f209 f210 f194 f195 f196 A197
          by_cases c159 : (flags &&& (2 : Int32)).toInt = 0
          · have A161 := A158.ifYes (pc' := 115) at_108 (teq (ieq (x := (flags &&& (2 : Int32))) (y := (0 : Int32)) rfl rfl c159)).1 (by decide) (by decide)
            have A162 := A161.iconst (z := (0 : Int32)) (pc' := 116) at_115 rfl rfl
            exact join160 ((0 : Int32))   (Or.inl ⟨c159, rfl⟩)  A162
          · have A163 := A158.ifNo (pc' := 111) at_108 (feq (ine (x := (flags &&& (2 : Int32))) (y := (0 : Int32)) rfl rfl c159)).1 rfl
            have A164 := A163.iconst (z := (1 : Int32)) (pc' := 112) at_111 rfl rfl
            have A165 := A164.goto (pc' := 116) at_112 (by decide) (by decide)
            exact join160 ((1 : Int32))   (Or.inr ⟨c159, rfl⟩)  A165
        by_cases c139 : v103.toInt = 0
        · have A141 := A138.ifNo (pc' := 92) at_89 (teq (ieq (x := v103) (y := (0 : Int32)) rfl rfl c139)).2 rfl
          have A142 := A141.iload (v := v135) (pc' := 94) at_92 rfl rfl
          by_cases c143 : v135.toInt = 0
          · have A144 := A142.ifYes (pc' := 101) at_94 (teq (ieq (x := v135) (y := (0 : Int32)) rfl rfl c143)).1 (by decide) (by decide)
            have A145 := A144.iconst (z := (0 : Int32)) (pc' := 102) at_101 rfl rfl
            exact join140 ((0 : Int32))   (Or.inl ⟨c139, c143, rfl⟩)  A145
          · have A146 := A142.ifNo (pc' := 97) at_94 (feq (ine (x := v135) (y := (0 : Int32)) rfl rfl c143)).1 rfl
            have A147 := A146.iconst (z := (1 : Int32)) (pc' := 98) at_97 rfl rfl
            have A148 := A147.goto (pc' := 102) at_98 (by decide) (by decide)
            exact join140 ((1 : Int32))   (Or.inr (Or.inl ⟨c139, c143, rfl⟩))  A148
        · have A149 := A138.ifYes (pc' := 97) at_89 (feq (ine (x := v103) (y := (0 : Int32)) rfl rfl c139)).2 (by decide) (by decide)
          have A150 := A149.iconst (z := (1 : Int32)) (pc' := 98) at_97 rfl rfl
          have A151 := A150.goto (pc' := 102) at_98 (by decide) (by decide)
          exact join140 ((1 : Int32))   (Or.inr (Or.inr ⟨c139, rfl⟩))  A151
      by_cases c120 : v103.toInt = 0
      · have A122 := A119.ifNo (pc' := 72) at_69 (teq (ieq (x := v103) (y := (0 : Int32)) rfl rfl c120)).2 rfl
        have A123 := A122.lload (v := n2) (pc' := 74) at_72 rfl rfl
        have A124 := A123.lload (v := v67) (pc' := 76) at_74 rfl rfl
        have A125 := A124.lcmp (pc' := 77) at_76 rfl
        by_cases c126 : n2.toInt < v67.toInt
        · have A127 := A125.ifYes (pc' := 84) at_77 (tlt (llt (x := n2) (y := v67) rfl rfl c126)).1 (by decide) (by decide)
          have A128 := A127.iconst (z := (0 : Int32)) (pc' := 85) at_84 rfl rfl
          exact join121 ((0 : Int32))   (Or.inl ⟨c120, c126, rfl⟩)  A128
        · have A129 := A125.ifNo (pc' := 80) at_77 (flt (lnlt (x := n2) (y := v67) rfl rfl c126)).1 rfl
          have A130 := A129.iconst (z := (1 : Int32)) (pc' := 81) at_80 rfl rfl
          have A131 := A130.goto (pc' := 85) at_81 (by decide) (by decide)
          exact join121 ((1 : Int32))   (Or.inr (Or.inl ⟨c120, c126, rfl⟩))  A131
      · have A132 := A119.ifYes (pc' := 84) at_69 (feq (ine (x := v103) (y := (0 : Int32)) rfl rfl c120)).2 (by decide) (by decide)
        have A133 := A132.iconst (z := (0 : Int32)) (pc' := 85) at_84 rfl rfl
        exact join121 ((0 : Int32))   (Or.inr (Or.inr ⟨c120, rfl⟩))  A133
    by_cases c95 : n1.toInt < v67.toInt
    · have A97 := A94.ifYes (pc' := 55) at_48 (tlt (llt (x := n1) (y := v67) rfl rfl c95)).1 (by decide) (by decide)
      have A98 := A97.iconst (z := (0 : Int32)) (pc' := 56) at_55 rfl rfl
      exact join96 ((0 : Int32))   (Or.inl ⟨c95, rfl⟩)  A98
    · have A99 := A94.ifNo (pc' := 51) at_48 (flt (lnlt (x := n1) (y := v67) rfl rfl c95)).1 rfl
      have A100 := A99.iconst (z := (1 : Int32)) (pc' := 52) at_51 rfl rfl
      have A101 := A100.goto (pc' := 56) at_52 (by decide) (by decide)
      exact join96 ((1 : Int32))   (Or.inr ⟨c95, rfl⟩)  A101
  by_cases c46 : (flags &&& (1 : Int32)).toInt = 0
  · have A48 := A45.ifYes (pc' := 36) at_21 (teq (ieq (x := (flags &&& (1 : Int32))) (y := (0 : Int32)) rfl rfl c46)).1 (by decide) (by decide)
    have f76 := (f26.keep K36)
    have f77 := (X22.keep K36 (ninS (Ne.symm ne24) nin0))
    exact join47 ((0 : Int64)) ((0 : Int64)) h35  (Or.inl ⟨c46, rfl, rfl⟩) f76 f77 f37 f38 f39 A48
  · have A49 := A45.ifNo (pc' := 24) at_21 (feq (ine (x := (flags &&& (1 : Int32))) (y := (0 : Int32)) rfl rfl c46)).1 rfl
    have A50 := A49.aload (v := (.ref b2)) (pc' := 26) at_24 rfl rfl rfl
    have A51 := A50.lloadN (v := hh) (pc' := 27) at_26 rfl rfl
    have f52 := (f26.keep K36)
    obtain ⟨h56, ⟨K57, f58, f59, f60, q55⟩, A53⟩ := W.kV (A51.callV (a := b2) (argsL := [(.long hh)]) (rest := []) (C' := 2) (S' := 6) (pc' := 30) at_27 f52 (hw _ (List.mem_of_getElem? (i := 25) rfl)) (hw _ (List.mem_of_getElem? (i := 26) rfl)) (fun hZ => notFace_of_selects (args := #[]) (mvT hZ (hw _ (List.mem_of_getElem? (i := 28) rfl)))) (hw _ (List.mem_of_getElem? (i := 28) rfl)) (hw _ (List.mem_of_getElem? (i := 27) rfl)) (hw _ (List.mem_of_getElem? (i := 2) rfl)) (hw _ (List.mem_of_getElem? (i := 29) rfl)) (rm4 l Z a0 hw n0 [] (b2) (hh) (t) ((0 : Int64)) ((0 : Int32)) h35 A51.size f52 g4 f37 f38 f39) rfl rfl pd_0 rfl rfl (by decide) (by decide) (Nat.le_of_ble_eq_true rfl) (by decide) (by decide) rfl rfl rfl)
    have A61 := A53.lloadN (v := hh) (pc' := 31) at_30 rfl rfl
    have A62 := A61.iloadN (v := t) (pc' := 32) at_31 rfl rfl
    have A63 := A62.i2l (pc' := 33) at_32 rfl
    have A64 := A63.ladd (pc' := 34) at_33 rfl
    have A65 := A64.lstore (Ls' := #[.val (.long hh), .second, .val (.int t), .val (.long n1), .second, .val (.long n2), .second, .val (.long n3), .second, .val (.int flags), .val (.ref b2), .val (.long (hh + t.toInt64)), .second, .unset, .unset, .unset, .unset, .unset, .unset, .unset, .unset, .unset, .unset]) (pc' := 36) at_34 rfl rfl
    have f78 := (f52.keep K57)
    have f79 := ((X22.keep K36 (ninS (Ne.symm ne24) nin0)).keep K57 (ninS (Ne.symm ne24) nin0))
    exact join47 ((hh + t.toInt64)) ((hh + t.toInt64)) h56  (Or.inr ⟨c46, rfl, rfl⟩) f78 f79 f58 f59 f60 A65
set_option maxRecDepth 65536 in
set_option maxHeartbeats 40000000 in
theorem comes_1 {Post : Tables → Env → Array Value → State → Outcome → State → Prop} (hpost : ∀ tb e args s v u, (limb_1_1.after args s (.returned v) u = true ∧ limb_1_2.after args s (.returned v) u = true ∧ True) → FrameEnd s (.returned v) u (Jvm.fieldLocs frame_1_writes args s ++ Jvm.arrayLocs frame_1_arrays args s ++ Jvm.staticLocs frame_1_statics s) 16 128 → Post tb e args s (.returned v) u) :
    ArmFor flags0 classFile x code maxLocals ret World_1 tables_1 room_1 Calls_1 rest_1 Pre_1 Post := by
  intro l hfl _ _ p e ha hc hk s m args below hf hA hF happ hP
  obtain ⟨hcalls, hrest, hpre⟩ := hP
  obtain ⟨-, -, -, hnamed, -, -, -, hat⟩ := (Spec.applies_iff hf).mp happ
  obtain ⟨hg, hn⟩ := and_e (Cond.before_iff.mp (show (Jvm.Cond.and given_1 narrow_1).before args s = true from hpre))
  obtain ⟨g1a, g1b⟩ := and_e hg
  obtain ⟨g2a, g2b⟩ := and_e g1b
  obtain ⟨g3a, g3b⟩ := and_e g2b
  obtain ⟨g4a, g4b⟩ := and_e g3b
  obtain ⟨g5a, g5b⟩ := and_e g4b
  obtain ⟨g6a, g6b⟩ := and_e g5b
  obtain ⟨w0, w1, w2, w3, w4, w5, rfl⟩ : ∃ w0 w1 w2 w3 w4 w5 : Value, args = #[w0, w1, w2, w3, w4, w5] := by
    have hs : args.size = 6 := by simpa [Cond.value, given_1] using g1a
    obtain ⟨L⟩ := args
    match L, hs with
    | [w0, w1, w2, w3, w4, w5], _ => exact ⟨w0, w1, w2, w3, w4, w5, rfl⟩
  have hw := fun d (hd : d ∈ tables_1) => atoms_spec (ws := Jvm.Cond.code x code maxLocals ret :: tables_1) hat d (List.mem_cons_of_mem _ hd)
  obtain ⟨i0, ei0⟩ := isL_v g2a
  obtain rfl : w0 = (.long i0) := Option.some.inj ei0
  obtain ⟨i1, ei1⟩ := is_v g3a
  obtain rfl : w1 = (.int i1) := Option.some.inj ei1
  obtain ⟨i2, ei2⟩ := isL_v g4a
  obtain rfl : w2 = (.long i2) := Option.some.inj ei2
  obtain ⟨i3, ei3⟩ := isL_v g5a
  obtain rfl : w3 = (.long i3) := Option.some.inj ei3
  obtain ⟨i4, ei4⟩ := isL_v g6a
  obtain rfl : w4 = (.long i4) := Option.some.inj ei4
  obtain ⟨i5, ei5⟩ := is_v g6b
  obtain rfl : w5 = (.int i5) := Option.some.inj ei5
  obtain ⟨n, o, h1, h2, h3, _, L, rfl, ⟨N, ⟨r, rfl, hr⟩⟩, hq⟩ := rm0 l s _ hw s.heap.size tables_1 i0 i1 i2 i3 i4 i5  s.heap (Nat.le_refl _)  p e ha hc hk s m _ below hf ((Spec.applies_iff_loose hf).mp happ).1 ⟨rfl, State.Warmed39.refl s, rfl⟩ trivial
  have hr1 : r = 1 := hr.2
  subst hr1
  refine ⟨n, _, h1, h2, h3, hpost _ _ _ _ _ _ ⟨Cond.after_iff.mpr rfl, Cond.after_iff.mpr (eq_i res_at (Term.int_eval (1)) rfl), trivial⟩ ⟨hq.1, hq.2.1, (hq.2.2.sift fun y hy => Or.inr (N y hy)).mono (by decide) (by decide)⟩⟩
theorem main_1_1 : Claimed_1_1 := comes_1 fun _ _ _ _ _ _ h hF => ⟨h.1, hF⟩
theorem main_1_2 : Claimed_1_2 := comes_1 fun _ _ _ _ _ _ h hF => ⟨h.2.1, hF⟩
end Jvm.Pilot.@@N@@
namespace Jvm.Pilot.@@N@@
open Jvm Jvm.ClassFile Sem Op Lib Jvm.Free Jvm.Stand Jvm.Pilot.@@N@@.Jvm.D
/-! MADE BY PROGRAM (witnessworld.py) out of the Statement's table words and the real class files: 9 classes; the members and pool entries that the words name. The judged class is class 1, her method 1. -/
namespace start1
open Jvm.ClassFile
def u (s : String) : CpInfo := .utf8 (stringToUtf16 s)
/-- a pool by its gaps: so many unusable entries, then the entry; so many at the end -/
def gap : Nat → List CpInfo → List CpInfo
  | 0, r => r
  | n + 1, r => .unusable :: gap n r
def poolList (es : List (Nat × CpInfo)) (last : Nat) : List CpInfo := es.foldr (fun e r => gap e.1 (e.2 :: r)) (gap last [])
def pool (es : List (Nat × CpInfo)) (last : Nat) : Array CpInfo := ⟨poolList es last⟩
def fileOf (pool : Array CpInfo) (this : Nat) (attrs : Array Attribute := #[]) (ms : Array MethodInfo := #[]) (fl : Nat := 33) (sup : Nat := 0) (ifs : Array Nat := #[]) (fds : Array FieldInfo := #[]) : ClassFile where
  minorVersion := 0
  majorVersion := 65
  constantPool := pool
  accessFlags := fl
  thisClass := this
  superClass := sup
  interfaces := ifs
  fields := fds
  methods := ms
  attributes := attrs
def plain (name : String) (sup : Option ClassId) : Class where
  name := name
  kind := .ordinary
  loader := none
  accessFlags := 33
  super := sup
  interfaces := #[]
  cf := none
  fields := #[]
  methods := #[]
  instanceTypes := #[]
  staticTypes := #[]
  resolved := #[]
  callSites := []
  init := .initialized
  statics := none
  mirror := none

def pool0 : Array CpInfo := pool [(5, u "<init>"), (0, u "()V"), (1, .class_ 10), (1, u "java/lang/Object")] 113

def k0c0 : Code := { maxStack := 0, maxLocals := 1, code := object_method_1_code, exceptionTable := #[], attributes := #[] }
def k0m0 : Method := { name := "<init>", desc := "()V", sig := { parameters := [], returnType := none }, accessFlags := 1, code := some k0c0 }
/-- java/lang/Object -/
def k0 : Class := { plain "java/lang/Object" none with
  accessFlags := 33
  interfaces := #[]
  cf := some (fileOf pool0 8 #[] #[{ accessFlags := 1, nameIndex := 5, descriptorIndex := 6, attributes := #[] }] 33 0 #[] #[])
  fields := #[]
  methods := #[k0m0]
  instanceTypes := #[]
  staticTypes := #[]
  resolved := Array.replicate 124 none
  statics := none }

def pool1 : Array CpInfo := pool [(2, .class_ 4), (1, u "java/lang/Object"), (0, u "<init>"), (0, u "()V"), (0, .class_ 8), (0, u "com/example/steady_quorum/steadyquorum/server/Session"), (0, .methodref 7 10), (0, .nameAndType 5 11), (0, u "(J[BI)V"), (0, .methodref 7 13), (0, .nameAndType 14 15), (0, u "heardAt"), (0, u "(J)V"), (0, .methodref 7 17), (0, .nameAndType 18 19), (0, u "expireBy"), (0, u "(J)Z"), (0, .methodref 7 21), (0, .nameAndType 22 15), (0, u "restartAt"), (0, .class_ 24), (0, u "com/example/steady_quorum/steadyquorum/server/SessionExpireByPinLaw"), (2, u "law"), (0, u "(JIJJJI)Z")] 3

def k1m0 : Method := { name := "<init>", desc := "()V", sig := { parameters := [], returnType := none }, accessFlags := 1, code := none }
def k1c1 : Code := { maxStack := 6, maxLocals := 23, code := code, exceptionTable := #[], attributes := #[] }
def k1m1 : Method := { name := "law", desc := "(JIJJJI)Z", sig := { parameters := [.long, .int, .long, .long, .long, .int], returnType := some .boolean }, accessFlags := 9, code := some k1c1 }
/-- com/example/steady_quorum/steadyquorum/server/SessionExpireByPinLaw -/
def k1 : Class := { plain "com/example/steady_quorum/steadyquorum/server/SessionExpireByPinLaw" (some 0) with
  accessFlags := 49
  interfaces := #[]
  cf := some (fileOf pool1 23 #[] #[{ accessFlags := 1, nameIndex := 5, descriptorIndex := 6, attributes := #[] }, { accessFlags := 9, nameIndex := 27, descriptorIndex := 28, attributes := #[] }] 49 2 #[] #[])
  fields := #[]
  methods := #[k1m0, k1m1]
  instanceTypes := #[]
  staticTypes := #[]
  resolved := Array.replicate 32 none
  statics := none }

def pool2 : Array CpInfo := pool [(1, .methodref 2 3), (0, .class_ 4), (0, .nameAndType 5 6), (0, u "java/lang/Object"), (0, u "<init>"), (0, u "()V"), (0, .fieldref 8 9), (0, .class_ 10), (0, .nameAndType 11 12), (0, u "com/example/steady_quorum/steadyquorum/server/Session"), (0, u "id"), (0, u "J"), (0, .fieldref 8 14), (0, .nameAndType 15 16), (0, u "password"), (0, u "[B"), (0, .fieldref 8 18), (0, .nameAndType 19 20), (0, u "timeoutMillis"), (0, u "I"), (2, u "connection"), (0, u "Lcom/example/steady_quorum/steadyquorum/server/Connection;"), (5, .fieldref 8 31), (0, .nameAndType 32 12), (0, u "deadlineMillis"), (0, .methodref 8 34), (0, .nameAndType 35 36), (0, u "heardAt"), (0, u "(J)V"), (0, .fieldref 8 38), (0, .nameAndType 39 40), (0, u "expiring"), (0, u "Z"), (0, u "(J[BI)V"), (11, u "restartAt"), (0, u "expireBy"), (0, u "(J)Z")] 2

def k2c0 : Code := { maxStack := 3, maxLocals := 5, code := prog_90_method_1_code, exceptionTable := #[], attributes := #[] }
def k2m0 : Method := { name := "<init>", desc := "(J[BI)V", sig := { parameters := [.long, (.array .byte), .int], returnType := none }, accessFlags := 0, code := some k2c0 }
def k2c1 : Code := { maxStack := 5, maxLocals := 3, code := prog_90_method_8_code, exceptionTable := #[], attributes := #[] }
def k2m1 : Method := { name := "heardAt", desc := "(J)V", sig := { parameters := [.long], returnType := none }, accessFlags := 0, code := some k2c1 }
def k2c2 : Code := { maxStack := 3, maxLocals := 3, code := prog_90_method_9_code, exceptionTable := #[], attributes := #[] }
def k2m2 : Method := { name := "restartAt", desc := "(J)V", sig := { parameters := [.long], returnType := none }, accessFlags := 0, code := some k2c2 }
def k2c3 : Code := { maxStack := 4, maxLocals := 4, code := prog_90_method_10_code, exceptionTable := #[], attributes := #[] }
def k2m3 : Method := { name := "expireBy", desc := "(J)Z", sig := { parameters := [.long], returnType := some .boolean }, accessFlags := 0, code := some k2c3 }
/-- com/example/steady_quorum/steadyquorum/server/Session -/
def k2 : Class := { plain "com/example/steady_quorum/steadyquorum/server/Session" (some 0) with
  accessFlags := 32
  interfaces := #[]
  cf := some (fileOf pool2 8 #[] #[{ accessFlags := 0, nameIndex := 5, descriptorIndex := 41, attributes := #[] }, { accessFlags := 0, nameIndex := 35, descriptorIndex := 36, attributes := #[] }, { accessFlags := 0, nameIndex := 53, descriptorIndex := 36, attributes := #[] }, { accessFlags := 0, nameIndex := 54, descriptorIndex := 55, attributes := #[] }] 32 2 #[] #[{ accessFlags := 18, nameIndex := 11, descriptorIndex := 12, attributes := #[] }, { accessFlags := 18, nameIndex := 15, descriptorIndex := 16, attributes := #[] }, { accessFlags := 18, nameIndex := 19, descriptorIndex := 20, attributes := #[] }, { accessFlags := 2, nameIndex := 23, descriptorIndex := 24, attributes := #[] }, { accessFlags := 2, nameIndex := 32, descriptorIndex := 12, attributes := #[] }, { accessFlags := 2, nameIndex := 39, descriptorIndex := 40, attributes := #[] }])
  fields := #[{ name := "id", type := .long, accessFlags := 18, slot := 0, constantValue := 0 }, { name := "password", type := (.array .byte), accessFlags := 18, slot := 1, constantValue := 0 }, { name := "timeoutMillis", type := .int, accessFlags := 18, slot := 2, constantValue := 0 }, { name := "connection", type := (.object "com/example/steady_quorum/steadyquorum/server/Connection"), accessFlags := 2, slot := 3, constantValue := 0 }, { name := "deadlineMillis", type := .long, accessFlags := 2, slot := 4, constantValue := 0 }, { name := "expiring", type := .boolean, accessFlags := 2, slot := 5, constantValue := 0 }]
  methods := #[k2m0, k2m1, k2m2, k2m3]
  instanceTypes := #[.long, (.array .byte), .int, (.object "com/example/steady_quorum/steadyquorum/server/Connection"), .long, .boolean]
  staticTypes := #[]
  resolved := Array.replicate 58 none
  statics := none }

def pool3 : Array CpInfo := pool [(1, u "java/lang/Cloneable"), (0, .class_ 1), (0, u "java/lang/Object"), (0, .class_ 3)] 3

/-- java/lang/Cloneable -/
def k3 : Class := { plain "java/lang/Cloneable" (some 0) with
  accessFlags := 1537
  interfaces := #[]
  cf := some (fileOf pool3 2 #[] #[] 1537 4 #[] #[])
  fields := #[]
  methods := #[]
  instanceTypes := #[]
  staticTypes := #[]
  resolved := Array.replicate 8 none
  statics := none }

def pool4 : Array CpInfo := pool [(1, u "java/io/Serializable"), (0, .class_ 1), (0, u "java/lang/Object"), (0, .class_ 3)] 3

/-- java/io/Serializable -/
def k4 : Class := { plain "java/io/Serializable" (some 0) with
  accessFlags := 1537
  interfaces := #[]
  cf := some (fileOf pool4 2 #[] #[] 1537 4 #[] #[])
  fields := #[]
  methods := #[]
  instanceTypes := #[]
  staticTypes := #[]
  resolved := Array.replicate 8 none
  statics := none }

/-- the primitive byte -/
def k5 : Class := { plain "byte" none with kind := .primitive 'B', accessFlags := 0x411 }
/-- [B -/
def k6 : Class := { plain "[B" (some 0) with kind := .array 5 .byte, interfaces := #[3, 4], accessFlags := 1041 }

/-- the primitive int -/
def k7 : Class := { plain "int" none with kind := .primitive 'I', accessFlags := 0x411 }
/-- [I -/
def k8 : Class := { plain "[I" (some 0) with kind := .array 7 .int, interfaces := #[3, 4], accessFlags := 1041 }

def heap : Heap := #[]
def classes : Array Class := #[k0, k1, k2, k3, k4, k5, k6, k7, k8]
def interned : List (Array UInt16 × Addr) := []
def slotsUsed : Nat := 0
def theMethod : MethodId := ⟨1, 1⟩
def args0 : Array Value := #[.long 5, .int 5, .long 5, .long 5, .long 5, .int 5]
def aboutOver (below : List Frame) : State where
  vm := { classes := classes, interned := interned.toArray }
  heap := heap
  slotsUsed := slotsUsed
  threads := #[{ frames := .invoking theMethod args0 :: below }]
def below0 : List Frame := [.native { method := ⟨0, 0⟩, args := #[] }]
def about1 : State := aboutOver below0
def p0 : Program := .bare "" "" ""
def e0 : Env := launch0.env 0 0 0
theorem w_frames : about1.frames = Frame.invoking theMethod args0 :: below0 := rfl
set_option maxRecDepth 65536 in
theorem w_args : argsFit about1.vm theMethod args0 = true := by decide +kernel
set_option maxRecDepth 65536 in
theorem w_heap : heapFits about1 = true := by decide +kernel
set_option maxRecDepth 65536 in
theorem w_runnable : about1.curStatus? = some .runnable := by decide +kernel
set_option maxRecDepth 65536 in
theorem w_alone : about1.alone = true := by decide +kernel
set_option maxRecDepth 65536 in
theorem w_named : about1.methodNamed? x = some theMethod := by decide +kernel
set_option maxRecDepth 65536 in
theorem w_hears : about1.hears theMethod below0 = true := by decide +kernel
set_option maxRecDepth 65536 in
theorem w_ripe : about1.ripe theMethod args0 below0 = true := by decide +kernel
theorem w_running : about1.status = .running := rfl
set_option maxRecDepth 65536 in
theorem w_room : about1.hasRoom e0.platform room_1 = true :=
  launch0.hasRoom_least _ room_1 (by decide +kernel) (by decide +kernel) (by decide +kernel) (by decide +kernel) (by decide +kernel) (by decide +kernel)
theorem allAtoms_all (ts : List Jvm.Cond) (a : Array Jvm.Value) (st : Jvm.State) : (allAtoms ts).before a st = ts.all (fun c => c.before a st) := by
  induction ts with
  | nil => rfl
  | cons c t ih =>
    show (Jvm.Cond.and c (allAtoms t)).before a st = _
    rw [Jvm.Cond.before_and, ih, List.all_cons]
def words1 : List Jvm.Cond := Jvm.Cond.code x code maxLocals ret :: tables_1
/-- a 'code' word, met by the world's own term for the bytes: nothing is compared byte by byte -/
theorem code_word {y : MethodName} {bytes : ByteArray} {mx : Nat} {rt : Option FieldType} {a : Array Value} {s : State} {m : MethodId} {meth : Method} {c : Code} (h1 : s.methodNamed? y = some m) (h2 : s.vm.method? m = some meth) (h3 : meth.code = some c) (h4 : c.code = bytes)
    (h5 : (c.maxLocals == mx && c.exceptionTable.isEmpty && decide (c.maxStack ≤ mostOperands) && decide (meth.sig.returnType = rt) && !meth.locks && decide (parseMethodDescriptor y.desc = some meth.sig)) = true) : (Jvm.Cond.code y bytes mx rt).before a s = true := by
  simp only [Bool.and_eq_true, beq_iff_eq, Bool.not_eq_true', decide_eq_true_eq] at h5
  obtain ⟨⟨⟨⟨⟨g1, g2⟩, g3⟩, g4⟩, g5⟩, g6⟩ := h5
  simp [Cond.before, Cond.holds, Cond.value, h1, h2, h3, h4, g1, g2, g3, g4, g5, g6]
def isCode : Jvm.Cond → Bool
  | .code _ _ _ _ => true
  | _ => false
theorem all_split {L : List Jvm.Cond} {P : Jvm.Cond → Bool} (h1 : L.all (fun c => isCode c || P c) = true) (h2 : ∀ c ∈ L.filter isCode, P c = true) : L.all P = true := by
  refine List.all_eq_true.mpr fun c hc => ?_
  have h := List.all_eq_true.mp h1 c hc
  rcases Bool.eq_false_or_eq_true (isCode c) with hi | hi
  · exact h2 c (List.mem_filter.mpr ⟨hc, hi⟩)
  · simpa [hi] using h
set_option maxRecDepth 65536 in
theorem w_c0 : (Jvm.Cond.code x code maxLocals ret).before args0 about1 = true := code_word (m := ⟨1, 1⟩) (meth := k1m1) (c := k1c1) (by decide +kernel) rfl rfl rfl (by decide +kernel)
set_option maxRecDepth 65536 in
theorem w_c1 : (Jvm.Cond.code ({ cls := "com/example/steady_quorum/steadyquorum/server/Session", name := "<init>", desc := "(J[BI)V" } : Jvm.MethodName) prog_90_method_1_code (5 : Nat) (Option.none : Option Jvm.ClassFile.FieldType)).before args0 about1 = true := code_word (m := ⟨2, 0⟩) (meth := k2m0) (c := k2c0) (by decide +kernel) rfl rfl rfl (by decide +kernel)
set_option maxRecDepth 65536 in
theorem w_c2 : (Jvm.Cond.code ({ cls := "java/lang/Object", name := "<init>", desc := "()V" } : Jvm.MethodName) object_method_1_code (1 : Nat) (Option.none : Option Jvm.ClassFile.FieldType)).before args0 about1 = true := code_word (m := ⟨0, 0⟩) (meth := k0m0) (c := k0c0) (by decide +kernel) rfl rfl rfl (by decide +kernel)
set_option maxRecDepth 65536 in
theorem w_c3 : (Jvm.Cond.code ({ cls := "com/example/steady_quorum/steadyquorum/server/Session", name := "expireBy", desc := "(J)Z" } : Jvm.MethodName) prog_90_method_10_code (4 : Nat) (Option.some Jvm.ClassFile.FieldType.boolean)).before args0 about1 = true := code_word (m := ⟨2, 3⟩) (meth := k2m3) (c := k2c3) (by decide +kernel) rfl rfl rfl (by decide +kernel)
set_option maxRecDepth 65536 in
theorem w_c4 : (Jvm.Cond.code ({ cls := "com/example/steady_quorum/steadyquorum/server/Session", name := "heardAt", desc := "(J)V" } : Jvm.MethodName) prog_90_method_8_code (3 : Nat) (Option.none : Option Jvm.ClassFile.FieldType)).before args0 about1 = true := code_word (m := ⟨2, 1⟩) (meth := k2m1) (c := k2c1) (by decide +kernel) rfl rfl rfl (by decide +kernel)
set_option maxRecDepth 65536 in
theorem w_c5 : (Jvm.Cond.code ({ cls := "com/example/steady_quorum/steadyquorum/server/Session", name := "restartAt", desc := "(J)V" } : Jvm.MethodName) prog_90_method_9_code (3 : Nat) (Option.none : Option Jvm.ClassFile.FieldType)).before args0 about1 = true := code_word (m := ⟨2, 2⟩) (meth := k2m2) (c := k2c2) (by decide +kernel) rfl rfl rfl (by decide +kernel)
def codes1 : List Jvm.Cond := [Jvm.Cond.code x code maxLocals ret, Jvm.Cond.code ({ cls := "com/example/steady_quorum/steadyquorum/server/Session", name := "<init>", desc := "(J[BI)V" } : Jvm.MethodName) prog_90_method_1_code (5 : Nat) (Option.none : Option Jvm.ClassFile.FieldType), Jvm.Cond.code ({ cls := "java/lang/Object", name := "<init>", desc := "()V" } : Jvm.MethodName) object_method_1_code (1 : Nat) (Option.none : Option Jvm.ClassFile.FieldType), Jvm.Cond.code ({ cls := "com/example/steady_quorum/steadyquorum/server/Session", name := "expireBy", desc := "(J)Z" } : Jvm.MethodName) prog_90_method_10_code (4 : Nat) (Option.some Jvm.ClassFile.FieldType.boolean), Jvm.Cond.code ({ cls := "com/example/steady_quorum/steadyquorum/server/Session", name := "heardAt", desc := "(J)V" } : Jvm.MethodName) prog_90_method_8_code (3 : Nat) (Option.none : Option Jvm.ClassFile.FieldType), Jvm.Cond.code ({ cls := "com/example/steady_quorum/steadyquorum/server/Session", name := "restartAt", desc := "(J)V" } : Jvm.MethodName) prog_90_method_9_code (3 : Nat) (Option.none : Option Jvm.ClassFile.FieldType)]
set_option maxRecDepth 65536 in
theorem codes_eq : words1.filter isCode = codes1 := rfl
theorem w_codes : ∀ c ∈ words1.filter isCode, c.before args0 about1 = true := by
  rw [codes_eq]
  intro c hc
  simp only [codes1, List.mem_cons, List.not_mem_nil, or_false] at hc
  rcases hc with rfl | rfl | rfl | rfl | rfl | rfl
  · exact w_c0
  · exact w_c1
  · exact w_c2
  · exact w_c3
  · exact w_c4
  · exact w_c5
set_option maxRecDepth 65536 in
theorem w_t1 : (words1.take 24).all (fun c => isCode c || c.before args0 about1) = true := by decide +kernel
set_option maxRecDepth 65536 in
theorem w_t2 : (words1.drop 24).all (fun c => isCode c || c.before args0 about1) = true := by decide +kernel
theorem w_tables : (allAtoms (Jvm.Cond.code x code maxLocals ret :: tables_1)).before args0 about1 = true := by
  rw [allAtoms_all]
  show words1.all (fun c => c.before args0 about1) = true
  refine all_split ?_ w_codes
  rw [← List.take_append_drop 24 words1, List.all_append, w_t1, w_t2]
  rfl
set_option maxRecDepth 65536 in
theorem w_case : (Jvm.Cond.and given_1 narrow_1).before args0 about1 = true := by decide +kernel
theorem w_applies : (headSpec (Jvm.Cond.code x code maxLocals ret :: tables_1) room_1).applies x e0.platform about1 = true :=
  (Spec.applies_iff w_frames).mpr ⟨w_running, w_runnable, w_alone, w_named, w_hears, w_ripe, w_room, w_tables⟩
theorem atStart : AtStart classFile x code maxLocals ret World_1 tables_1 room_1 Calls_1 rest_1 Pre_1 launch0 p0 e0 about1 theMethod args0 below0 :=
  ⟨lists_1, trivial, launch0.admits_env _ _ _, launch0.least_env, fairChoices_fair.cas, fairChoices_fair.clock, w_frames, w_args, w_heap, w_applies, trivial, trivial, w_case⟩
end start1
theorem witness_1 : WitnessClaimed_1 := ⟨start1.p0, start1.e0, start1.about1, start1.theMethod, start1.args0, start1.below0, start1.atStart⟩
end Jvm.Pilot.@@N@@
