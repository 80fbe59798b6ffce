import JvmDerived
import JvmDerived.Pilot.@@N@@Statement
import JvmDerived.Pilot.@@N@@Code
set_option linter.unusedVariables false
set_option linter.unusedSimpArgs false
namespace Jvm.Pilot.@@N@@
open Jvm Jvm.ClassFile Sem Op Lib Jvm.Free Jvm.Stand Jvm.LawKit Jvm.RoadKit Bundle Jvm.Pilot.@@N@@.Jvm.D
/-! A. where a walk stands: W; what a body owes: Gl; a body's contract: Ctr -/
abbrev Cx := Program × Env × State × MethodId × Array Value × List Frame × Method × Code × State
def W (l : Launch) (Z : State) (n0 : Nat) (y : MethodName) (bytes : ByteArray) (maxl : Nat) (ret : Option FieldType) (R : Room) (G : Cx) (h : Heap) (pc : Nat) (Ls : Array Slot) (St : List Value) (cells slots : Nat) : Prop :=
  match G with
  | (p, e, s, m, args, below, meth, c, st) =>
    p.tables.exec = Jvm.exec ∧ Z.Warmed39 s.vm ∧ c.code = bytes ∧ c.maxLocals = maxl ∧ s.vm.findClass y.cls = some m.cls ∧ meth.name = y.name ∧ meth.sig.returnType = ret ∧ meth.locks = false ∧ n0 ≤ s.heap.size ∧
    ∃ (T : State) (locs : List Loc), Stand p l e R s m args below meth c T locs cells slots ∧ Fr n0 locs ∧ T.heap = h ∧ ∀ t, Steps p.tables e below (T.setTop (mkF m pc Ls St)) t → Steps p.tables e below st t
def Gl (R : Room) (n0 : Nat) (G : Cx) (Q : Option Value → Heap → Prop) : Prop :=
  match G with
  | (p, e, s, m, args, below, meth, c, st) => ∃ s₂ o, Steps p.tables e below st s₂ ∧ s₂.status = .running ∧ Ended s₂ below o ∧ ∃ v L, o = .returned v ∧ (Fr n0 L ∧ Q v s₂.heap) ∧ FrameEnd s o s₂ L R.cells R.slots
def Ctr (l : Launch) (Z : State) (n0 : Nat) (y : MethodName) (bytes : ByteArray) (maxl : Nat) (ret : Option FieldType) (ws : List Jvm.Cond) (R : Room) (as : Array Value) (h0 : Heap) (Q : Option Value → Heap → Prop) : Prop :=
  MetFree l y (head1 (Jvm.Cond.code y bytes maxl ret :: ws) R) (fun a U => a = as ∧ Z.Warmed39 U.vm ∧ U.heap = h0) (fun _ _ _ _ _ => True) (fun _ U o U' => ∃ v L, o = .returned v ∧ (Fr n0 L ∧ Q v U'.heap) ∧ FrameEnd U o U' L R.cells R.slots)
def QI (P : Int32 → Heap → Prop) (v : Option Value) (h : Heap) : Prop := ∃ r, v = some (.int r) ∧ P r h
def QJ (P : Int64 → Heap → Prop) (v : Option Value) (h : Heap) : Prop := ∃ r, v = some (.long r) ∧ P r h
def QA (P : Addr → Heap → Prop) (v : Option Value) (h : Heap) : Prop := ∃ r, v = some (.ref r) ∧ P r h
def QV (P : Heap → Prop) (v : Option Value) (h : Heap) : Prop := v = none ∧ P h
theorem ilt {x y : Int32} {a b : Int} (ha : x.toInt = a) (hb : y.toInt = b) (h : a < b) : x < y := by subst ha hb; exact Int32.lt_iff_toInt_lt.mpr h
theorem inlt {x y : Int32} {a b : Int} (ha : x.toInt = a) (hb : y.toInt = b) (h : ¬ a < b) : ¬ x < y := by subst ha hb; exact fun q => h (Int32.lt_iff_toInt_lt.mp q)
theorem igt {x y : Int32} {a b : Int} (ha : x.toInt = a) (hb : y.toInt = b) (h : b < a) : y < x := ilt hb ha h
theorem ingt {x y : Int32} {a b : Int} (ha : x.toInt = a) (hb : y.toInt = b) (h : ¬ b < a) : ¬ y < x := inlt hb ha h
theorem ieq {x y : Int32} {a b : Int} (ha : x.toInt = a) (hb : y.toInt = b) (h : a = b) : x = y := by subst ha hb; exact Int32.toInt_inj.mp h
theorem ine {x y : Int32} {a b : Int} (ha : x.toInt = a) (hb : y.toInt = b) (h : ¬ a = b) : ¬ x = y := by subst ha hb; exact fun q => h (Int32.toInt_inj.mpr q)
theorem llt {x y : Int64} {a b : Int} (ha : x.toInt = a) (hb : y.toInt = b) (h : a < b) : lcmpW x y < 0 := by subst ha hb; exact (lw_lt _ _).mpr (Int64.lt_iff_toInt_lt.mpr h)
theorem lnlt {x y : Int64} {a b : Int} (ha : x.toInt = a) (hb : y.toInt = b) (h : ¬ a < b) : ¬ lcmpW x y < 0 := by subst ha hb; exact fun q => h (Int64.lt_iff_toInt_lt.mp ((lw_lt _ _).mp q))
theorem lgt {x y : Int64} {a b : Int} (ha : x.toInt = a) (hb : y.toInt = b) (h : b < a) : 0 < lcmpW x y := by subst ha hb; exact (lw_gt _ _).mpr (Int64.lt_iff_toInt_lt.mpr h)
theorem lngt {x y : Int64} {a b : Int} (ha : x.toInt = a) (hb : y.toInt = b) (h : ¬ b < a) : ¬ 0 < lcmpW x y := by subst ha hb; exact fun q => h (Int64.lt_iff_toInt_lt.mp ((lw_gt _ _).mp q))
theorem leq {x y : Int64} {a b : Int} (ha : x.toInt = a) (hb : y.toInt = b) (h : a = b) : lcmpW x y = 0 := by subst ha hb; exact (lw_eq _ _).mpr (Int64.toInt_inj.mp h)
theorem lne {x y : Int64} {a b : Int} (ha : x.toInt = a) (hb : y.toInt = b) (h : ¬ a = b) : ¬ lcmpW x y = 0 := by subst ha hb; exact fun q => h (Int64.toInt_inj.mpr ((lw_eq _ _).mp q))
def Two (s t : Slot) : Prop := (s = .unset ∧ t = .unset) ∨ ∃ q : Int64, s = .val (.long q) ∧ t = .second
section Walk
variable {l : Launch} {Z : State} {n0 : Nat} {y : MethodName} {bytes : ByteArray} {maxl : Nat} {ret : Option FieldType} {R : Room} {G : Cx} {h : Heap} {pc pc' : Nat} {Ls : Array Slot} {St : List Value} {C S C' S' : Nat} {Q : Option Value → Heap → Prop} {a0 : Array Value}
theorem W.mk {p : Program} {e : Env} {s : State} {m : MethodId} {args : Array Value} {below : List Frame} {meth : Method} {c : Code} {st : State} {T : State} {locs : List Loc} (hx : p.tables.exec = Jvm.exec) (hZ : Z.Warmed39 s.vm) (hby : c.code = bytes) (hml : c.maxLocals = maxl) (hown : s.vm.findClass y.cls = some m.cls) (hnm : meth.name = y.name) (hrt : meth.sig.returnType = ret) (hlk : meth.locks = false) (hn0 : n0 ≤ s.heap.size)
    (X : Stand p l e R s m args below meth c T locs C S) (N : Fr n0 locs) (eT : T.heap = h) (k : ∀ t, Steps p.tables e below (T.setTop (mkF m pc Ls St)) t → Steps p.tables e below st t) : W l Z n0 y bytes maxl ret R (p, e, s, m, args, below, meth, c, st) h pc Ls St C S :=
  show _ ∧ _ from ⟨hx, hZ, hby, hml, hown, hnm, hrt, hlk, hn0, T, locs, X, N, eT, k⟩
theorem ctr_of {ws : List Jvm.Cond} {as : Array Value} (hpn : plainFor y = true) (hn0 : n0 ≤ h.size) (hef : ∀ m, entryFrame m as maxl = mkF m 0 Ls []) (body : ∀ G, W l Z n0 y bytes maxl ret R G h 0 Ls [] 0 0 → Gl R n0 G Q) : Ctr l Z n0 y bytes maxl ret ws R as h Q := by
  refine MetFree.of_bodySF hpn hisR ?_
  intro p e s m args below meth c s₁ Bd hml0 hP hK
  obtain ⟨rfl, hZ, hh⟩ := hP
  have e0 : s₁.heap = h := by rw [← hh, Bd.state]; rfl
  exact body (p, e, s, m, args, below, meth, c, s₁.setTop (entryFrame m args maxl)) (W.mk Bd.exec hZ Bd.bytes hml0 (findClass_of_methodNamed Bd.named) (name_of_methodNamed Bd.named Bd.method).1 Bd.returns (BodyLoose.notSynchronized Bd) (hh ▸ hn0) (Stand.of_body Bd) (Fr.nil n0) e0 (fun t k => castTop (hef m) k))
theorem W.size (A : W l Z n0 y bytes maxl ret R G h pc Ls St C S) : n0 ≤ h.size := by
  obtain ⟨p, e, s, m, args, below, meth, c, st⟩ := G
  obtain ⟨hx, hZ, hby, hml, hown, hnm, hrt, hlk, hn0, T, locs, X, N, eT, k⟩ := A
  exact Nat.le_trans hn0 (by rw [← eT]; exact X.same.2.1)
theorem W.more (A : W l Z n0 y bytes maxl ret R G h pc Ls St C S) (hC : C ≤ C') (hS : S ≤ S') : W l Z n0 y bytes maxl ret R G h pc Ls St C' S' := by
  obtain ⟨p, e, s, m, args, below, meth, c, st⟩ := G
  obtain ⟨hx, hZ, hby, hml, hown, hnm, hrt, hlk, hn0, T, locs, X, N, eT, k⟩ := A
  exact W.mk hx hZ hby hml hown hnm hrt hlk hn0 (X.more hC hS) N eT k
theorem W.cast {Ls' : Array Slot} {St' : List Value} (A : W l Z n0 y bytes maxl ret R G h pc Ls St C S) (hp : pc = pc') (hL : Ls = Ls') (hSt : St = St') : W l Z n0 y bytes maxl ret R G h pc' Ls' St' C S := by subst hp hL hSt; exact A
theorem W.topI {x z : Int32} (A : W l Z n0 y bytes maxl ret R G h pc Ls (.int x :: St) C S) (q : x = z) : W l Z n0 y bytes maxl ret R G h pc Ls (.int z :: St) C S := q ▸ A
theorem W.topJ {x z : Int64} (A : W l Z n0 y bytes maxl ret R G h pc Ls (.long x :: St) C S) (q : x = z) : W l Z n0 y bytes maxl ret R G h pc Ls (.long z :: St) C S := q ▸ A
/-- a plain step -/
theorem W.step (A : W l Z n0 y bytes maxl ret R G h pc Ls St C S) {Ls' : Array Slot} {St' : List Value}
    (f : ∀ {p : Program} {e : Env} {s : State} {m : MethodId} {args : Array Value} {below : List Frame} {meth : Method} {c : Code} {T t : State} {locs : List Loc}, Stand p l e R s m args below meth c T locs C S → p.tables.exec = Jvm.exec → Z.Warmed39 s.vm → s.vm.findClass y.cls = some m.cls → c.code = bytes → T.heap = h → Steps p.tables e below (T.setTop (mkF m pc' Ls' St')) t → Steps p.tables e below (T.setTop (mkF m pc Ls St)) t) : W l Z n0 y bytes maxl ret R G h pc' Ls' St' C S := by
  obtain ⟨p, e, s, m, args, below, meth, c, st⟩ := G
  obtain ⟨hx, hZ, hby, hml, hown, hnm, hrt, hlk, hn0, T, locs, X, N, eT, k⟩ := A
  exact W.mk hx hZ hby hml hown hnm hrt hlk hn0 X N eT (fun t q => k t (f X hx hZ hown hby eT q))
/-! B. plain instructions -/
theorem W.iloadN (A : W l Z n0 y bytes maxl ret R G h pc Ls St C S) {k : Fin 4} {v : Int32} (hd : decode bytes pc = .ok (.iload_n k, 1)) (hl : Ls[k.val]? = some (.val (.int v))) (hp : pc + 1 = pc') : W l Z n0 y bytes maxl ret R G h pc' Ls (.int v :: St) C S := by
  subst hp; exact A.step fun X hx _ _ q _ r => XS.iloadN X.here hx rfl (hb q hd) hl r
theorem W.iload (A : W l Z n0 y bytes maxl ret R G h pc Ls St C S) {k : Nat} {v : Int32} (hd : decode bytes pc = .ok (.iload k, 2)) (hl : Ls[k]? = some (.val (.int v))) (hp : pc + 2 = pc') : W l Z n0 y bytes maxl ret R G h pc' Ls (.int v :: St) C S := by
  subst hp; exact A.step fun X hx _ _ q _ r => XS.iload X.here hx rfl (hb q hd) hl r
theorem W.lloadN (A : W l Z n0 y bytes maxl ret R G h pc Ls St C S) {k : Fin 4} {v : Int64} (hd : decode bytes pc = .ok (.lload_n k, 1)) (hl : Ls[k.val]? = some (.val (.long v))) (hp : pc + 1 = pc') : W l Z n0 y bytes maxl ret R G h pc' Ls (.long v :: St) C S := by
  subst hp; exact A.step fun X hx _ _ q _ r => XS.lloadN X.here hx rfl (hb q hd) hl r
theorem W.lload (A : W l Z n0 y bytes maxl ret R G h pc Ls St C S) {k : Nat} {v : Int64} (hd : decode bytes pc = .ok (.lload k, 2)) (hl : Ls[k]? = some (.val (.long v))) (hp : pc + 2 = pc') : W l Z n0 y bytes maxl ret R G h pc' Ls (.long v :: St) C S := by
  subst hp; exact A.step fun X hx _ _ q _ r => XS.lload X.here hx rfl (hb q hd) hl r
theorem W.aloadN (A : W l Z n0 y bytes maxl ret R G h pc Ls St C S) {k : Fin 4} {v : Value} (hd : decode bytes pc = .ok (.aload_n k, 1)) (hl : Ls[k.val]? = some (.val v)) (hv : v.isRef = true) (hp : pc + 1 = pc') : W l Z n0 y bytes maxl ret R G h pc' Ls (v :: St) C S := by
  subst hp; exact A.step fun X hx _ _ q _ r => XS.aloadN X.here hx rfl (hb q hd) hl hv r
theorem W.aload (A : W l Z n0 y bytes maxl ret R G h pc Ls St C S) {k : Nat} {v : Value} (hd : decode bytes pc = .ok (.aload k, 2)) (hl : Ls[k]? = some (.val v)) (hv : v.isRef = true) (hp : pc + 2 = pc') : W l Z n0 y bytes maxl ret R G h pc' Ls (v :: St) C S := by
  subst hp; exact A.step fun X hx _ _ q _ r => XS.aload X.here hx rfl (hb q hd) hl hv r
theorem W.istoreN {v : Int32} (A : W l Z n0 y bytes maxl ret R G h pc Ls (.int v :: St) C S) {k : Fin 4} {Ls' : Array Slot} (hd : decode bytes pc = .ok (.istore_n k, 1)) (hl : storeLocals Ls k.val (.int v) = some Ls') (hp : pc + 1 = pc') : W l Z n0 y bytes maxl ret R G h pc' Ls' St C S := by
  subst hp; exact A.step fun X hx _ _ q _ r => XS.istoreN X.here hx rfl (hb q hd) rfl hl r
theorem W.istore {v : Int32} (A : W l Z n0 y bytes maxl ret R G h pc Ls (.int v :: St) C S) {k : Nat} {Ls' : Array Slot} (hd : decode bytes pc = .ok (.istore k, 2)) (hl : storeLocals Ls k (.int v) = some Ls') (hp : pc + 2 = pc') : W l Z n0 y bytes maxl ret R G h pc' Ls' St C S := by
  subst hp; exact A.step fun X hx _ _ q _ r => XS.istore X.here hx rfl (hb q hd) rfl hl r
theorem W.lstoreN {v : Int64} (A : W l Z n0 y bytes maxl ret R G h pc Ls (.long v :: St) C S) {k : Fin 4} {Ls' : Array Slot} (hd : decode bytes pc = .ok (.lstore_n k, 1)) (hl : storeLocals Ls k.val (.long v) = some Ls') (hp : pc + 1 = pc') : W l Z n0 y bytes maxl ret R G h pc' Ls' St C S := by
  subst hp; exact A.step fun X hx _ _ q _ r => XS.lstoreN X.here hx rfl (hb q hd) rfl hl r
theorem W.lstore {v : Int64} (A : W l Z n0 y bytes maxl ret R G h pc Ls (.long v :: St) C S) {k : Nat} {Ls' : Array Slot} (hd : decode bytes pc = .ok (.lstore k, 2)) (hl : storeLocals Ls k (.long v) = some Ls') (hp : pc + 2 = pc') : W l Z n0 y bytes maxl ret R G h pc' Ls' St C S := by
  subst hp; exact A.step fun X hx _ _ q _ r => XS.lstore X.here hx rfl (hb q hd) rfl hl r
theorem W.astoreN {v : Value} (A : W l Z n0 y bytes maxl ret R G h pc Ls (v :: St) C S) {k : Fin 4} {Ls' : Array Slot} (hd : decode bytes pc = .ok (.astore_n k, 1)) (hv : v.isRef = true) (hl : storeLocals Ls k.val v = some Ls') (hp : pc + 1 = pc') : W l Z n0 y bytes maxl ret R G h pc' Ls' St C S := by
  subst hp; exact A.step fun X hx _ _ q _ r => XS.astoreN X.here hx rfl (hb q hd) rfl hv hl r
theorem W.astore {v : Value} (A : W l Z n0 y bytes maxl ret R G h pc Ls (v :: St) C S) {k : Nat} {Ls' : Array Slot} (hd : decode bytes pc = .ok (.astore k, 2)) (hv : v.isRef = true) (hl : storeLocals Ls k v = some Ls') (hp : pc + 2 = pc') : W l Z n0 y bytes maxl ret R G h pc' Ls' St C S := by
  subst hp; exact A.step fun X hx _ _ q _ r => XS.astore X.here hx rfl (hb q hd) rfl hv hl r
theorem W.iconst (A : W l Z n0 y bytes maxl ret R G h pc Ls St C S) {i : Int} {z : Int32} (hd : decode bytes pc = .ok (.iconst i, 1)) (hz : Int32.ofInt i = z) (hp : pc + 1 = pc') : W l Z n0 y bytes maxl ret R G h pc' Ls (.int z :: St) C S := by
  subst hp hz; exact A.step fun X hx _ _ q _ r => XS.iconst X.here hx rfl (hb q hd) r
theorem W.bipush (A : W l Z n0 y bytes maxl ret R G h pc Ls St C S) {i : Int} {z : Int32} (hd : decode bytes pc = .ok (.bipush i, 2)) (hz : (Int8.ofInt i).toInt32 = z) (hp : pc + 2 = pc') : W l Z n0 y bytes maxl ret R G h pc' Ls (.int z :: St) C S := by
  subst hp hz; exact A.step fun X hx _ _ q _ r => XS.bipush X.here hx rfl (hb q hd) r
theorem W.sipush (A : W l Z n0 y bytes maxl ret R G h pc Ls St C S) {i : Int} {z : Int32} (hd : decode bytes pc = .ok (.sipush i, 3)) (hz : (Int16.ofInt i).toInt32 = z) (hp : pc + 3 = pc') : W l Z n0 y bytes maxl ret R G h pc' Ls (.int z :: St) C S := by
  subst hp hz; exact A.step fun X hx _ _ q _ r => XS.sipush X.here hx rfl (hb q hd) r
theorem W.lconst (A : W l Z n0 y bytes maxl ret R G h pc Ls St C S) {k : Fin 2} {z : Int64} (hd : decode bytes pc = .ok (.lconst k, 1)) (hz : Int64.ofNat k.val = z) (hp : pc + 1 = pc') : W l Z n0 y bytes maxl ret R G h pc' Ls (.long z :: St) C S := by
  subst hp hz; exact A.step fun X hx _ _ q _ r => XS.lconst X.here hx rfl (hb q hd) r
theorem W.aconstNull (A : W l Z n0 y bytes maxl ret R G h pc Ls St C S) (hd : decode bytes pc = .ok (.aconst_null, 1)) (hp : pc + 1 = pc') : W l Z n0 y bytes maxl ret R G h pc' Ls (.null :: St) C S := by
  subst hp; exact A.step fun X hx _ _ q _ r => XS.aconstNull X.here hx rfl (hb q hd) r
theorem W.ldc (A : W l Z n0 y bytes maxl ret R G h pc Ls St C S) {i : Nat} {z : Int32} (hd : decode bytes pc = .ok (.ldc i, 2)) (w : (Jvm.Cond.constant y.cls i z).before a0 Z = true) (hp : pc + 2 = pc') : W l Z n0 y bytes maxl ret R G h pc' Ls (.int z :: St) C S := by
  subst hp; exact A.step fun X hx hZ hown q _ r => X.ldcInt hx hown (mvT hZ w) (g := mkF _ pc Ls St) rfl (hb q hd) _ r
theorem W.ldcW (A : W l Z n0 y bytes maxl ret R G h pc Ls St C S) {i : Nat} {z : Int32} (hd : decode bytes pc = .ok (.ldc_w i, 3)) (w : (Jvm.Cond.constant y.cls i z).before a0 Z = true) (hp : pc + 3 = pc') : W l Z n0 y bytes maxl ret R G h pc' Ls (.int z :: St) C S := by
  subst hp; exact A.step fun X hx hZ hown q _ r => X.ldcwInt hx hown (mvT hZ w) (g := mkF _ pc Ls St) rfl (hb q hd) _ r
theorem W.ldc2 (A : W l Z n0 y bytes maxl ret R G h pc Ls St C S) {i : Nat} {z : Int64} (hd : decode bytes pc = .ok (.ldc2_w i, 3)) (w : (Jvm.Cond.constantLong y.cls i z).before a0 Z = true) (hp : pc + 3 = pc') : W l Z n0 y bytes maxl ret R G h pc' Ls (.long z :: St) C S := by
  subst hp; exact A.step fun X hx hZ hown q _ r => X.ldc2Long hx hown (mvT hZ w) (g := mkF _ pc Ls St) rfl (hb q hd) _ r
theorem W.iinc (A : W l Z n0 y bytes maxl ret R G h pc Ls St C S) {k : Nat} {i : Int} {v z : Int32} {Ls' : Array Slot} (hd : decode bytes pc = .ok (.iinc k i, 3)) (hl : Ls[k]? = some (.val (.int v))) (hz : v + Int32.ofInt i = z) (hl' : storeLocals Ls k (.int z) = some Ls') (hp : pc + 3 = pc') : W l Z n0 y bytes maxl ret R G h pc' Ls' St C S := by
  subst hp hz; exact A.step fun X hx _ _ q _ r => XS.iinc X.here hx rfl (hb q hd) hl hl' r
theorem W.iadd {x z : Int32} (A : W l Z n0 y bytes maxl ret R G h pc Ls (.int z :: .int x :: St) C S) (hd : decode bytes pc = .ok (.iadd, 1)) (hp : pc + 1 = pc') : W l Z n0 y bytes maxl ret R G h pc' Ls (.int (x + z) :: St) C S := by
  subst hp; exact A.step fun X hx _ _ q _ r => XS.iadd X.here hx rfl (hb q hd) rfl r
theorem W.ladd {x z : Int64} (A : W l Z n0 y bytes maxl ret R G h pc Ls (.long z :: .long x :: St) C S) (hd : decode bytes pc = .ok (.ladd, 1)) (hp : pc + 1 = pc') : W l Z n0 y bytes maxl ret R G h pc' Ls (.long (x + z) :: St) C S := by
  subst hp; exact A.step fun X hx _ _ q _ r => XS.ladd X.here hx rfl (hb q hd) rfl r
theorem W.isub {x z : Int32} (A : W l Z n0 y bytes maxl ret R G h pc Ls (.int z :: .int x :: St) C S) (hd : decode bytes pc = .ok (.isub, 1)) (hp : pc + 1 = pc') : W l Z n0 y bytes maxl ret R G h pc' Ls (.int (x - z) :: St) C S := by
  subst hp; exact A.step fun X hx _ _ q _ r => XS.isub X.here hx rfl (hb q hd) rfl r
theorem W.lsub {x z : Int64} (A : W l Z n0 y bytes maxl ret R G h pc Ls (.long z :: .long x :: St) C S) (hd : decode bytes pc = .ok (.lsub, 1)) (hp : pc + 1 = pc') : W l Z n0 y bytes maxl ret R G h pc' Ls (.long (x - z) :: St) C S := by
  subst hp; exact A.step fun X hx _ _ q _ r => XS.lsub X.here hx rfl (hb q hd) rfl r
theorem W.imul {x z : Int32} (A : W l Z n0 y bytes maxl ret R G h pc Ls (.int z :: .int x :: St) C S) (hd : decode bytes pc = .ok (.imul, 1)) (hp : pc + 1 = pc') : W l Z n0 y bytes maxl ret R G h pc' Ls (.int (x * z) :: St) C S := by
  subst hp; exact A.step fun X hx _ _ q _ r => XS.imul X.here hx rfl (hb q hd) rfl r
theorem W.lmul {x z : Int64} (A : W l Z n0 y bytes maxl ret R G h pc Ls (.long z :: .long x :: St) C S) (hd : decode bytes pc = .ok (.lmul, 1)) (hp : pc + 1 = pc') : W l Z n0 y bytes maxl ret R G h pc' Ls (.long (x * z) :: St) C S := by
  subst hp; exact A.step fun X hx _ _ q _ r => XS.lmul X.here hx rfl (hb q hd) rfl r
theorem W.iand {x z : Int32} (A : W l Z n0 y bytes maxl ret R G h pc Ls (.int z :: .int x :: St) C S) (hd : decode bytes pc = .ok (.iand, 1)) (hp : pc + 1 = pc') : W l Z n0 y bytes maxl ret R G h pc' Ls (.int (x &&& z) :: St) C S := by
  subst hp; exact A.step fun X hx _ _ q _ r => XS.iand X.here hx rfl (hb q hd) rfl r
theorem W.land {x z : Int64} (A : W l Z n0 y bytes maxl ret R G h pc Ls (.long z :: .long x :: St) C S) (hd : decode bytes pc = .ok (.land, 1)) (hp : pc + 1 = pc') : W l Z n0 y bytes maxl ret R G h pc' Ls (.long (x &&& z) :: St) C S := by
  subst hp; exact A.step fun X hx _ _ q _ r => XS.land X.here hx rfl (hb q hd) rfl r
theorem W.ior {x z : Int32} (A : W l Z n0 y bytes maxl ret R G h pc Ls (.int z :: .int x :: St) C S) (hd : decode bytes pc = .ok (.ior, 1)) (hp : pc + 1 = pc') : W l Z n0 y bytes maxl ret R G h pc' Ls (.int (x ||| z) :: St) C S := by
  subst hp; exact A.step fun X hx _ _ q _ r => XS.ior X.here hx rfl (hb q hd) rfl r
theorem W.lor {x z : Int64} (A : W l Z n0 y bytes maxl ret R G h pc Ls (.long z :: .long x :: St) C S) (hd : decode bytes pc = .ok (.lor, 1)) (hp : pc + 1 = pc') : W l Z n0 y bytes maxl ret R G h pc' Ls (.long (x ||| z) :: St) C S := by
  subst hp; exact A.step fun X hx _ _ q _ r => XS.lor X.here hx rfl (hb q hd) rfl r
theorem W.ixor {x z : Int32} (A : W l Z n0 y bytes maxl ret R G h pc Ls (.int z :: .int x :: St) C S) (hd : decode bytes pc = .ok (.ixor, 1)) (hp : pc + 1 = pc') : W l Z n0 y bytes maxl ret R G h pc' Ls (.int (x ^^^ z) :: St) C S := by
  subst hp; exact A.step fun X hx _ _ q _ r => XS.ixor X.here hx rfl (hb q hd) rfl r
theorem W.lxor {x z : Int64} (A : W l Z n0 y bytes maxl ret R G h pc Ls (.long z :: .long x :: St) C S) (hd : decode bytes pc = .ok (.lxor, 1)) (hp : pc + 1 = pc') : W l Z n0 y bytes maxl ret R G h pc' Ls (.long (x ^^^ z) :: St) C S := by
  subst hp; exact A.step fun X hx _ _ q _ r => XS.lxor X.here hx rfl (hb q hd) rfl r
theorem W.ineg {x : Int32} (A : W l Z n0 y bytes maxl ret R G h pc Ls (.int x :: St) C S) (hd : decode bytes pc = .ok (.ineg, 1)) (hp : pc + 1 = pc') : W l Z n0 y bytes maxl ret R G h pc' Ls (.int (-x) :: St) C S := by
  subst hp; exact A.step fun X hx _ _ q _ r => XS.ineg X.here hx rfl (hb q hd) rfl r
theorem W.lneg {x : Int64} (A : W l Z n0 y bytes maxl ret R G h pc Ls (.long x :: St) C S) (hd : decode bytes pc = .ok (.lneg, 1)) (hp : pc + 1 = pc') : W l Z n0 y bytes maxl ret R G h pc' Ls (.long (-x) :: St) C S := by
  subst hp; exact A.step fun X hx _ _ q _ r => XS.lneg X.here hx rfl (hb q hd) rfl r
theorem W.ishl {x z : Int32} (A : W l Z n0 y bytes maxl ret R G h pc Ls (.int z :: .int x :: St) C S) (hd : decode bytes pc = .ok (.ishl, 1)) (hp : pc + 1 = pc') : W l Z n0 y bytes maxl ret R G h pc' Ls (.int (x <<< (z &&& 31)) :: St) C S := by
  subst hp; exact A.step fun X hx _ _ q _ r => XS.ishl X.here hx rfl (hb q hd) rfl r
theorem W.ishr {x z : Int32} (A : W l Z n0 y bytes maxl ret R G h pc Ls (.int z :: .int x :: St) C S) (hd : decode bytes pc = .ok (.ishr, 1)) (hp : pc + 1 = pc') : W l Z n0 y bytes maxl ret R G h pc' Ls (.int (x >>> (z &&& 31)) :: St) C S := by
  subst hp; exact A.step fun X hx _ _ q _ r => XS.ishr X.here hx rfl (hb q hd) rfl r
theorem W.iushr {x z : Int32} (A : W l Z n0 y bytes maxl ret R G h pc Ls (.int z :: .int x :: St) C S) (hd : decode bytes pc = .ok (.iushr, 1)) (hp : pc + 1 = pc') : W l Z n0 y bytes maxl ret R G h pc' Ls (.int ((x.toUInt32 >>> (z &&& 31).toUInt32).toInt32) :: St) C S := by
  subst hp; exact A.step fun X hx _ _ q _ r => XS.iushr X.here hx rfl (hb q hd) rfl r
theorem W.lshl {x : Int64} {z : Int32} (A : W l Z n0 y bytes maxl ret R G h pc Ls (.int z :: .long x :: St) C S) (hd : decode bytes pc = .ok (.lshl, 1)) (hp : pc + 1 = pc') : W l Z n0 y bytes maxl ret R G h pc' Ls (.long (x <<< (z &&& 0x3f).toInt64) :: St) C S := by
  subst hp; exact A.step fun X hx _ _ q _ r => XS.lshl X.here hx rfl (hb q hd) rfl r
theorem W.lshr {x : Int64} {z : Int32} (A : W l Z n0 y bytes maxl ret R G h pc Ls (.int z :: .long x :: St) C S) (hd : decode bytes pc = .ok (.lshr, 1)) (hp : pc + 1 = pc') : W l Z n0 y bytes maxl ret R G h pc' Ls (.long (x >>> (z &&& 0x3f).toInt64) :: St) C S := by
  subst hp; exact A.step fun X hx _ _ q _ r => XS.lshr X.here hx rfl (hb q hd) rfl r
theorem W.lushr {x : Int64} {z : Int32} (A : W l Z n0 y bytes maxl ret R G h pc Ls (.int z :: .long x :: St) C S) (hd : decode bytes pc = .ok (.lushr, 1)) (hp : pc + 1 = pc') : W l Z n0 y bytes maxl ret R G h pc' Ls (.long ((x.toUInt64 >>> (z &&& 0x3f).toInt64.toUInt64).toInt64) :: St) C S := by
  subst hp; exact A.step fun X hx _ _ q _ r => XS.lushr X.here hx rfl (hb q hd) rfl r
theorem W.i2l {x : Int32} (A : W l Z n0 y bytes maxl ret R G h pc Ls (.int x :: St) C S) (hd : decode bytes pc = .ok (.i2l, 1)) (hp : pc + 1 = pc') : W l Z n0 y bytes maxl ret R G h pc' Ls (.long x.toInt64 :: St) C S := by
  subst hp; exact A.step fun X hx _ _ q _ r => XS.i2l X.here hx rfl (hb q hd) rfl r
theorem W.l2i {x : Int64} (A : W l Z n0 y bytes maxl ret R G h pc Ls (.long x :: St) C S) (hd : decode bytes pc = .ok (.l2i, 1)) (hp : pc + 1 = pc') : W l Z n0 y bytes maxl ret R G h pc' Ls (.int x.toInt32 :: St) C S := by
  subst hp; exact A.step fun X hx _ _ q _ r => XS.l2i X.here hx rfl (hb q hd) rfl r
theorem W.i2b {x : Int32} (A : W l Z n0 y bytes maxl ret R G h pc Ls (.int x :: St) C S) (hd : decode bytes pc = .ok (.i2b, 1)) (hp : pc + 1 = pc') : W l Z n0 y bytes maxl ret R G h pc' Ls (.int x.toInt8.toInt32 :: St) C S := by
  subst hp; exact A.step fun X hx _ _ q _ r => XS.i2b X.here hx rfl (hb q hd) rfl r
theorem W.i2s {x : Int32} (A : W l Z n0 y bytes maxl ret R G h pc Ls (.int x :: St) C S) (hd : decode bytes pc = .ok (.i2s, 1)) (hp : pc + 1 = pc') : W l Z n0 y bytes maxl ret R G h pc' Ls (.int x.toInt16.toInt32 :: St) C S := by
  subst hp; exact A.step fun X hx _ _ q _ r => XS.i2s X.here hx rfl (hb q hd) rfl r
theorem W.i2c {x : Int32} (A : W l Z n0 y bytes maxl ret R G h pc Ls (.int x :: St) C S) (hd : decode bytes pc = .ok (.i2c, 1)) (hp : pc + 1 = pc') : W l Z n0 y bytes maxl ret R G h pc' Ls (.int x.toUInt32.toUInt16.toUInt32.toInt32 :: St) C S := by
  subst hp; exact A.step fun X hx _ _ q _ r => XS.i2c X.here hx rfl (hb q hd) rfl r
theorem W.lcmp {x z : Int64} (A : W l Z n0 y bytes maxl ret R G h pc Ls (.long z :: .long x :: St) C S) (hd : decode bytes pc = .ok (.lcmp, 1)) (hp : pc + 1 = pc') : W l Z n0 y bytes maxl ret R G h pc' Ls (.int (lcmpW x z) :: St) C S := by
  subst hp; exact A.step fun X hx _ _ q _ r => XS.lcmp X.here hx rfl (hb q hd) rfl r
theorem W.idiv {x z : Int32} (A : W l Z n0 y bytes maxl ret R G h pc Ls (.int z :: .int x :: St) C S) (hd : decode bytes pc = .ok (.idiv, 1)) (hz : z ≠ 0) (hp : pc + 1 = pc') : W l Z n0 y bytes maxl ret R G h pc' Ls (.int (x / z) :: St) C S := by
  subst hp; exact A.step fun X hx _ _ q _ r => XS.idiv X.here hx rfl (hb q hd) rfl hz r
theorem W.irem {x z : Int32} (A : W l Z n0 y bytes maxl ret R G h pc Ls (.int z :: .int x :: St) C S) (hd : decode bytes pc = .ok (.irem, 1)) (hz : z ≠ 0) (hp : pc + 1 = pc') : W l Z n0 y bytes maxl ret R G h pc' Ls (.int (x % z) :: St) C S := by
  subst hp; exact A.step fun X hx _ _ q _ r => iremM (g := mkF _ _ _ _) X hx rfl (hb q hd) rfl hz r
theorem W.ldiv {x z : Int64} (A : W l Z n0 y bytes maxl ret R G h pc Ls (.long z :: .long x :: St) C S) (hd : decode bytes pc = .ok (.ldiv, 1)) (hz : z ≠ 0) (hp : pc + 1 = pc') : W l Z n0 y bytes maxl ret R G h pc' Ls (.long (x / z) :: St) C S := by
  subst hp; exact A.step fun X hx _ _ q _ r => XS.ldiv X.here hx rfl (hb q hd) rfl hz r
theorem W.lrem {x z : Int64} (A : W l Z n0 y bytes maxl ret R G h pc Ls (.long z :: .long x :: St) C S) (hd : decode bytes pc = .ok (.lrem, 1)) (hz : z ≠ 0) (hp : pc + 1 = pc') : W l Z n0 y bytes maxl ret R G h pc' Ls (.long (x % z) :: St) C S := by
  subst hp; exact A.step fun X hx _ _ q _ r => XS.lrem X.here hx rfl (hb q hd) rfl hz (by rw [lrem_mod]; exact r)
theorem W.dup {v : Value} (A : W l Z n0 y bytes maxl ret R G h pc Ls (v :: St) C S) (hd : decode bytes pc = .ok (.dup, 1)) (hc : v.category = 1) (hp : pc + 1 = pc') : W l Z n0 y bytes maxl ret R G h pc' Ls (v :: v :: St) C S := by
  subst hp; exact A.step fun X hx _ _ q _ r => XS.dup X.here hx rfl (hb q hd) rfl hc r
theorem W.pop {v : Value} (A : W l Z n0 y bytes maxl ret R G h pc Ls (v :: St) C S) (hd : decode bytes pc = .ok (.pop, 1)) (hc : v.category = 1) (hp : pc + 1 = pc') : W l Z n0 y bytes maxl ret R G h pc' Ls St C S := by
  subst hp; exact A.step fun X hx _ _ q _ r => XS.pop X.here hx rfl (hb q hd) rfl hc r
theorem W.dupX1 {v w : Value} (A : W l Z n0 y bytes maxl ret R G h pc Ls (v :: w :: St) C S) (hd : decode bytes pc = .ok (.dup_x1, 1)) (hc : v.category = 1) (hc' : w.category = 1) (hp : pc + 1 = pc') : W l Z n0 y bytes maxl ret R G h pc' Ls (v :: w :: v :: St) C S := by
  subst hp; exact A.step fun X hx _ _ q _ r => XS.dupX1 X.here hx rfl (hb q hd) rfl hc hc' r
theorem W.dup2 {v w : Value} (A : W l Z n0 y bytes maxl ret R G h pc Ls (v :: w :: St) C S) (hd : decode bytes pc = .ok (.dup2, 1)) (hc : v.category = 1) (hc' : w.category = 1) (hp : pc + 1 = pc') : W l Z n0 y bytes maxl ret R G h pc' Ls (v :: w :: v :: w :: St) C S := by
  subst hp; exact A.step fun X hx _ _ q _ r => XT.dup2 X.here hx rfl (hb q hd) rfl hc hc' r
theorem W.dup2L {x : Int64} (A : W l Z n0 y bytes maxl ret R G h pc Ls (.long x :: St) C S) (hd : decode bytes pc = .ok (.dup2, 1)) (hp : pc + 1 = pc') : W l Z n0 y bytes maxl ret R G h pc' Ls (.long x :: .long x :: St) C S := by
  subst hp; exact A.step fun X hx _ _ q _ r => XT.dup2L X.here hx rfl (hb q hd) rfl r
theorem W.goto (A : W l Z n0 y bytes maxl ret R G h pc Ls St C S) {o : Int} (hd : decode bytes pc = .ok (.goto o, 3)) (ho : 0 ≤ (pc : Int) + o) (hp : ((pc : Int) + o).toNat = pc') : W l Z n0 y bytes maxl ret R G h pc' Ls St C S :=
  A.step fun X hx _ _ q _ r => XS.goto X.here hx rfl rfl (hb q hd) ho hp r
theorem W.ifYes {x : Int32} (A : W l Z n0 y bytes maxl ret R G h pc Ls (.int x :: St) C S) {cd : ClassFile.Cond} {o : Int} (hd : decode bytes pc = .ok (.ifCond cd o, 3)) (hc : if_icmp.holds cd x 0 = true) (ho : 0 ≤ (pc : Int) + o) (hp : ((pc : Int) + o).toNat = pc') : W l Z n0 y bytes maxl ret R G h pc' Ls St C S :=
  A.step fun X hx _ _ q _ r => XS.ifYes X.here hx rfl rfl (hb q hd) rfl ((if0 _ _).trans hc) ho hp r
theorem W.ifNo {x : Int32} (A : W l Z n0 y bytes maxl ret R G h pc Ls (.int x :: St) C S) {cd : ClassFile.Cond} {o : Int} (hd : decode bytes pc = .ok (.ifCond cd o, 3)) (hc : if_icmp.holds cd x 0 = false) (hp : pc + 3 = pc') : W l Z n0 y bytes maxl ret R G h pc' Ls St C S := by
  subst hp; exact A.step fun X hx _ _ q _ r => XS.ifNo X.here hx rfl (hb q hd) rfl ((if0 _ _).trans hc) r
theorem W.icmpYes {x z : Int32} (A : W l Z n0 y bytes maxl ret R G h pc Ls (.int z :: .int x :: St) C S) {cd : ClassFile.Cond} {o : Int} (hd : decode bytes pc = .ok (.if_icmp cd o, 3)) (hc : if_icmp.holds cd x z = true) (ho : 0 ≤ (pc : Int) + o) (hp : ((pc : Int) + o).toNat = pc') : W l Z n0 y bytes maxl ret R G h pc' Ls St C S :=
  A.step fun X hx _ _ q _ r => XS.icmpYes X.here hx rfl rfl (hb q hd) rfl hc ho hp r
theorem W.icmpNo {x z : Int32} (A : W l Z n0 y bytes maxl ret R G h pc Ls (.int z :: .int x :: St) C S) {cd : ClassFile.Cond} {o : Int} (hd : decode bytes pc = .ok (.if_icmp cd o, 3)) (hc : if_icmp.holds cd x z = false) (hp : pc + 3 = pc') : W l Z n0 y bytes maxl ret R G h pc' Ls St C S := by
  subst hp; exact A.step fun X hx _ _ q _ r => XS.icmpNo X.here hx rfl (hb q hd) rfl hc r
theorem W.ifnullYes (A : W l Z n0 y bytes maxl ret R G h pc Ls (.null :: St) C S) {o : Int} (hd : decode bytes pc = .ok (.ifnull o, 3)) (ho : 0 ≤ (pc : Int) + o) (hp : ((pc : Int) + o).toNat = pc') : W l Z n0 y bytes maxl ret R G h pc' Ls St C S :=
  A.step fun X hx _ _ q _ r => XS.ifnullYes X.here hx rfl rfl (hb q hd) rfl ho hp r
theorem W.ifnullNo {a : Addr} (A : W l Z n0 y bytes maxl ret R G h pc Ls (.ref a :: St) C S) {o : Int} (hd : decode bytes pc = .ok (.ifnull o, 3)) (hp : pc + 3 = pc') : W l Z n0 y bytes maxl ret R G h pc' Ls St C S := by
  subst hp; exact A.step fun X hx _ _ q _ r => XS.ifnullNo X.here hx rfl (hb q hd) rfl r
theorem W.ifnonnullNo (A : W l Z n0 y bytes maxl ret R G h pc Ls (.null :: St) C S) {o : Int} (hd : decode bytes pc = .ok (.ifnonnull o, 3)) (hp : pc + 3 = pc') : W l Z n0 y bytes maxl ret R G h pc' Ls St C S := by
  subst hp; exact A.step fun X hx _ _ q _ r => XS.ifnonnullNo X.here hx rfl (hb q hd) rfl r
theorem W.ifnonnullYes {a : Addr} (A : W l Z n0 y bytes maxl ret R G h pc Ls (.ref a :: St) C S) {o : Int} (hd : decode bytes pc = .ok (.ifnonnull o, 3)) (ho : 0 ≤ (pc : Int) + o) (hp : ((pc : Int) + o).toNat = pc') : W l Z n0 y bytes maxl ret R G h pc' Ls St C S :=
  A.step fun X hx _ _ q _ r => XS.ifnonnullYes X.here hx rfl rfl (hb q hd) rfl ho hp r
/-! C. the returns -/
theorem W.fin {v : Option Value} (A : W l Z n0 y bytes maxl ret R G h pc Ls St C S) (hC : C ≤ R.cells) (hS : S ≤ R.slots) (hv : ret = none → v = none) (hQ : Q v h)
    (f : ∀ {p : Program} {e : Env} {s : State} {m : MethodId} {args : Array Value} {below : List Frame} {meth : Method} {c : Code} {T : State} {locs : List Loc} {fs : List Frame}, Stand p l e R s m args below meth c T locs C S → p.tables.exec = Jvm.exec → c.code = bytes → meth.sig.returnType = ret → (∀ (f : JFrame) (acts : List Action), f.method = m → f.locked = none → f.entered = [] → (doReturn e (T.setTop f) acts v).1 = T.setFrames fs) → Steps p.tables e below (T.setTop (mkF m pc Ls St)) (T.setFrames fs)) : Gl R n0 G Q := by
  obtain ⟨p, e, s, m, args, below, meth, c, st⟩ := G
  obtain ⟨hx, hZ, hby, hml, hown, hnm, hrt, hlk, hn0, T, locs, X, N, eT, k⟩ := A
  obtain ⟨fs, hr, hrun, hended, hW, hsame⟩ := X.leave (v := v) (fun q => hv (hrt.symm.trans q)) hlk
  show ∃ s₂ o, _
  refine ⟨_, _, k _ (f X hx hby hrt hr), hrun, hended, v, locs, rfl, ⟨N, ?_⟩, ⟨_, rfl⟩, hW, hsame.mono hC hS⟩
  show Q v T.heap
  rw [eT]; exact hQ
theorem W.retI {z : Int32} (A : W l Z n0 y bytes maxl (some .int) R G h pc Ls (.int z :: St) C S) (hd : decode bytes pc = .ok (.ireturn, 1)) (hC : C ≤ R.cells) (hS : S ≤ R.slots) (hQ : Q (some (.int z)) h) : Gl R n0 G Q :=
  A.fin hC hS (fun q => nomatch q) hQ fun X hx q hret hr => retOut X hx hret (t := .int) rfl (Or.inl ⟨rfl, Or.inl rfl, z, rfl⟩) (hb q hd) hr
theorem W.retN {z z' : Int32} {t : FieldType} (A : W l Z n0 y bytes maxl (some t) R G h pc Ls (.int z :: St) C S) (hd : decode bytes pc = .ok (.ireturn, 1)) (hC : C ≤ R.cells) (hS : S ≤ R.slots) (ht : t = .boolean ∨ t = .byte ∨ t = .char ∨ t = .short) (hz : nar t z = z') (hQ : Q (some (.int z')) h) : Gl R n0 G Q := by
  subst hz; exact A.fin hC hS (fun q => nomatch q) hQ fun X hx q hret hr => RoadKit.retN X hx hret ht (hb q hd) hr
theorem W.retJ {z : Int64} (A : W l Z n0 y bytes maxl (some .long) R G h pc Ls (.long z :: St) C S) (hd : decode bytes pc = .ok (.lreturn, 1)) (hC : C ≤ R.cells) (hS : S ≤ R.slots) (hQ : Q (some (.long z)) h) : Gl R n0 G Q :=
  A.fin hC hS (fun q => nomatch q) hQ fun X hx q hret hr => retOut X hx hret (t := .long) rfl (Or.inr (Or.inl ⟨rfl, rfl, z, rfl⟩)) (hb q hd) hr
theorem W.retA {v : Value} {t : FieldType} (A : W l Z n0 y bytes maxl (some t) R G h pc Ls (v :: St) C S) (hd : decode bytes pc = .ok (.areturn, 1)) (hC : C ≤ R.cells) (hS : S ≤ R.slots) (ht : t.isReference = true) (hv : v.isRef = true) (hn : narrow t v = v) (hQ : Q (some v) h) : Gl R n0 G Q :=
  A.fin hC hS (fun q => nomatch q) hQ fun X hx q hret hr => retOut X hx hret (t := t) hn (Or.inr (Or.inr (Or.inr (Or.inr ⟨rfl, ht, hv⟩)))) (hb q hd) hr
theorem W.retV (A : W l Z n0 y bytes maxl none R G h pc Ls [] C S) (hd : decode bytes pc = .ok (.return_, 1)) (hC : C ≤ R.cells) (hS : S ≤ R.slots) (hQ : Q none h) : Gl R n0 G Q :=
  A.fin hC hS (fun _ => rfl) hQ fun X hx q hret hr => X.returnOut hx hret (hb q hd) hr
/-! D. calls -/
theorem W.callS (A : W l Z n0 y bytes maxl ret R G h pc Ls St C S) {y' : MethodName} {bytes' : ByteArray} {maxl' : Nat} {ret' : Option FieldType} {R' : Room} {as : Array Value} {idx : Nat} {argsL rest : List Value} {ps : List FieldType} {rr : Option FieldType} (hd : decode bytes pc = .ok (.invokestatic idx, 3))
    (w1 : (Jvm.Cond.methodLink y.cls idx y').before a0 Z = true) (w2 : (Jvm.Cond.static y').before a0 Z = true) (w3 : (Jvm.Cond.initialized y'.cls).before a0 Z = true) (w4 : (Jvm.Cond.code y' bytes' maxl' ret').before a0 Z = true) (hM : Ctr l Z n0 y' bytes' maxl' ret' [] R' as h Q) (has : argsL.toArray = as) (hs : St = argsL.reverse ++ rest)
    (hpd : parseMethodDescriptor y'.desc = some ⟨ps, rr⟩) (hlen : argsL.length = ps.length) (hsz : Ls.size = maxl) (hy : y'.cls ≠ "java/lang/invoke/MethodHandle" ∧ y'.cls ≠ "java/lang/invoke/VarHandle") (hf : R'.frames + 1 ≤ R.frames) (hlo : (rest.map fun v => v.category).sum + (maxl' + 11) + R'.locals ≤ R.locals) (hC : C + R'.cells ≤ R.cells) (hS : S + R'.slots ≤ R.slots) (hC' : C + R'.cells = C') (hS' : S + R'.slots = S') (hp : pc + 3 = pc') :
    ∃ v h', Q v h' ∧ W l Z n0 y bytes maxl ret R G h' pc' Ls (v.toList ++ rest) C' S' := by
  subst hp hC' hS' has
  obtain ⟨p, e, s, m, args, below, meth, c, st⟩ := G
  obtain ⟨hx, hZ, hby, hml, hown, hnm, hrt, hlk, hn0, T, locs, X, N, eT, k⟩ := A
  obtain ⟨v, _, ⟨T', L', k', n'⟩, -, X', ⟨Lc, hQ, l1, y1, z1⟩, st'⟩ := Jvm.LawKit.callS X hx (y := y') hown (mvT hZ w1) (mvT hZ w2) (mvT hZ w3) (mvT hZ w4) hy (backOf (Q := fun v h L => Fr n0 L ∧ Q v h) (W := (rest.map fun v => v.category).sum) hM hZ w4 w3 hf hlo) (g := mkF m pc Ls St) rfl (by rw [hml]; exact hsz) (argsL := argsL) (rest := rest) (lenOf hpd hlen) hs (by show 2 * 0 + _ ≤ _; omega) (hb hby hd) (fun _ _ => ⟨rfl, eT, hC, hS⟩)
  dsimp only [Pt.U, Pt.locs, Pt.cells, Pt.slots] at X' l1 y1 z1 st' hQ
  subst l1 y1 z1
  exact ⟨v, T'.heap, hQ.2, W.mk hx hZ hby hml hown hnm hrt hlk hn0 X' (N.app hQ.1) rfl (fun t q => k t (st' t q))⟩
theorem W.callI (A : W l Z n0 y bytes maxl ret R G h pc Ls St C S) {a : Addr} {y' : MethodName} {bytes' : ByteArray} {maxl' : Nat} {R' : Room} {as : Array Value} {idx : Nat} {argsL rest : List Value} {ps : List FieldType} {rr : Option FieldType} (hd : decode bytes pc = .ok (.invokespecial idx, 3)) (hy1 : y'.name = "<init>")
    (w1 : (Jvm.Cond.methodLink y.cls idx y').before a0 Z = true) (w2 : (Jvm.Cond.instanceMethod y').before a0 Z = true) (w3 : (Jvm.Cond.initialized y'.cls).before a0 Z = true) (w4 : (Jvm.Cond.code y' bytes' maxl' none).before a0 Z = true) (hM : Ctr l Z n0 y' bytes' maxl' none [] R' as h Q) (has : (.ref a :: argsL).toArray = as) (hs : St = argsL.reverse ++ .ref a :: rest)
    (hpd : parseMethodDescriptor y'.desc = some ⟨ps, rr⟩) (hlen : argsL.length = ps.length) (hsz : Ls.size = maxl) (hy : y'.cls ≠ "java/lang/invoke/MethodHandle" ∧ y'.cls ≠ "java/lang/invoke/VarHandle") (hf : R'.frames + 1 ≤ R.frames) (hlo : (rest.map fun v => v.category).sum + (maxl' + 11) + R'.locals ≤ R.locals) (hC : C + R'.cells ≤ R.cells) (hS : S + R'.slots ≤ R.slots) (hC' : C + R'.cells = C') (hS' : S + R'.slots = S') (hp : pc + 3 = pc') :
    ∃ v h', Q v h' ∧ W l Z n0 y bytes maxl ret R G h' pc' Ls (v.toList ++ rest) C' S' := by
  subst hp hC' hS' has
  obtain ⟨p, e, s, m, args, below, meth, c, st⟩ := G
  obtain ⟨hx, hZ, hby, hml, hown, hnm, hrt, hlk, hn0, T, locs, X, N, eT, k⟩ := A
  obtain ⟨v, _, ⟨T', L', k', n'⟩, -, X', ⟨Lc, hQ, l1, y1, z1⟩, st'⟩ := X.specialBack hx (y := y') hy1 hown (mvT hZ w1) (mvT hZ w2) (mvT hZ w4) hy (backOf (Q := fun v h L => Fr n0 L ∧ Q v h) (W := (rest.map fun v => v.category).sum) hM hZ w4 w3 hf hlo) (g := mkF m pc Ls St) rfl (by rw [hml]; exact hsz) (Steps.refl _) (a := a) (argsL := argsL) (rest := rest) (lenOf hpd hlen) hs (by show 2 * 0 + _ ≤ _; omega) (hb hby hd) (fun _ _ => ⟨rfl, eT, hC, hS⟩)
  dsimp only [Pt.U, Pt.locs, Pt.cells, Pt.slots] at X' l1 y1 z1 st' hQ
  subst l1 y1 z1
  exact ⟨v, T'.heap, hQ.2, W.mk hx hZ hby hml hown hnm hrt hlk hn0 X' (N.app hQ.1) rfl (fun t q => k t (st'.trans q))⟩
theorem W.callV (A : W l Z n0 y bytes maxl ret R G h pc Ls St C S) {a : Addr} {K : String} {y' z' : MethodName} {bytes' : ByteArray} {maxl' : Nat} {ret' : Option FieldType} {R' : Room} {as : Array Value} {idx : Nat} {argsL rest : List Value} {ps : List FieldType} {rr : Option FieldType} (hd : decode bytes pc = .ok (.invokevirtual idx, 3)) (E : Exa Z h a K)
    (w1 : (Jvm.Cond.methodLink y.cls idx y').before a0 Z = true) (wd : (Jvm.Cond.declares y').before a0 Z = true) (hnf : ∀ {s : State}, Z.Warmed39 s.vm → NotFace s y') (ws : (Jvm.Cond.selects K y' z').before a0 Z = true) (w2 : (Jvm.Cond.instanceMethod z').before a0 Z = true) (w3 : (Jvm.Cond.initialized z'.cls).before a0 Z = true) (w4 : (Jvm.Cond.code z' bytes' maxl' ret').before a0 Z = true) (hM : Ctr l Z n0 z' bytes' maxl' ret' [] R' as h Q) (has : (.ref a :: argsL).toArray = as) (hs : St = argsL.reverse ++ .ref a :: rest)
    (hpd : parseMethodDescriptor y'.desc = some ⟨ps, rr⟩) (hlen : argsL.length = ps.length) (hsz : Ls.size = maxl) (hy : y'.cls ≠ "java/lang/invoke/MethodHandle" ∧ y'.cls ≠ "java/lang/invoke/VarHandle") (hf : R'.frames + 1 ≤ R.frames) (hlo : (rest.map fun v => v.category).sum + (maxl' + 11) + R'.locals ≤ R.locals) (hC : C + R'.cells ≤ R.cells) (hS : S + R'.slots ≤ R.slots) (hC' : C + R'.cells = C') (hS' : S + R'.slots = S') (hp : pc + 3 = pc') :
    ∃ v h', Q v h' ∧ W l Z n0 y bytes maxl ret R G h' pc' Ls (v.toList ++ rest) C' S' := by
  subst hp hC' hS' has
  obtain ⟨p, e, s, m, args, below, meth, c, st⟩ := G
  obtain ⟨hx, hZ, hby, hml, hown, hnm, hrt, hlk, hn0, T, locs, X, N, eT, k⟩ := A
  obtain ⟨cq, kq, qa, qb, qc⟩ := isOf hZ eT E
  obtain ⟨v, _, ⟨T', L', k', n'⟩, -, X', ⟨Lc, hQ, l1, y1, z1⟩, st'⟩ := X.virtualBack hx (y := y') (z := z') hown (mvT hZ w1) (mvT hZ wd) (hnf hZ) (mvT hZ ws) (mvT hZ w2) hy (backOf (Q := fun v h L => Fr n0 L ∧ Q v h) (W := (rest.map fun v => v.category).sum) hM hZ w4 w3 hf hlo) qa qc (g := mkF m pc Ls St) rfl (by rw [hml]; exact hsz) (Steps.refl _) (argsL := argsL) (rest := rest) (lenOf hpd hlen) hs (by show 2 * 0 + _ ≤ _; omega) (hb hby hd) (fun _ _ => ⟨rfl, eT, hC, hS⟩)
  dsimp only [Pt.U, Pt.locs, Pt.cells, Pt.slots] at X' l1 y1 z1 st' hQ
  subst l1 y1 z1
  exact ⟨v, T'.heap, hQ.2, W.mk hx hZ hby hml hown hnm hrt hlk hn0 X' (N.app hQ.1) rfl (fun t q => k t (st'.trans q))⟩
theorem W.kI {P : Int32 → Heap → Prop} {rest : List Value} (q : ∃ v h', QI P v h' ∧ W l Z n0 y bytes maxl ret R G h' pc Ls (v.toList ++ rest) C S) : ∃ r h', P r h' ∧ W l Z n0 y bytes maxl ret R G h' pc Ls (.int r :: rest) C S := by
  obtain ⟨v, h', ⟨r, rfl, hP⟩, A⟩ := q; exact ⟨r, h', hP, A⟩
theorem W.kJ {P : Int64 → Heap → Prop} {rest : List Value} (q : ∃ v h', QJ P v h' ∧ W l Z n0 y bytes maxl ret R G h' pc Ls (v.toList ++ rest) C S) : ∃ r h', P r h' ∧ W l Z n0 y bytes maxl ret R G h' pc Ls (.long r :: rest) C S := by
  obtain ⟨v, h', ⟨r, rfl, hP⟩, A⟩ := q; exact ⟨r, h', hP, A⟩
theorem W.kA {P : Addr → Heap → Prop} {rest : List Value} (q : ∃ v h', QA P v h' ∧ W l Z n0 y bytes maxl ret R G h' pc Ls (v.toList ++ rest) C S) : ∃ r h', P r h' ∧ W l Z n0 y bytes maxl ret R G h' pc Ls (.ref r :: rest) C S := by
  obtain ⟨v, h', ⟨r, rfl, hP⟩, A⟩ := q; exact ⟨r, h', hP, A⟩
theorem W.kV {P : Heap → Prop} {rest : List Value} (q : ∃ v h', QV P v h' ∧ W l Z n0 y bytes maxl ret R G h' pc Ls (v.toList ++ rest) C S) : ∃ h', P h' ∧ W l Z n0 y bytes maxl ret R G h' pc Ls rest C S := by
  obtain ⟨v, h', ⟨rfl, hP⟩, A⟩ := q; exact ⟨h', hP, A⟩
end Walk
end Jvm.Pilot.@@N@@
namespace Jvm.Pilot.@@N@@
open Jvm Jvm.ClassFile Sem Op Lib Jvm.Free Jvm.Stand Jvm.LawKit Jvm.RoadKit Bundle
/-! numbers -/
theorem rng32 (x : Int32) : -2147483648 ≤ x.toInt ∧ x.toInt < 2147483648 := ⟨x.le_toInt, x.toInt_lt⟩
theorem rng64 (x : Int64) : -9223372036854775808 ≤ x.toInt ∧ x.toInt < 9223372036854775808 := ⟨x.le_toInt, x.toInt_lt⟩
theorem add32 (x y : Int32) (h1 : -2147483648 ≤ x.toInt + y.toInt) (h2 : x.toInt + y.toInt < 2147483648) : (x + y).toInt = x.toInt + y.toInt := by
  have e := c_iadd x y; have r := rng32 (x + y); omega
theorem sub32 (x y : Int32) (h1 : -2147483648 ≤ x.toInt - y.toInt) (h2 : x.toInt - y.toInt < 2147483648) : (x - y).toInt = x.toInt - y.toInt := by
  have e := c_isub x y; have r := rng32 (x - y); omega
theorem mul32 (x y : Int32) (h1 : -2147483648 ≤ x.toInt * y.toInt) (h2 : x.toInt * y.toInt < 2147483648) : (x * y).toInt = x.toInt * y.toInt := by
  have e := c_imul x y; have r := rng32 (x * y); generalize x.toInt * y.toInt = z at *; omega
theorem add64 (x y : Int64) (h1 : -9223372036854775808 ≤ x.toInt + y.toInt) (h2 : x.toInt + y.toInt < 9223372036854775808) : (x + y).toInt = x.toInt + y.toInt := by
  have e := c_ladd x y; have r := rng64 (x + y); omega
theorem sub64 (x y : Int64) (h1 : -9223372036854775808 ≤ x.toInt - y.toInt) (h2 : x.toInt - y.toInt < 9223372036854775808) : (x - y).toInt = x.toInt - y.toInt := by
  have e := c_lsub x y; have r := rng64 (x - y); omega
theorem mul64 (x y : Int64) (h1 : -9223372036854775808 ≤ x.toInt * y.toInt) (h2 : x.toInt * y.toInt < 9223372036854775808) : (x * y).toInt = x.toInt * y.toInt := by
  have e := c_lmul x y; have r := rng64 (x * y); generalize x.toInt * y.toInt = z at *; omega
theorem mulc32 (x c : Int32) (k : Int) (hc : c.toInt = k) (h1 : -2147483648 ≤ x.toInt * k) (h2 : x.toInt * k < 2147483648) : (x * c).toInt = x.toInt * k := by
  subst hc; exact mul32 x c h1 h2
theorem mulc64 (x c : Int64) (k : Int) (hc : c.toInt = k) (h1 : -9223372036854775808 ≤ x.toInt * k) (h2 : x.toInt * k < 9223372036854775808) : (x * c).toInt = x.toInt * k := by
  subst hc; exact mul64 x c h1 h2
theorem addc32 (x c : Int32) (k : Int) (hc : c.toInt = k) (h1 : -2147483648 ≤ x.toInt + k) (h2 : x.toInt + k < 2147483648) : (x + c).toInt = x.toInt + k := by
  subst hc; exact add32 x c h1 h2
theorem subc32 (x c : Int32) (k : Int) (hc : c.toInt = k) (h1 : -2147483648 ≤ x.toInt - k) (h2 : x.toInt - k < 2147483648) : (x - c).toInt = x.toInt - k := by
  subst hc; exact sub32 x c h1 h2
theorem sta_int {args : Array Value} {s : State} {C n d : String} {v : Int32} (h : (Jvm.Cond.eq (Jvm.Term.static C n d) (Jvm.Term.int v)).value args s none s [] = some true) : (Jvm.Term.static C n d).eval args s none [] s = some (.int v) := by
  obtain ⟨a, b, h1, h2, -, -⟩ := cmp_v (Or.inl h)
  cases Option.some.inj (h2.symm.trans (rfl : (Jvm.Term.int v).eval args s none [] s = some (.int v)))
  rw [h1]; cases a <;> simp [Cond.value, h1, h2] at h ⊢; exact h
theorem sta_long {args : Array Value} {s : State} {C n d : String} {v : Int64} (h : (Jvm.Cond.eq (Jvm.Term.static C n d) (Jvm.Term.long v)).value args s none s [] = some true) : (Jvm.Term.static C n d).eval args s none [] s = some (.long v) := by
  obtain ⟨a, b, h1, h2, -, -⟩ := cmp_v (Or.inl h)
  cases Option.some.inj (h2.symm.trans (rfl : (Jvm.Term.long v).eval args s none [] s = some (.long v)))
  rw [h1]; cases a <;> simp [Cond.value, h1, h2] at h ⊢; exact h
/-- (y & 0x7fffffff) % m -/
theorem pmod32 (x m : Int32) (M : Int) (hm : m.toInt = M) (hM : 0 < M) : ((x &&& (2147483647 : Int32)) % m).toInt = (x.toInt % 2147483648) % M ∧ 0 ≤ ((x &&& (2147483647 : Int32)) % m).toInt ∧ ((x &&& (2147483647 : Int32)) % m).toInt < M := by
  have e : (x &&& (2147483647 : Int32)).toInt = x.toInt % 2147483648 := c_mask x 2147483647 31 (by decide) (by decide)
  have q := (c_irem (x &&& (2147483647 : Int32)) m M hm).1 (by omega)
  have := Int.emod_nonneg (x.toInt % 2147483648) (show M ≠ 0 by omega)
  have := Int.emod_lt_of_pos (x.toInt % 2147483648) hM
  rw [q, e]; omega
/-- (x & Long.MAX_VALUE) % m -/
theorem pmod64 (x m : Int64) (M : Int) (hm : m.toInt = M) (hM : 0 < M) : 0 ≤ ((x &&& (9223372036854775807 : Int64)) % m).toInt ∧ ((x &&& (9223372036854775807 : Int64)) % m).toInt < M := by
  have e : (x &&& (9223372036854775807 : Int64)).toInt = x.toInt % 9223372036854775808 := c_maskL x 9223372036854775807 63 (by decide) (by decide)
  have q := (c_lrem (x &&& (9223372036854775807 : Int64)) m M hm).1 (by omega)
  rw [lrem_mod] at q
  have := Int.emod_nonneg (x.toInt % 9223372036854775808) (show M ≠ 0 by omega)
  have := Int.emod_lt_of_pos (x.toInt % 9223372036854775808) hM
  rw [q, e]; omega
end Jvm.Pilot.@@N@@
namespace Jvm.Pilot.@@N@@
open Jvm Jvm.ClassFile Sem Op Lib Jvm.Free Jvm.Stand Jvm.LawKit Jvm.RoadKit Bundle Jvm.Pilot.@@N@@.Jvm.D
section Heaps
variable {l : Launch} {Z : State} {n0 : Nat} {y : MethodName} {bytes : ByteArray} {maxl : Nat} {ret : Option FieldType} {R : Room} {G : Cx} {h h' : Heap} {pc pc' : Nat} {Ls : Array Slot} {St : List Value} {C S C' S' : Nat} {Q : Option Value → Heap → Prop} {a0 : Array Value} {a b : Addr}
/-- a step that moves the state and keeps the heap -/
theorem W.stepT (A : W l Z n0 y bytes maxl ret R G h pc Ls St C S) {Ls' : Array Slot} {St' : List Value}
    (f : ∀ {p : Program} {e : Env} {s : State} {m : MethodId} {args : Array Value} {below : List Frame} {meth : Method} {c : Code} {T : State} {locs : List Loc}, Stand p l e R s m args below meth c T locs C S → p.tables.exec = Jvm.exec → Z.Warmed39 s.vm → s.vm.findClass y.cls = some m.cls → c.code = bytes → c.maxLocals = maxl → T.heap = h →
      ∃ T', Stand p l e R s m args below meth c T' locs C S ∧ T'.heap = h ∧ ∀ t, Steps p.tables e below (T'.setTop (mkF m pc' Ls' St')) t → Steps p.tables e below (T.setTop (mkF m pc Ls St)) t) : W l Z n0 y bytes maxl ret R G h pc' Ls' St' C S := by
  obtain ⟨p, e, s, m, args, below, meth, c, st⟩ := G
  obtain ⟨hx, hZ, hby, hml, hown, hnm, hrt, hlk, hn0, T, locs, X, N, eT, k⟩ := A
  obtain ⟨T', X', e', st'⟩ := f X hx hZ hown hby hml eT
  exact W.mk hx hZ hby hml hown hnm hrt hlk hn0 X' N e' (fun t q => k t (st' t q))
theorem W.getF (A : W l Z n0 y bytes maxl ret R G h pc Ls (.ref a :: St) C S) {index : Nat} {R0 O n d host : String} {v : Value} (hd : decode bytes pc = .ok (.getfield index, 3)) (w : (Jvm.Cond.fieldLink y.cls index R0 n d).before a0 Z = true ∨ (Jvm.Cond.fieldLinkNest y.cls index R0 n d host).before a0 Z = true) (via : Via Z R0 O n d) (F : Fld Z h a O n d v) (hp : pc + 3 = pc') : W l Z n0 y bytes maxl ret R G h pc' Ls (v :: St) C S := by
  subst hp; exact A.stepT fun X hx hZ hown q _ eT => RoadKit.getF X hx hZ hown w via eT F (g := mkF _ _ _ _) rfl rfl (hb q hd)
theorem W.getS (A : W l Z n0 y bytes maxl ret R G h pc Ls St C S) {index : Nat} {R0 O n d host : String} {v : Value} (hd : decode bytes pc = .ok (.getstatic index, 3)) (w : (Jvm.Cond.fieldLink y.cls index R0 n d).before a0 Z = true ∨ (Jvm.Cond.fieldLinkNest y.cls index R0 n d host).before a0 Z = true) (via : Via Z R0 O n d) (F : Sta Z h O n d v) (hp : pc + 3 = pc') : W l Z n0 y bytes maxl ret R G h pc' Ls (v :: St) C S := by
  subst hp; exact A.stepT fun X hx hZ hown q _ eT => getS2 X hx hZ hown w via eT F (g := mkF _ _ _ _) rfl (hb q hd)
theorem W.initO (A : W l Z n0 y bytes maxl ret R G h pc Ls (.ref a :: St) C S) {idx : Nat} (hd : decode bytes pc = .ok (.invokespecial idx, 3)) (w1 : (Jvm.Cond.methodLink y.cls idx Lib.objectInit).before a0 Z = true) (w2 : (Jvm.Cond.instanceMethod Lib.objectInit).before a0 Z = true) (w3 : (Jvm.Cond.code Lib.objectInit ⟨#[0xb1]⟩ 1 none).before a0 Z = true) (hsz : Ls.size = maxl) (hf : 1 ≤ R.frames) (hlo : (St.map fun v => v.category).sum + 12 ≤ R.locals) (hp : pc + 3 = pc') : W l Z n0 y bytes maxl ret R G h pc' Ls St C S := by
  subst hp; exact A.stepT fun X hx hZ hown q hml eT => RoadKit.initO X hx hZ hown w1 w2 w3 eT (g := mkF _ _ _ _) rfl (by rw [hml]; exact hsz) rfl (hb q hd) hf (W := (St.map fun v => v.category).sum) (by show 2 * 0 + _ ≤ _; omega) hlo
theorem W.cast0 (A : W l Z n0 y bytes maxl ret R G h pc Ls (.ref a :: St) C S) {index : Nat} {K : String} (hd : decode bytes pc = .ok (.checkcast index, 3)) (w : (Jvm.Cond.classLink y.cls index K).before a0 Z = true) (F : Ins Z h a K true) (hp : pc + 3 = pc') : W l Z n0 y bytes maxl ret R G h pc' Ls (.ref a :: St) C S := by
  subst hp; exact A.stepT fun X hx hZ hown q _ eT => castY X hx hZ hown w eT F (g := mkF _ _ _ _) rfl rfl (hb q hd)
theorem W.inst1 (A : W l Z n0 y bytes maxl ret R G h pc Ls (.ref a :: St) C S) {index : Nat} {K : String} (hd : decode bytes pc = .ok (.instanceof index, 3)) (w : (Jvm.Cond.classLink y.cls index K).before a0 Z = true) (F : Ins Z h a K true) (hp : pc + 3 = pc') : W l Z n0 y bytes maxl ret R G h pc' Ls (.int 1 :: St) C S := by
  subst hp; exact A.stepT fun X hx hZ hown q _ eT => instY X hx hZ hown w eT F (g := mkF _ _ _ _) rfl rfl (hb q hd)
theorem W.putF {v : Value} (A : W l Z n0 y bytes maxl ret R G h pc Ls (v :: .ref a :: St) C S) {index kk : Nat} {R0 O n d host K : String} {ty : FieldType} {old : Value} (hd : decode bytes pc = .ok (.putfield index, 3)) (w : (Jvm.Cond.fieldLink y.cls index R0 n d).before a0 Z = true ∨ (Jvm.Cond.fieldLinkNest y.cls index R0 n d host).before a0 Z = true) (via : Via Z R0 O n d)
    (F : Fld Z h a O n d old) (E : Exa Z h a K) (Lw : (Jvm.Cond.lays K O n d).before a0 Z = true ∨ ((Jvm.Cond.laysFinal K O n d).before a0 Z = true ∧ y.cls = O ∧ y.name = "<init>")) (wi : (Jvm.Cond.instantiable K kk).before a0 Z = true) (hty : parseFieldDescriptor d = some ty) (hn : narrow ty v = v) (hf : fits ty v = true) (ga : n0 ≤ a) (hp : pc + 3 = pc') :
    ∃ h', Wr h h' a (Jvm.RoadKit.slotOf Z O n d) v ∧ W l Z n0 y bytes maxl ret R G h' pc' Ls St C S := by
  subst hp
  obtain ⟨p, e, s, m, args, below, meth, c, st⟩ := G
  obtain ⟨hx, hZ, hby, hml, hown, hnm, hrt, hlk, hn0, T, locs, X, N, eT, k⟩ := A
  obtain ⟨T', h', X', e', W', st'⟩ := RoadKit.putF X hx hZ hown w via eT F E (Lw.imp id fun q => ⟨q.1, q.2.1, hnm.trans q.2.2⟩) wi hty hn hf (g := mkF m pc Ls _) rfl rfl (hb hby hd)
  exact ⟨h', W', W.mk hx hZ hby hml hown hnm hrt hlk hn0 X' (Fr.snoc X' N ga) e' (fun t q => k t (st' t q))⟩
theorem W.putFN {v v' : Value} (A : W l Z n0 y bytes maxl ret R G h pc Ls (v :: .ref a :: St) C S) {index kk : Nat} {R0 O n d K : String} {ty : FieldType} {old : Value} (hd : decode bytes pc = .ok (.putfield index, 3)) (w : (Jvm.Cond.fieldLink y.cls index R0 n d).before a0 Z = true) (via : Via Z R0 O n d)
    (F : Fld Z h a O n d old) (E : Exa Z h a K) (Lw : (Jvm.Cond.lays K O n d).before a0 Z = true ∨ ((Jvm.Cond.laysFinal K O n d).before a0 Z = true ∧ y.cls = O ∧ y.name = "<init>")) (wi : (Jvm.Cond.instantiable K kk).before a0 Z = true) (hty : parseFieldDescriptor d = some ty) (hn : narrow ty v = v') (hf : fits ty v' = true) (ga : n0 ≤ a) (hp : pc + 3 = pc') :
    ∃ h', Wr h h' a (Jvm.RoadKit.slotOf Z O n d) v' ∧ W l Z n0 y bytes maxl ret R G h' pc' Ls St C S := by
  subst hp
  obtain ⟨p, e, s, m, args, below, meth, c, st⟩ := G
  obtain ⟨hx, hZ, hby, hml, hown, hnm, hrt, hlk, hn0, T, locs, X, N, eT, k⟩ := A
  obtain ⟨T', h', X', e', W', st'⟩ := RoadKit.putFN X hx hZ hown w via eT F E (Lw.imp id fun q => ⟨q.1, q.2.1, hnm.trans q.2.2⟩) wi hty hn hf (g := mkF m pc Ls _) rfl rfl (hb hby hd)
  exact ⟨h', W', W.mk hx hZ hby hml hown hnm hrt hlk hn0 X' (Fr.snoc X' N ga) e' (fun t q => k t (st' t q))⟩
theorem W.newO (A : W l Z n0 y bytes maxl ret R G h pc Ls St C S) {index n : Nat} {K : String} (hd : decode bytes pc = .ok (.new index, 3)) (w : (Jvm.Cond.classLink y.cls index K).before a0 Z = true) (wi : (Jvm.Cond.instantiable K n).before a0 Z = true) (wz : (Jvm.Cond.initialized K).before a0 Z = true) (hC : C + 1 ≤ R.cells) (hS : S + n ≤ R.slots) (hC' : C + 1 = C') (hS' : S + n = S') (hp : pc + 3 = pc') :
    ∃ h' b, b = h.size ∧ n0 ≤ b ∧ Ext h h' ∧ Exa Z h' b K ∧ (∀ {O nm d : String} {ty : FieldType}, Laid Z a0 K O nm d → parseFieldDescriptor d = some ty → Fld Z h' b O nm d (defaultValue ty)) ∧ W l Z n0 y bytes maxl ret R G h' pc' Ls (.ref b :: St) C' S' := by
  subst hp hC' hS'
  have hsz := A.size
  obtain ⟨p, e, s, m, args, below, meth, c, st⟩ := G
  obtain ⟨hx, hZ, hby, hml, hown, hnm, hrt, hlk, hn0, T, locs, X, N, eT, k⟩ := A
  obtain ⟨T', h', X', e', E', A', D', -, st'⟩ := RoadKit.newO X hx hZ hown w wi wz eT (g := mkF m pc Ls St) rfl (hb hby hd) hC hS
  exact ⟨h', h.size, rfl, hsz, E', A', D', W.mk hx hZ hby hml hown hnm hrt hlk hn0 X' N e' (fun t q => k t (st' t q))⟩
/-! arrays: what each place holds, by a function of the place -/
def Ars (Z : State) (h : Heap) (a : Addr) (ty : FieldType) (N : Nat) (f : Nat → Value) : Prop := ∃ c : Cell, Arr Z h a c ty ∧ c.slots.size = N ∧ N < 2 ^ 31 ∧ ∀ j, j < N → c.slots[j]? = some (f j) ∧ fits ty (f j) = true
def upd (f : Nat → Value) (i : Nat) (v : Value) : Nat → Value := fun j => if j = i then v else f j
theorem upd_same (f : Nat → Value) (i : Nat) (v : Value) : upd f i v i = v := by simp [upd]
theorem upd_ne (f : Nat → Value) {i j : Nat} (v : Value) (q : j ≠ i) : upd f i v j = f j := by simp [upd, q]
variable {ty : FieldType} {N : Nat} {f : Nat → Value} {ws : List Addr} {sl : Nat} {v : Value}
theorem Ars.lt (F : Ars Z h a ty N f) : a < h.size := by obtain ⟨c, A, -⟩ := F; exact A.lt
theorem Ars.ext (F : Ars Z h a ty N f) (E : Ext h h') : Ars Z h' a ty N f := by obtain ⟨c, A, r⟩ := F; exact ⟨c, A.ext E, r⟩
theorem Ars.other (F : Ars Z h b ty N f) (V : Wr h h' a sl v) (q : b ≠ a) : Ars Z h' b ty N f := by obtain ⟨c, A, r⟩ := F; exact ⟨c, A.other V q, r⟩
theorem Ars.keep (F : Ars Z h a ty N f) (K : Keep h h' ws) (q : a ∉ ws) : Ars Z h' a ty N f := by obtain ⟨c, A, r⟩ := F; exact ⟨c, ⟨K.2.1 a c A.1 q, A.2⟩, r⟩
theorem Ars.same {i : Nat} (F : Ars Z h a ty N f) (V : Wr h h' a i v) (hi : i < N) (hf : fits ty v = true) : Ars Z h' a ty N (upd f i v) := by
  obtain ⟨c, A, hs, hN, hv⟩ := F
  refine ⟨_, A.same V, by rw [sz_set]; exact hs, hN, fun j hj => ?_⟩
  by_cases q : j = i
  · subst q; exact ⟨by simp [Cell.setSlot, upd, hs, hj], by simp only [upd, if_pos]; exact hf⟩
  · simp only [Cell.setSlot, upd, if_neg q]; rw [Array.getElem?_setIfInBounds_ne (Ne.symm q)]; exact hv j hj
theorem Ars.fn {g : Nat → Value} (F : Ars Z h a ty N f) (q : ∀ j, j < N → f j = g j) : Ars Z h a ty N g := by
  obtain ⟨c, A, hs, hN, hv⟩ := F; exact ⟨c, A, hs, hN, fun j hj => by rw [← q j hj]; exact hv j hj⟩
theorem Ars.size (F : Ars Z h a ty N f) : N < 2 ^ 31 := by obtain ⟨c, A, hs, hN, hv⟩ := F; exact hN
theorem inb {j : Int32} {i N : Nat} {c : Cell} (hs : c.slots.size = N) (hj : j.toInt = i) (hi : i < N) : ¬ (j < 0 ∨ c.slots.size ≤ j.toNatClampNeg) ∧ j.toNatClampNeg = i := by
  have e0 : (0 : Int32).toInt = 0 := rfl
  rw [hs, Int32.lt_iff_toInt_lt]; simp only [Int32.toNatClampNeg]; omega
theorem W.newP (A : W l Z n0 y bytes maxl ret R G h pc Ls (.int z :: St) C S) {aty : ArrayType} {N cap : Nat} (hd : decode bytes pc = .ok (.newarray aty, 2)) (w : (Jvm.Cond.arrayClass (newarray.typeOf aty)).before a0 Z = true) (hz : z.toInt = N) (hcap : N ≤ cap) (hcb : cap * 8 ≤ 536870912) (hC : C + 1 ≤ R.cells) (hS : S + cap ≤ R.slots) (hC' : C + 1 = C') (hS' : S + cap = S') (hp : pc + 2 = pc') :
    ∃ h' b, b = h.size ∧ n0 ≤ b ∧ Ext h h' ∧ Ars Z h' b (newarray.typeOf aty) N (fun _ => defaultValue (newarray.typeOf aty)) ∧ W l Z n0 y bytes maxl ret R G h' pc' Ls (.ref b :: St) C' S' := by
  subst hp hC' hS'
  have hsz := A.size
  have e0 : (0 : Int32).toInt = 0 := rfl
  have hneg : ¬ z < 0 := by rw [Int32.lt_iff_toInt_lt]; omega
  have hcl : z.toNatClampNeg = N := by simp only [Int32.toNatClampNeg]; omega
  obtain ⟨p, e, s, m, args, below, meth, c, st⟩ := G
  obtain ⟨hx, hZ, hby, hml, hown, hnm, hrt, hlk, hn0, T, locs, X, Nf, eT, k⟩ := A
  obtain ⟨T', h', kA, X', e', E', A', st'⟩ := RoadKit.newP X hx hZ w eT (g := mkF m pc Ls _) rfl (hb hby hd) rfl hneg (cap := cap) (by omega) hcb hC hS
  refine ⟨h', h.size, rfl, hsz, E', ⟨_, A', by rw [sz_new, hcl], by omega, fun j hj => ?_⟩, W.mk hx hZ hby hml hown hnm hrt hlk hn0 X' Nf e' (fun t q => k t (st' t q))⟩
  exact ⟨by simp [newA, hcl, hj], by cases aty <;> rfl⟩
theorem W.alen (A : W l Z n0 y bytes maxl ret R G h pc Ls (.ref a :: St) C S) (hd : decode bytes pc = .ok (.arraylength, 1)) (F : Ars Z h a ty N f) {z : Int32} (hz : z.toInt = N) (hp : pc + 1 = pc') : W l Z n0 y bytes maxl ret R G h pc' Ls (.int z :: St) C S := by
  subst hp
  obtain ⟨cl, Ar, hs, hN, hv⟩ := F
  have e0 : (0 : Int32).toInt = 0 := rfl
  have hneg : ¬ z < 0 := by rw [Int32.lt_iff_toInt_lt]; omega
  have hcl : cl.slots.size = z.toNatClampNeg := by simp only [Int32.toNatClampNeg]; omega
  exact A.step fun X hx hZ hown q eT r => X.arraylength hx (by rw [eT]; exact Ar.1) (State.isArrayOf_alike hZ.alike Ar.2.1) (g := mkF _ _ _ _) rfl rfl (hb q hd) _ (by rw [len_of hcl hneg]; exact r)
theorem W.iaload {j : Int32} (A : W l Z n0 y bytes maxl ret R G h pc Ls (.int j :: .ref a :: St) C S) (hd : decode bytes pc = .ok (.iaload, 1)) (F : Ars Z h a .int N f) {i : Nat} (hj : j.toInt = i) (hi : i < N) {v : Value} (hv : f i = v) (hp : pc + 1 = pc') : W l Z n0 y bytes maxl ret R G h pc' Ls (v :: St) C S := by
  subst hp
  obtain ⟨cl, Ar, hs, hN, hf⟩ := F
  obtain ⟨q1, q2⟩ := inb hs hj hi
  exact A.step fun X hx hZ hown q eT r => X.iaload hx (by rw [eT]; exact Ar.1) (State.isArrayOf_alike hZ.alike Ar.2.1) Ar.2.2 q1 (by rw [q2, (hf i hi).1, hv]) (g := mkF _ _ _ _) rfl rfl (hb q hd) _ r
theorem W.laload {j : Int32} (A : W l Z n0 y bytes maxl ret R G h pc Ls (.int j :: .ref a :: St) C S) (hd : decode bytes pc = .ok (.laload, 1)) (F : Ars Z h a .long N f) {i : Nat} (hj : j.toInt = i) (hi : i < N) {v : Value} (hv : f i = v) (hp : pc + 1 = pc') : W l Z n0 y bytes maxl ret R G h pc' Ls (v :: St) C S := by
  subst hp
  obtain ⟨cl, Ar, hs, hN, hf⟩ := F
  obtain ⟨q1, q2⟩ := inb hs hj hi
  exact A.step fun X hx hZ hown q eT r => X.laload hx (by rw [eT]; exact Ar.1) (State.isArrayOf_alike hZ.alike Ar.2.1) Ar.2.2 q1 (by rw [q2, (hf i hi).1, hv]) (g := mkF _ _ _ _) rfl rfl (hb q hd) _ r
theorem W.baload {j : Int32} (A : W l Z n0 y bytes maxl ret R G h pc Ls (.int j :: .ref a :: St) C S) (hd : decode bytes pc = .ok (.baload, 1)) (F : Ars Z h a .byte N f) {i : Nat} (hj : j.toInt = i) (hi : i < N) {v : Value} (hv : f i = v) (hp : pc + 1 = pc') : W l Z n0 y bytes maxl ret R G h pc' Ls (v :: St) C S := by
  subst hp
  obtain ⟨cl, Ar, hs, hN, hf⟩ := F
  obtain ⟨q1, q2⟩ := inb hs hj hi
  exact A.step fun X hx hZ hown q eT r => X.baloadBytes hx (by rw [eT]; exact Ar.1) (State.isArrayOf_alike hZ.alike Ar.2.1) Ar.2.2 q1 (by rw [q2, (hf i hi).1, hv]) (g := mkF _ _ _ _) rfl rfl (hb q hd) _ r
theorem W.caload {j : Int32} (A : W l Z n0 y bytes maxl ret R G h pc Ls (.int j :: .ref a :: St) C S) (hd : decode bytes pc = .ok (.caload, 1)) (F : Ars Z h a .char N f) {i : Nat} (hj : j.toInt = i) (hi : i < N) {v : Value} (hv : f i = v) (hp : pc + 1 = pc') : W l Z n0 y bytes maxl ret R G h pc' Ls (v :: St) C S := by
  subst hp
  obtain ⟨cl, Ar, hs, hN, hf⟩ := F
  obtain ⟨q1, q2⟩ := inb hs hj hi
  exact A.step fun X hx hZ hown q eT r => X.caload hx (by rw [eT]; exact Ar.1) (State.isArrayOf_alike hZ.alike Ar.2.1) Ar.2.2 q1 (by rw [q2, (hf i hi).1, hv]) (g := mkF _ _ _ _) rfl rfl (hb q hd) _ r
theorem W.iastore {j x : Int32} (A : W l Z n0 y bytes maxl ret R G h pc Ls (.int x :: .int j :: .ref a :: St) C S) (hd : decode bytes pc = .ok (.iastore, 1)) (F : Ars Z h a .int N f) {i : Nat} (hj : j.toInt = i) (hi : i < N) (ga : n0 ≤ a) (hp : pc + 1 = pc') : ∃ h', Wr h h' a i (.int x) ∧ Ars Z h' a .int N (upd f i (.int x)) ∧ W l Z n0 y bytes maxl ret R G h' pc' Ls St C S := by
  subst hp
  have F0 := F
  obtain ⟨cl, Ar, hs, hN, hf⟩ := F
  obtain ⟨q1, q2⟩ := inb hs hj hi
  obtain ⟨p, e, s, m, args, below, meth, c, st⟩ := G
  obtain ⟨hx, hZ, hby, hml, hown, hnm, hrt, hlk, hn0, T, locs, X, Nf, eT, k⟩ := A
  have hfit : fits .int (.int x) = true := rfl
  obtain ⟨T', h', X', e', W', st'⟩ := stI X hx hZ eT Ar q1 (g := mkF m pc Ls _) rfl rfl (hb hby hd)
  rw [q2] at W'
  exact ⟨h', W', F0.same W' hi hfit, W.mk hx hZ hby hml hown hnm hrt hlk hn0 X' (Fr.snoc X' Nf ga) e' (fun t q => k t (st' t q))⟩
theorem W.lastore {j : Int32} {x : Int64} (A : W l Z n0 y bytes maxl ret R G h pc Ls (.long x :: .int j :: .ref a :: St) C S) (hd : decode bytes pc = .ok (.lastore, 1)) (F : Ars Z h a .long N f) {i : Nat} (hj : j.toInt = i) (hi : i < N) (ga : n0 ≤ a) (hp : pc + 1 = pc') : ∃ h', Wr h h' a i (.long x) ∧ Ars Z h' a .long N (upd f i (.long x)) ∧ W l Z n0 y bytes maxl ret R G h' pc' Ls St C S := by
  subst hp
  have F0 := F
  obtain ⟨cl, Ar, hs, hN, hf⟩ := F
  obtain ⟨q1, q2⟩ := inb hs hj hi
  obtain ⟨p, e, s, m, args, below, meth, c, st⟩ := G
  obtain ⟨hx, hZ, hby, hml, hown, hnm, hrt, hlk, hn0, T, locs, X, Nf, eT, k⟩ := A
  have hfit : fits .long (.long x) = true := rfl
  obtain ⟨T', h', X', e', W', st'⟩ := stJ X hx hZ eT Ar q1 (g := mkF m pc Ls _) rfl rfl (hb hby hd)
  rw [q2] at W'
  exact ⟨h', W', F0.same W' hi hfit, W.mk hx hZ hby hml hown hnm hrt hlk hn0 X' (Fr.snoc X' Nf ga) e' (fun t q => k t (st' t q))⟩
theorem W.bastore {j x : Int32} (A : W l Z n0 y bytes maxl ret R G h pc Ls (.int x :: .int j :: .ref a :: St) C S) (hd : decode bytes pc = .ok (.bastore, 1)) (F : Ars Z h a .byte N f) {i : Nat} (hj : j.toInt = i) (hi : i < N) (ga : n0 ≤ a) (hp : pc + 1 = pc') : ∃ h', Wr h h' a i (.int x.toInt8.toInt32) ∧ Ars Z h' a .byte N (upd f i (.int x.toInt8.toInt32)) ∧ W l Z n0 y bytes maxl ret R G h' pc' Ls St C S := by
  subst hp
  have F0 := F
  obtain ⟨cl, Ar, hs, hN, hf⟩ := F
  obtain ⟨q1, q2⟩ := inb hs hj hi
  obtain ⟨p, e, s, m, args, below, meth, c, st⟩ := G
  obtain ⟨hx, hZ, hby, hml, hown, hnm, hrt, hlk, hn0, T, locs, X, Nf, eT, k⟩ := A
  have hfit : fits .byte (.int x.toInt8.toInt32) = true := fits_nar_byte x
  obtain ⟨T', h', X', e', W', st'⟩ := stB X hx hZ eT Ar q1 (g := mkF m pc Ls _) rfl rfl (hb hby hd)
  rw [q2] at W'
  exact ⟨h', W', F0.same W' hi hfit, W.mk hx hZ hby hml hown hnm hrt hlk hn0 X' (Fr.snoc X' Nf ga) e' (fun t q => k t (st' t q))⟩
theorem W.castore {j x : Int32} (A : W l Z n0 y bytes maxl ret R G h pc Ls (.int x :: .int j :: .ref a :: St) C S) (hd : decode bytes pc = .ok (.castore, 1)) (F : Ars Z h a .char N f) {i : Nat} (hj : j.toInt = i) (hi : i < N) (ga : n0 ≤ a) (hp : pc + 1 = pc') : ∃ h', Wr h h' a i (.int (nar .char x)) ∧ Ars Z h' a .char N (upd f i (.int (nar .char x))) ∧ W l Z n0 y bytes maxl ret R G h' pc' Ls St C S := by
  subst hp
  have F0 := F
  obtain ⟨cl, Ar, hs, hN, hf⟩ := F
  obtain ⟨q1, q2⟩ := inb hs hj hi
  obtain ⟨p, e, s, m, args, below, meth, c, st⟩ := G
  obtain ⟨hx, hZ, hby, hml, hown, hnm, hrt, hlk, hn0, T, locs, X, Nf, eT, k⟩ := A
  have hfit : fits .char (.int (nar .char x)) = true := fits_nar_char x
  obtain ⟨T', h', X', e', W', st'⟩ := stC X hx hZ eT Ar q1 (g := mkF m pc Ls _) rfl rfl (hb hby hd)
  rw [q2] at W'
  exact ⟨h', W', F0.same W' hi hfit, W.mk hx hZ hby hml hown hnm hrt hlk hn0 X' (Fr.snoc X' Nf ga) e' (fun t q => k t (st' t q))⟩
/-! System.arraycopy -/
def cpy (f : Nat → Value) (i : Nat) (g : Nat → Value) (j k : Nat) : Nat → Value := fun x => if j ≤ x ∧ x < j + k then f (i + (x - j)) else g x
theorem Ars.toArv (F : Ars Z h a ty N f) : ∃ k, Arv Z h a k ty (Int32.ofNat N) ((List.range N).map f) (.int 0) := by
  obtain ⟨c, A, hs, hN, hv⟩ := F
  have e : (Int32.ofNat N).toInt = N := Int32.toInt_ofNat_of_lt hN
  have e0 : (0 : Int32).toInt = 0 := rfl
  have q : (Int32.ofNat N).toNatClampNeg = N := by simp only [Int32.toNatClampNeg]; omega
  have hd : ∀ i, i < N → ((List.range N).map f).getD i (.int 0) = f i := fun i hi => by simp [List.getD_eq_getElem?_getD, hi]
  refine ⟨c.cls, c, A, rfl, by rw [q]; exact hs, by rw [Int32.lt_iff_toInt_lt]; omega, fun i hi => ?_, fun i hi => ?_⟩
  · rw [hs] at hi; rw [hd i hi]; exact (hv i hi).1
  · rw [hs] at hi; rw [hd i hi]; exact (hv i hi).2
theorem W.acopy {b : Addr} {sp dp nn : Int32} (A : W l Z n0 y bytes maxl ret R G h pc Ls (.int nn :: .int dp :: .ref b :: .int sp :: .ref a :: St) C S) {idx i j k N' : Nat} {g : Nat → Value} (hd : decode bytes pc = .ok (.invokestatic idx, 3)) (w1 : (Jvm.Cond.methodLink y.cls idx Jvm.Stand.acN).before a0 Z = true) (w2 : (Jvm.Cond.native Jvm.Stand.acN).before a0 Z = true) (w3 : (Jvm.Cond.static Jvm.Stand.acN).before a0 Z = true) (w4 : (Jvm.Cond.initialized "java/lang/System").before a0 Z = true)
    (F : Ars Z h a ty N f) (D : Ars Z h b ty N' g) (hty : refKind ty = false) (hsp : sp.toInt = i) (hdp : dp.toInt = j) (hnn : nn.toInt = k) (h4 : i + k ≤ N) (h5 : j + k ≤ N') (gb : n0 ≤ b) (hsz : Ls.size = maxl) (hf : 1 ≤ R.frames) (hlo : (St.map fun v => v.category).sum + (nativeFrameWords "java/lang/System" "arraycopy" 5 + 11) ≤ R.locals) (hp : pc + 3 = pc') :
    ∃ h', Keep h h' [b] ∧ Ars Z h' b ty N' (cpy f i g j k) ∧ W l Z n0 y bytes maxl ret R G h' pc' Ls St C S := by
  subst hp
  have FN := F.size
  have DN := D.size
  obtain ⟨kF, VF⟩ := F.toArv
  obtain ⟨kD, VD⟩ := D.toArv
  have e0 : (0 : Int32).toInt = 0 := rfl
  have c1 : sp.toNatClampNeg = i := by simp only [Int32.toNatClampNeg]; omega
  have c2 : dp.toNatClampNeg = j := by simp only [Int32.toNatClampNeg]; omega
  have c3 : nn.toNatClampNeg = k := by simp only [Int32.toNatClampNeg]; omega
  have eN : (Int32.ofNat N).toNatClampNeg = N := by have := Int32.toInt_ofNat_of_lt FN; simp only [Int32.toNatClampNeg]; omega
  have eN' : (Int32.ofNat N').toNatClampNeg = N' := by have := Int32.toInt_ofNat_of_lt DN; simp only [Int32.toNatClampNeg]; omega
  have p1 : ¬ sp < 0 := by rw [Int32.lt_iff_toInt_lt]; omega
  have p2 : ¬ dp < 0 := by rw [Int32.lt_iff_toInt_lt]; omega
  have p3 : ¬ nn < 0 := by rw [Int32.lt_iff_toInt_lt]; omega
  obtain ⟨p, e, s, m, args, below, meth, c, st⟩ := G
  obtain ⟨hx, hZ, hby, hml, hown, hnm, hrt, hlk, hn0, T, locs, X, Nf, eT, kk⟩ := A
  obtain ⟨T', h', L', X', e', N2, K2, V2, st'⟩ := cpA X hx hZ hown w1 w2 w3 w4 eT VF VD (Or.inl ⟨rfl, hty⟩) (sp := sp) (dp := dp) (nn := nn) p1 p2 p3 (by rw [c1, c3, eN]; exact h4) (by rw [c2, c3, eN']; exact h5) rfl (by rw [c2, c3]; simpa using h5) Nf gb (g := mkF m pc Ls (.int nn :: .int dp :: .ref b :: .int sp :: .ref a :: St)) rfl (by rw [hml]; exact hsz) rfl (hb hby hd) hf (W := (St.map fun v => v.category).sum) (by show 2 * 0 + _ ≤ _; omega) hlo
  refine ⟨h', K2, ?_, W.mk hx hZ hby hml hown hnm hrt hlk hn0 X' N2 e' (fun t q => kk t (st' t q))⟩
  obtain ⟨cd, Ad, -, Sd, -, Hd, Gd⟩ := V2
  rw [eN'] at Sd
  rw [c1, c2, c3] at Hd Gd
  have key : ∀ x, x < N' → (List.take j ((List.range N').map g) ++ (List.map (fun i_1 => ((List.range N).map f).getD (i + i_1) (.int 0)) (List.range k)) ++ List.drop (j + k) ((List.range N').map g)).getD x (.int 0) = cpy f i g j k x := fun x hx' => by
    simp only [List.getD_eq_getElem?_getD, cpy]
    by_cases q1 : x < j
    · rw [List.getElem?_append_left (by simp; omega), List.getElem?_append_left (by simp; omega), if_neg (by omega)]
      simp [List.getElem?_take, q1, hx']
    · by_cases q2 : x < j + k
      · rw [List.getElem?_append_left (by simp; omega), List.getElem?_append_right (by simp; omega), if_pos (by omega)]
        have l1 : (List.take j ((List.range N').map g)).length = j := by simp; omega
        rw [l1]
        have q3 : x - j < k := by omega
        have q4 : i + (x - j) < N := by omega
        simp [List.getElem?_map, List.getElem?_range, q3, q4]
      · rw [List.getElem?_append_right (by simp; omega), if_neg (by omega)]
        have l1 : (List.take j ((List.range N').map g) ++ (List.map (fun i_1 => (((List.range N).map f)[i + i_1]?).getD (.int 0)) (List.range k))).length = j + k := by simp; omega
        rw [l1, List.getElem?_drop]
        have q3 : j + k + (x - (j + k)) = x := by omega
        rw [q3]; simp [hx']
  refine ⟨cd, Ad, Sd, DN, fun x hx' => ?_⟩
  have a1 := Hd x (by omega)
  have a2 := Gd x (by omega)
  rw [key x hx'] at a1 a2
  exact ⟨a1, a2⟩
end Heaps
end Jvm.Pilot.@@N@@
namespace Jvm.Pilot.@@N@@
open Jvm Jvm.ClassFile Sem Op Lib Jvm.Free Jvm.Stand Jvm.LawKit Jvm.RoadKit Bundle Jvm.Pilot.@@N@@.Jvm.D
def own_inc (g : Nat → Int32) (n : Int) : Prop := ∀ j k : Nat, j < k → (k : Int) < n → (g j).toInt < (g k).toInt
def own_first (g : Nat → Int32) (i n doc r : Int) : Prop := i ≤ r ∧ r ≤ n ∧ (∀ j : Nat, i ≤ j → (j : Int) < r → (g j).toInt < doc) ∧ (r < n → doc ≤ (g r.toNat).toInt)
def own_from (g : Nat → Int32) (i n doc : Int) (k : Nat) (m : Int) : Prop := (m = n ∨ (i ≤ m ∧ (k : Int) ≤ m ∧ m < n ∧ doc ≤ (g m.toNat).toInt)) ∧ ∀ j : Nat, i ≤ j → k ≤ j → (j : Int) < m → (j : Int) < n → (g j).toInt < doc
theorem own_first0 (g : Nat → Int32) (i n doc : Int) (h : i ≤ n) (h2 : i < n → doc ≤ (g i.toNat).toInt) : own_first g i n doc i := ⟨Int.le_refl _, h, fun j h1 h2 => by omega, h2⟩
theorem own_fin (g : Nat → Int32) (i n doc low high : Int) (hi : own_inc g n) (h1 : i ≤ low) (h0 : 0 ≤ low) (h2 : high ≤ n) (h3 : (g low.toNat).toInt < doc) (h4 : high < n → doc ≤ (g high.toNat).toInt) (h5 : high = low + 1) : own_first g i n doc high := by
  refine ⟨by omega, h2, fun j a b => ?_, h4⟩
  by_cases q : j = low.toNat
  · rw [q]; exact h3
  · have := hi j low.toNat (by omega) (by omega); omega
theorem own_from0 (g : Nat → Int32) (i n doc : Int) (h : n ≤ 8) : own_from g i n doc 8 n := ⟨Or.inl rfl, fun j _ h2 h3 _ => by omega⟩
theorem own_step (g : Nat → Int32) (i n doc : Int) (k : Nat) (r m dv : Int) (hk : k ≤ 7) (hd : (g k).toInt = dv) (p : own_from g i n doc (k + 1) m) (q : (i ≤ (k : Int) ∧ (k : Int) < n ∧ doc ≤ dv ∧ r = (k : Int)) ∨ (¬ (i ≤ (k : Int) ∧ (k : Int) < n ∧ doc ≤ dv) ∧ r = m)) : own_from g i n doc k r := by
  rcases q with ⟨q1, q2, q3, rfl⟩ | ⟨q1, rfl⟩
  · exact ⟨Or.inr ⟨q1, Int.le_refl _, q2, by rw [Int.toNat_natCast, hd]; exact q3⟩, fun j a b c' _ => by omega⟩
  · refine ⟨p.1.imp id fun z => ⟨z.1, by have := z.2.1; omega, z.2.2⟩, fun j a b c' d' => ?_⟩
    by_cases e : j = k
    · subst e; omega
    · exact p.2 j a (by omega) c' d'
theorem own_uniq (g : Nat → Int32) (i n doc r m : Int) (hi : i ≤ n) (h0 : 0 ≤ i) (a : own_first g i n doc r) (b : own_from g i n doc 0 m) : r = m := by
  obtain ⟨a1, a2, a3, a4⟩ := a
  obtain ⟨b1, b2⟩ := b
  have hm : i ≤ m ∧ m ≤ n := by rcases b1 with rfl | ⟨q, -, q', -⟩ <;> omega
  rcases Int.lt_trichotomy r m with h | h | h
  · have := b2 r.toNat (by omega) (by omega) (by omega) (by omega); have := a4 (by omega); omega
  · exact h
  · rcases b1 with rfl | ⟨q, -, q', q''⟩
    · omega
    · have := a3 m.toNat (by omega) (by omega); omega
theorem own_inc8 {d0 d1 d2 d3 d4 d5 d6 d7 : Int32} (h1 : d0.toInt < d1.toInt) (h2 : d1.toInt < d2.toInt) (h3 : d2.toInt < d3.toInt) (h4 : d3.toInt < d4.toInt) (h5 : d4.toInt < d5.toInt) (h6 : d5.toInt < d6.toInt) (h7 : d6.toInt < d7.toInt) : own_inc (fun j => ([d0, d1, d2, d3, d4, d5, d6, d7] : List Int32).getD j 0) 8 := by
  have hs : ∀ j : Nat, j < 7 → (([d0, d1, d2, d3, d4, d5, d6, d7] : List Int32).getD j 0).toInt < (([d0, d1, d2, d3, d4, d5, d6, d7] : List Int32).getD (j + 1) 0).toInt := fun j hj => by
    have : j = 0 ∨ j = 1 ∨ j = 2 ∨ j = 3 ∨ j = 4 ∨ j = 5 ∨ j = 6 := by omega
    rcases this with rfl | rfl | rfl | rfl | rfl | rfl | rfl <;> assumption
  intro j k h hk
  have : ∀ m : Nat, j + m + 1 < 8 → (([d0, d1, d2, d3, d4, d5, d6, d7] : List Int32).getD j 0).toInt < (([d0, d1, d2, d3, d4, d5, d6, d7] : List Int32).getD (j + m + 1) 0).toInt := fun m => by
    induction m with
    | zero => intro q; exact hs j (by omega)
    | succ m ih => intro q; have a := ih (by omega); have b := hs (j + m + 1) (by omega); have e : j + (m + 1) + 1 = j + m + 1 + 1 := by omega
                   rw [e]; omega
  have q := this (k - j - 1) (by omega)
  have e : j + (k - j - 1) + 1 = k := by omega
  rw [e] at q; exact q
theorem own_m30 (x : Int32) : 0 ≤ (x &&& (1073741823 : Int32)).toInt ∧ (x &&& (1073741823 : Int32)).toInt < 1073741824 := by
  have e : (x &&& (1073741823 : Int32)).toInt = x.toInt % 1073741824 := c_mask x 1073741823 30 (by decide) (by decide)
  omega
theorem own_m2 (x : Int32) : 0 ≤ (x &&& (3 : Int32)).toInt ∧ (x &&& (3 : Int32)).toInt ≤ 3 := by
  have e : (x &&& (3 : Int32)).toInt = x.toInt % 4 := c_mask x 3 2 (by decide) (by decide)
  omega
theorem own_m3 (x : Int32) : 0 ≤ (x &&& (7 : Int32)).toInt ∧ (x &&& (7 : Int32)).toInt ≤ 7 := by
  have e : (x &&& (7 : Int32)).toInt = x.toInt % 8 := c_mask x 7 3 (by decide) (by decide)
  omega
theorem own_nx (a x : Int32) (h1 : 0 ≤ a.toInt) (h2 : a.toInt ≤ 1500000000) (hx : 0 ≤ x.toInt ∧ x.toInt ≤ 3) : a.toInt < ((a + (1 : Int32)) + x).toInt ∧ ((a + (1 : Int32)) + x).toInt ≤ a.toInt + 4 := by
  have := addc32 a (1 : Int32) 1 rfl (by omega) (by omega)
  have := add32 (a + (1 : Int32)) x (by omega) (by omega); omega
theorem own_eight (n : Int32) (h : 0 ≤ n.toInt ∧ n.toInt ≤ 7) : n = 0 ∨ n = 1 ∨ n = 2 ∨ n = 3 ∨ n = 4 ∨ n = 5 ∨ n = 6 ∨ n = 7 := by
  have q : n.toInt = 0 ∨ n.toInt = 1 ∨ n.toInt = 2 ∨ n.toInt = 3 ∨ n.toInt = 4 ∨ n.toInt = 5 ∨ n.toInt = 6 ∨ n.toInt = 7 := by omega
  rcases q with q | q | q | q | q | q | q | q
  · exact Or.inl (Int32.toInt_inj.mp q)
  · exact Or.inr (Or.inl (Int32.toInt_inj.mp q))
  · exact Or.inr (Or.inr (Or.inl (Int32.toInt_inj.mp q)))
  · exact Or.inr (Or.inr (Or.inr (Or.inl (Int32.toInt_inj.mp q))))
  · exact Or.inr (Or.inr (Or.inr (Or.inr (Or.inl (Int32.toInt_inj.mp q)))))
  · exact Or.inr (Or.inr (Or.inr (Or.inr (Or.inr (Or.inl (Int32.toInt_inj.mp q))))))
  · exact Or.inr (Or.inr (Or.inr (Or.inr (Or.inr (Or.inr (Or.inl (Int32.toInt_inj.mp q)))))))
  · exact Or.inr (Or.inr (Or.inr (Or.inr (Or.inr (Or.inr (Or.inr (Int32.toInt_inj.mp q)))))))
theorem own_shl (s : Int32) (h1 : 0 ≤ s.toInt) (h2 : s.toInt ≤ 1000000) : (s <<< ((1 : Int32) &&& 31)).toInt = 2 * s.toInt := by
  have e := c_ishl s 1 1 (by decide)
  have r := rng32 (s <<< ((1 : Int32) &&& 31))
  omega
theorem own_l2i (x : Int64) (h1 : 0 ≤ x.toInt) (h2 : x.toInt ≤ 1000000) : x.toInt32.toInt = x.toInt := by
  have e := c_l2i x
  have r := rng32 x.toInt32
  omega
theorem own_mid (a b : Int32) (h1 : 0 ≤ a.toInt) (h2 : a.toInt ≤ 1000000) (h3 : 0 ≤ b.toInt) (h4 : b.toInt ≤ 1000000) : (((a + b).toUInt32 >>> ((1 : Int32) &&& 31).toUInt32).toInt32).toInt = (a.toInt + b.toInt) / 2 := by
  have q := add32 a b (by omega) (by omega)
  have e := c_iushr (a + b) 1 1 (by decide) (by decide)
  omega
theorem pd_0 : parseMethodDescriptor "(II)I" = some ⟨[.int, .int], some .int⟩ := by decide +kernel
theorem pd_1 : parseMethodDescriptor "([II)[I" = some ⟨[(.array .int), .int], some (.array .int)⟩ := by decide +kernel
theorem pd_2 : parseMethodDescriptor "(JJ)J" = some ⟨[.long, .long], some .long⟩ := by decide +kernel
theorem pd_3 : parseMethodDescriptor "()V" = some ⟨[], none⟩ := by decide +kernel
theorem pd_4 : parseMethodDescriptor "(IIII[II)I" = some ⟨[.int, .int, .int, .int, (.array .int), .int], some .int⟩ := by decide +kernel
theorem pd_5 : parseMethodDescriptor "(II)V" = some ⟨[.int, .int], none⟩ := by decide +kernel
def own_min (x : Int32) (z : Int32) : Int32 := if z.toInt < x.toInt then z else x
theorem pn5 : plainFor (⟨"java/lang/Math", "min", "(II)I"⟩ : MethodName) = true := by first | exact plainFor_of_name (by first | (simp [plainName, overriddenIn]; done) | decide +kernel) | exact Jvm.Free.JP.mathPlain rfl (by decide +kernel) | decide +kernel
theorem d5_0 : decode jdk_29_method_69_code 0 = .ok (.iload_n 0, 1) := by decide +kernel
theorem d5_1 : decode jdk_29_method_69_code 1 = .ok (.iload_n 1, 1) := by decide +kernel
theorem d5_2 : decode jdk_29_method_69_code 2 = .ok (.if_icmp .gt 7, 3) := by decide +kernel
theorem d5_5 : decode jdk_29_method_69_code 5 = .ok (.iload_n 0, 1) := by decide +kernel
theorem d5_6 : decode jdk_29_method_69_code 6 = .ok (.goto 4, 3) := by decide +kernel
theorem d5_9 : decode jdk_29_method_69_code 9 = .ok (.iload_n 1, 1) := by decide +kernel
theorem d5_10 : decode jdk_29_method_69_code 10 = .ok (.ireturn, 1) := by decide +kernel
abbrev y5 : MethodName := (⟨"java/lang/Math", "min", "(II)I"⟩ : MethodName)
abbrev R5 : Room := { frames := 0, cells := 0, slots := 0, locals := 0 }
set_option maxRecDepth 65536 in
set_option maxHeartbeats 4000000 in
theorem ef5 (x : Int32) (z : Int32) (mid : MethodId) : entryFrame mid #[(.int x), (.int z)] 2 = mkF mid 0 #[.val (.int x), .val (.int z)] [] := by first | (simp [entryFrame, mkF, argsToLocals, Value.category]; done) | rfl
set_option maxRecDepth 65536 in
set_option maxHeartbeats 40000000 in
theorem rm5 (l : Launch) (Z : State) (a0 : Array Value) (hw : ∀ d ∈ tables_1, d.before a0 Z = true) (n0 : Nat) (ws : List Jvm.Cond) (x : Int32) (z : Int32)  (h0 : Heap) (hn0 : n0 ≤ h0.size)  :
    Ctr l Z n0 y5 jdk_29_method_69_code 2 (some .int) ws R5 #[(.int x), (.int z)] h0 (QI fun r h => (h0 = h) ∧ (r = (own_min x z))) := by
  refine ctr_of pn5 hn0 (ef5 x z) fun G A0 => ?_
  have A1 := A0.iloadN (v := x) (pc' := 1) d5_0 rfl rfl
  have A2 := A1.iloadN (v := z) (pc' := 2) d5_1 rfl rfl
  by_cases c3 : z.toInt < x.toInt
  · have A4 := A2.icmpYes (pc' := 9) d5_2 (tlt (igt (x := x) (y := z) rfl rfl c3)).2.2.1 (by decide) (by decide)
    have A5 := A4.iloadN (v := z) (pc' := 10) d5_9 rfl rfl
    refine A5.retI d5_10 (by decide) (by decide) ⟨_, rfl, ⟨rfl, ?_⟩⟩
    rw [own_min, if_pos c3]
  · have A6 := A2.icmpNo (pc' := 5) d5_2 (flt (ingt (x := x) (y := z) rfl rfl c3)).2.2.1 rfl
    have A7 := A6.iloadN (v := x) (pc' := 6) d5_5 rfl rfl
    have A8 := A7.goto (pc' := 10) d5_6 (by decide) (by decide)
    refine A8.retI d5_10 (by decide) (by decide) ⟨_, rfl, ⟨rfl, ?_⟩⟩
    rw [own_min, if_neg c3]
theorem pn8 : plainFor (⟨"java/lang/Math", "min", "(JJ)J"⟩ : MethodName) = true := by first | exact plainFor_of_name (by first | (simp [plainName, overriddenIn]; done) | decide +kernel) | exact Jvm.Free.JP.mathPlain rfl (by decide +kernel) | decide +kernel
theorem d8_0 : decode jdk_29_method_70_code 0 = .ok (.lload_n 0, 1) := by decide +kernel
theorem d8_1 : decode jdk_29_method_70_code 1 = .ok (.lload_n 2, 1) := by decide +kernel
theorem d8_2 : decode jdk_29_method_70_code 2 = .ok (.lcmp, 1) := by decide +kernel
theorem d8_3 : decode jdk_29_method_70_code 3 = .ok (.ifCond .gt 7, 3) := by decide +kernel
theorem d8_6 : decode jdk_29_method_70_code 6 = .ok (.lload_n 0, 1) := by decide +kernel
theorem d8_7 : decode jdk_29_method_70_code 7 = .ok (.goto 4, 3) := by decide +kernel
theorem d8_10 : decode jdk_29_method_70_code 10 = .ok (.lload_n 2, 1) := by decide +kernel
theorem d8_11 : decode jdk_29_method_70_code 11 = .ok (.lreturn, 1) := by decide +kernel
abbrev y8 : MethodName := (⟨"java/lang/Math", "min", "(JJ)J"⟩ : MethodName)
abbrev R8 : Room := { frames := 0, cells := 0, slots := 0, locals := 0 }
set_option maxRecDepth 65536 in
set_option maxHeartbeats 4000000 in
theorem ef8 (x : Int64) (z : Int64) (mid : MethodId) : entryFrame mid #[(.long x), (.long z)] 4 = mkF mid 0 #[.val (.long x), .second, .val (.long z), .second] [] := by first | (simp [entryFrame, mkF, argsToLocals, Value.category]; done) | rfl
set_option maxRecDepth 65536 in
set_option maxHeartbeats 40000000 in
theorem rm8 (l : Launch) (Z : State) (a0 : Array Value) (hw : ∀ d ∈ tables_1, d.before a0 Z = true) (n0 : Nat) (ws : List Jvm.Cond) (x : Int64) (z : Int64)  (h0 : Heap) (hn0 : n0 ≤ h0.size)  :
    Ctr l Z n0 y8 jdk_29_method_70_code 4 (some .long) ws R8 #[(.long x), (.long z)] h0 (QJ fun r h => (h0 = h) ∧ ((r.toInt = x.toInt ∧ x.toInt ≤ z.toInt) ∨ (r.toInt = z.toInt ∧ z.toInt < x.toInt))) := by
  refine ctr_of pn8 hn0 (ef8 x z) fun G A0 => ?_
  have A1 := A0.lloadN (v := x) (pc' := 1) d8_0 rfl rfl
  have A2 := A1.lloadN (v := z) (pc' := 2) d8_1 rfl rfl
  have A3 := A2.lcmp (pc' := 3) d8_2 rfl
  by_cases c4 : z.toInt < x.toInt
  · have A5 := A3.ifYes (pc' := 10) d8_3 (tlt (lgt (x := x) (y := z) rfl rfl c4)).2.2.1 (by decide) (by decide)
    have A6 := A5.lloadN (v := z) (pc' := 11) d8_10 rfl rfl
    refine A6.retJ d8_11 (by decide) (by decide) ⟨_, rfl, ⟨rfl, ?_⟩⟩
    omega
  · have A7 := A3.ifNo (pc' := 6) d8_3 (flt (lngt (x := x) (y := z) rfl rfl c4)).2.2.1 rfl
    have A8 := A7.lloadN (v := x) (pc' := 7) d8_6 rfl rfl
    have A9 := A8.goto (pc' := 11) d8_7 (by decide) (by decide)
    refine A9.retJ d8_11 (by decide) (by decide) ⟨_, rfl, ⟨rfl, ?_⟩⟩
    omega
theorem pn4 : plainFor (⟨"java/util/Arrays", "copyOf", "([II)[I"⟩ : MethodName) = true := by first | exact plainFor_of_name (by first | (simp [plainName, overriddenIn]; done) | decide +kernel) | exact Jvm.Free.JP.mathPlain rfl (by decide +kernel) | decide +kernel
theorem d4_0 : decode jdk_65_method_123_code 0 = .ok (.iload_n 1, 1) := by decide +kernel
theorem d4_1 : decode jdk_65_method_123_code 1 = .ok (.aload_n 0, 1) := by decide +kernel
theorem d4_2 : decode jdk_65_method_123_code 2 = .ok (.arraylength, 1) := by decide +kernel
theorem d4_3 : decode jdk_65_method_123_code 3 = .ok (.if_icmp .ne 11, 3) := by decide +kernel
theorem d4_14 : decode jdk_65_method_123_code 14 = .ok (.iload_n 1, 1) := by decide +kernel
theorem d4_15 : decode jdk_65_method_123_code 15 = .ok (.newarray .int, 2) := by decide +kernel
theorem d4_17 : decode jdk_65_method_123_code 17 = .ok (.astore_n 2, 1) := by decide +kernel
theorem d4_18 : decode jdk_65_method_123_code 18 = .ok (.aload_n 0, 1) := by decide +kernel
theorem d4_19 : decode jdk_65_method_123_code 19 = .ok (.iconst 0, 1) := by decide +kernel
theorem d4_20 : decode jdk_65_method_123_code 20 = .ok (.aload_n 2, 1) := by decide +kernel
theorem d4_21 : decode jdk_65_method_123_code 21 = .ok (.iconst 0, 1) := by decide +kernel
theorem d4_22 : decode jdk_65_method_123_code 22 = .ok (.aload_n 0, 1) := by decide +kernel
theorem d4_23 : decode jdk_65_method_123_code 23 = .ok (.arraylength, 1) := by decide +kernel
theorem d4_24 : decode jdk_65_method_123_code 24 = .ok (.iload_n 1, 1) := by decide +kernel
theorem d4_25 : decode jdk_65_method_123_code 25 = .ok (.invokestatic 304, 3) := by decide +kernel
theorem d4_28 : decode jdk_65_method_123_code 28 = .ok (.invokestatic 150, 3) := by decide +kernel
theorem d4_31 : decode jdk_65_method_123_code 31 = .ok (.aload_n 2, 1) := by decide +kernel
theorem d4_32 : decode jdk_65_method_123_code 32 = .ok (.areturn, 1) := by decide +kernel
abbrev y4_2 : MethodName := (⟨"java/util/Arrays", "copyOf", "([II)[I"⟩ : MethodName)
abbrev R4_2 : Room := { frames := 1, cells := 1, slots := 2, locals := 18 }
set_option maxRecDepth 65536 in
set_option maxHeartbeats 4000000 in
theorem ef4_2 (a : Addr) (mid : MethodId) : entryFrame mid #[(.ref a), (.int (2 : Int32))] 3 = mkF mid 0 #[.val (.ref a), .val (.int (2 : Int32)), .unset] [] := by first | (simp [entryFrame, mkF, argsToLocals, Value.category]; done) | rfl
set_option maxRecDepth 65536 in
set_option maxHeartbeats 40000000 in
theorem rm4_2 (l : Launch) (Z : State) (a0 : Array Value) (hw : ∀ d ∈ tables_1, d.before a0 Z = true) (n0 : Nat) (ws : List Jvm.Cond) (a : Addr) (f : Nat → Value) (h0 : Heap) (hn0 : n0 ≤ h0.size) (e0 : Ars Z h0 a .int 1 f) :
    Ctr l Z n0 y4_2 jdk_65_method_123_code 3 (some (.array .int)) ws R4_2 #[(.ref a), (.int (2 : Int32))] h0 (QA fun r h => (Keep h0 h []) ∧ (n0 ≤ r) ∧ (h0.size ≤ r) ∧ (Ars Z h r .int 2 (cpy f 0 (fun _ => (.int (0 : Int32))) 0 1)) ∧ (True)) := by
  refine ctr_of pn4 hn0 (ef4_2 a) fun G A0 => ?_
  have A1 := A0.iloadN (v := (2 : Int32)) (pc' := 1) d4_0 rfl rfl
  have A2 := A1.aloadN (v := (.ref a)) (pc' := 2) d4_1 rfl rfl rfl
  have A3 := A2.alen (z := (1 : Int32)) (pc' := 3) d4_2 e0 rfl rfl
  have A5 := A3.icmpYes (pc' := 14) d4_3 (feq (ine (x := (2 : Int32)) (y := (1 : Int32)) rfl rfl (by decide : ¬ ((2 : Int) = 1)))).2 (by decide) (by decide)
  have A6 := A5.iloadN (v := (2 : Int32)) (pc' := 15) d4_14 rfl rfl
  obtain ⟨h7, b8, eb9, g10, E11, X12, A13⟩ := A6.newP (z := (2 : Int32)) (N := 2) (cap := 2) (C' := 1) (S' := 2) (pc' := 17) d4_15 (hw _ (List.mem_of_getElem? (i := 0) rfl)) rfl (by decide) (by decide) (by decide) (by decide) rfl rfl rfl
  have ne14 : a ≠ b8 := Nat.ne_of_lt (Nat.lt_of_lt_of_le e0.lt (Nat.le_of_eq eb9.symm))
  change Ars Z h7 b8 .int 2 (fun _ => (.int (0 : Int32))) at X12
  have A15 := A13.astoreN (Ls' := #[.val (.ref a), .val (.int (2 : Int32)), .val (.ref b8)]) (pc' := 18) d4_17 rfl rfl rfl
  have A16 := A15.aloadN (v := (.ref a)) (pc' := 19) d4_18 rfl rfl rfl
  have A17 := A16.iconst (z := (0 : Int32)) (pc' := 20) d4_19 rfl rfl
  have A18 := A17.aloadN (v := (.ref b8)) (pc' := 21) d4_20 rfl rfl rfl
  have A19 := A18.iconst (z := (0 : Int32)) (pc' := 22) d4_21 rfl rfl
  have A20 := A19.aloadN (v := (.ref a)) (pc' := 23) d4_22 rfl rfl rfl
  have f21 := (e0.ext E11)
  have A22 := A20.alen (z := (1 : Int32)) (pc' := 24) d4_23 f21 rfl rfl
  have A23 := A22.iloadN (v := (2 : Int32)) (pc' := 25) d4_24 rfl rfl
  obtain ⟨r25, _, ⟨rfl, q26⟩, A24⟩ := W.kI (A23.callS (argsL := [(.int (1 : Int32)), (.int (2 : Int32))]) (rest := [(.int (0 : Int32)), (.ref b8), (.int (0 : Int32)), (.ref a)]) (C' := 1) (S' := 2) (pc' := 28) d4_25 (hw _ (List.mem_of_getElem? (i := 27) rfl)) (hw _ (List.mem_of_getElem? (i := 28) rfl)) (hw _ (List.mem_of_getElem? (i := 29) rfl)) (hw _ (List.mem_of_getElem? (i := 30) rfl)) (rm5 l Z a0 hw n0 [] ((1 : Int32)) ((2 : Int32))  h7 A23.size ) rfl rfl pd_0 rfl rfl (by decide) (by decide) (Nat.le_of_ble_eq_true rfl) (by decide) (by decide) rfl rfl rfl)
  subst q26
  obtain ⟨h28, K29, X30, A31⟩ := A24.acopy (i := 0) (j := 0) (k := 1) (pc' := 31) d4_28 (hw _ (List.mem_of_getElem? (i := 31) rfl)) (hw _ (List.mem_of_getElem? (i := 34) rfl)) (hw _ (List.mem_of_getElem? (i := 32) rfl)) (hw _ (List.mem_of_getElem? (i := 33) rfl)) f21 X12 rfl rfl rfl (by decide) (by decide) (by decide) g10 rfl (by decide) (Nat.le_of_ble_eq_true rfl) rfl
  have A32 := A31.aloadN (v := (.ref b8)) (pc' := 32) d4_31 rfl rfl rfl
  have z33 : h0.size ≤ b8 := Nat.le_trans (Nat.le_refl _) (Nat.le_of_eq eb9.symm)
  have K34 : Keep h0 h28 [] := (((Keep.refl h0 []).ext E11).trans K29 (allS (Or.inr z33) all0))
  refine A32.retA d4_32 (by decide) (by decide) rfl rfl rfl ⟨_, rfl, ⟨K34, g10, z33, X30, ?_⟩⟩
  trivial
abbrev y4_4 : MethodName := (⟨"java/util/Arrays", "copyOf", "([II)[I"⟩ : MethodName)
abbrev R4_4 : Room := { frames := 1, cells := 1, slots := 4, locals := 18 }
set_option maxRecDepth 65536 in
set_option maxHeartbeats 4000000 in
theorem ef4_4 (a : Addr) (mid : MethodId) : entryFrame mid #[(.ref a), (.int (4 : Int32))] 3 = mkF mid 0 #[.val (.ref a), .val (.int (4 : Int32)), .unset] [] := by first | (simp [entryFrame, mkF, argsToLocals, Value.category]; done) | rfl
set_option maxRecDepth 65536 in
set_option maxHeartbeats 40000000 in
theorem rm4_4 (l : Launch) (Z : State) (a0 : Array Value) (hw : ∀ d ∈ tables_1, d.before a0 Z = true) (n0 : Nat) (ws : List Jvm.Cond) (a : Addr) (f : Nat → Value) (h0 : Heap) (hn0 : n0 ≤ h0.size) (e0 : Ars Z h0 a .int 2 f) :
    Ctr l Z n0 y4_4 jdk_65_method_123_code 3 (some (.array .int)) ws R4_4 #[(.ref a), (.int (4 : Int32))] h0 (QA fun r h => (Keep h0 h []) ∧ (n0 ≤ r) ∧ (h0.size ≤ r) ∧ (Ars Z h r .int 4 (cpy f 0 (fun _ => (.int (0 : Int32))) 0 2)) ∧ (True)) := by
  refine ctr_of pn4 hn0 (ef4_4 a) fun G A0 => ?_
  have A1 := A0.iloadN (v := (4 : Int32)) (pc' := 1) d4_0 rfl rfl
  have A2 := A1.aloadN (v := (.ref a)) (pc' := 2) d4_1 rfl rfl rfl
  have A3 := A2.alen (z := (2 : Int32)) (pc' := 3) d4_2 e0 rfl rfl
  have A5 := A3.icmpYes (pc' := 14) d4_3 (feq (ine (x := (4 : Int32)) (y := (2 : Int32)) rfl rfl (by decide : ¬ ((4 : Int) = 2)))).2 (by decide) (by decide)
  have A6 := A5.iloadN (v := (4 : Int32)) (pc' := 15) d4_14 rfl rfl
  obtain ⟨h7, b8, eb9, g10, E11, X12, A13⟩ := A6.newP (z := (4 : Int32)) (N := 4) (cap := 4) (C' := 1) (S' := 4) (pc' := 17) d4_15 (hw _ (List.mem_of_getElem? (i := 0) rfl)) rfl (by decide) (by decide) (by decide) (by decide) rfl rfl rfl
  have ne14 : a ≠ b8 := Nat.ne_of_lt (Nat.lt_of_lt_of_le e0.lt (Nat.le_of_eq eb9.symm))
  change Ars Z h7 b8 .int 4 (fun _ => (.int (0 : Int32))) at X12
  have A15 := A13.astoreN (Ls' := #[.val (.ref a), .val (.int (4 : Int32)), .val (.ref b8)]) (pc' := 18) d4_17 rfl rfl rfl
  have A16 := A15.aloadN (v := (.ref a)) (pc' := 19) d4_18 rfl rfl rfl
  have A17 := A16.iconst (z := (0 : Int32)) (pc' := 20) d4_19 rfl rfl
  have A18 := A17.aloadN (v := (.ref b8)) (pc' := 21) d4_20 rfl rfl rfl
  have A19 := A18.iconst (z := (0 : Int32)) (pc' := 22) d4_21 rfl rfl
  have A20 := A19.aloadN (v := (.ref a)) (pc' := 23) d4_22 rfl rfl rfl
  have f21 := (e0.ext E11)
  have A22 := A20.alen (z := (2 : Int32)) (pc' := 24) d4_23 f21 rfl rfl
  have A23 := A22.iloadN (v := (4 : Int32)) (pc' := 25) d4_24 rfl rfl
  obtain ⟨r25, _, ⟨rfl, q26⟩, A24⟩ := W.kI (A23.callS (argsL := [(.int (2 : Int32)), (.int (4 : Int32))]) (rest := [(.int (0 : Int32)), (.ref b8), (.int (0 : Int32)), (.ref a)]) (C' := 1) (S' := 4) (pc' := 28) d4_25 (hw _ (List.mem_of_getElem? (i := 27) rfl)) (hw _ (List.mem_of_getElem? (i := 28) rfl)) (hw _ (List.mem_of_getElem? (i := 29) rfl)) (hw _ (List.mem_of_getElem? (i := 30) rfl)) (rm5 l Z a0 hw n0 [] ((2 : Int32)) ((4 : Int32))  h7 A23.size ) rfl rfl pd_0 rfl rfl (by decide) (by decide) (Nat.le_of_ble_eq_true rfl) (by decide) (by decide) rfl rfl rfl)
  subst q26
  obtain ⟨h28, K29, X30, A31⟩ := A24.acopy (i := 0) (j := 0) (k := 2) (pc' := 31) d4_28 (hw _ (List.mem_of_getElem? (i := 31) rfl)) (hw _ (List.mem_of_getElem? (i := 34) rfl)) (hw _ (List.mem_of_getElem? (i := 32) rfl)) (hw _ (List.mem_of_getElem? (i := 33) rfl)) f21 X12 rfl rfl rfl (by decide) (by decide) (by decide) g10 rfl (by decide) (Nat.le_of_ble_eq_true rfl) rfl
  have A32 := A31.aloadN (v := (.ref b8)) (pc' := 32) d4_31 rfl rfl rfl
  have z33 : h0.size ≤ b8 := Nat.le_trans (Nat.le_refl _) (Nat.le_of_eq eb9.symm)
  have K34 : Keep h0 h28 [] := (((Keep.refl h0 []).ext E11).trans K29 (allS (Or.inr z33) all0))
  refine A32.retA d4_32 (by decide) (by decide) rfl rfl rfl ⟨_, rfl, ⟨K34, g10, z33, X30, ?_⟩⟩
  trivial
abbrev y4_7 : MethodName := (⟨"java/util/Arrays", "copyOf", "([II)[I"⟩ : MethodName)
abbrev R4_7 : Room := { frames := 1, cells := 1, slots := 7, locals := 18 }
set_option maxRecDepth 65536 in
set_option maxHeartbeats 4000000 in
theorem ef4_7 (a : Addr) (mid : MethodId) : entryFrame mid #[(.ref a), (.int (7 : Int32))] 3 = mkF mid 0 #[.val (.ref a), .val (.int (7 : Int32)), .unset] [] := by first | (simp [entryFrame, mkF, argsToLocals, Value.category]; done) | rfl
set_option maxRecDepth 65536 in
set_option maxHeartbeats 40000000 in
theorem rm4_7 (l : Launch) (Z : State) (a0 : Array Value) (hw : ∀ d ∈ tables_1, d.before a0 Z = true) (n0 : Nat) (ws : List Jvm.Cond) (a : Addr) (f : Nat → Value) (h0 : Heap) (hn0 : n0 ≤ h0.size) (e0 : Ars Z h0 a .int 4 f) :
    Ctr l Z n0 y4_7 jdk_65_method_123_code 3 (some (.array .int)) ws R4_7 #[(.ref a), (.int (7 : Int32))] h0 (QA fun r h => (Keep h0 h []) ∧ (n0 ≤ r) ∧ (h0.size ≤ r) ∧ (Ars Z h r .int 7 (cpy f 0 (fun _ => (.int (0 : Int32))) 0 4)) ∧ (True)) := by
  refine ctr_of pn4 hn0 (ef4_7 a) fun G A0 => ?_
  have A1 := A0.iloadN (v := (7 : Int32)) (pc' := 1) d4_0 rfl rfl
  have A2 := A1.aloadN (v := (.ref a)) (pc' := 2) d4_1 rfl rfl rfl
  have A3 := A2.alen (z := (4 : Int32)) (pc' := 3) d4_2 e0 rfl rfl
  have A5 := A3.icmpYes (pc' := 14) d4_3 (feq (ine (x := (7 : Int32)) (y := (4 : Int32)) rfl rfl (by decide : ¬ ((7 : Int) = 4)))).2 (by decide) (by decide)
  have A6 := A5.iloadN (v := (7 : Int32)) (pc' := 15) d4_14 rfl rfl
  obtain ⟨h7, b8, eb9, g10, E11, X12, A13⟩ := A6.newP (z := (7 : Int32)) (N := 7) (cap := 7) (C' := 1) (S' := 7) (pc' := 17) d4_15 (hw _ (List.mem_of_getElem? (i := 0) rfl)) rfl (by decide) (by decide) (by decide) (by decide) rfl rfl rfl
  have ne14 : a ≠ b8 := Nat.ne_of_lt (Nat.lt_of_lt_of_le e0.lt (Nat.le_of_eq eb9.symm))
  change Ars Z h7 b8 .int 7 (fun _ => (.int (0 : Int32))) at X12
  have A15 := A13.astoreN (Ls' := #[.val (.ref a), .val (.int (7 : Int32)), .val (.ref b8)]) (pc' := 18) d4_17 rfl rfl rfl
  have A16 := A15.aloadN (v := (.ref a)) (pc' := 19) d4_18 rfl rfl rfl
  have A17 := A16.iconst (z := (0 : Int32)) (pc' := 20) d4_19 rfl rfl
  have A18 := A17.aloadN (v := (.ref b8)) (pc' := 21) d4_20 rfl rfl rfl
  have A19 := A18.iconst (z := (0 : Int32)) (pc' := 22) d4_21 rfl rfl
  have A20 := A19.aloadN (v := (.ref a)) (pc' := 23) d4_22 rfl rfl rfl
  have f21 := (e0.ext E11)
  have A22 := A20.alen (z := (4 : Int32)) (pc' := 24) d4_23 f21 rfl rfl
  have A23 := A22.iloadN (v := (7 : Int32)) (pc' := 25) d4_24 rfl rfl
  obtain ⟨r25, _, ⟨rfl, q26⟩, A24⟩ := W.kI (A23.callS (argsL := [(.int (4 : Int32)), (.int (7 : Int32))]) (rest := [(.int (0 : Int32)), (.ref b8), (.int (0 : Int32)), (.ref a)]) (C' := 1) (S' := 7) (pc' := 28) d4_25 (hw _ (List.mem_of_getElem? (i := 27) rfl)) (hw _ (List.mem_of_getElem? (i := 28) rfl)) (hw _ (List.mem_of_getElem? (i := 29) rfl)) (hw _ (List.mem_of_getElem? (i := 30) rfl)) (rm5 l Z a0 hw n0 [] ((4 : Int32)) ((7 : Int32))  h7 A23.size ) rfl rfl pd_0 rfl rfl (by decide) (by decide) (Nat.le_of_ble_eq_true rfl) (by decide) (by decide) rfl rfl rfl)
  subst q26
  obtain ⟨h28, K29, X30, A31⟩ := A24.acopy (i := 0) (j := 0) (k := 4) (pc' := 31) d4_28 (hw _ (List.mem_of_getElem? (i := 31) rfl)) (hw _ (List.mem_of_getElem? (i := 34) rfl)) (hw _ (List.mem_of_getElem? (i := 32) rfl)) (hw _ (List.mem_of_getElem? (i := 33) rfl)) f21 X12 rfl rfl rfl (by decide) (by decide) (by decide) g10 rfl (by decide) (Nat.le_of_ble_eq_true rfl) rfl
  have A32 := A31.aloadN (v := (.ref b8)) (pc' := 32) d4_31 rfl rfl rfl
  have z33 : h0.size ≤ b8 := Nat.le_trans (Nat.le_refl _) (Nat.le_of_eq eb9.symm)
  have K34 : Keep h0 h28 [] := (((Keep.refl h0 []).ext E11).trans K29 (allS (Or.inr z33) all0))
  refine A32.retA d4_32 (by decide) (by decide) rfl rfl rfl ⟨_, rfl, ⟨K34, g10, z33, X30, ?_⟩⟩
  trivial
theorem pn1 : plainFor (⟨"com/example/best_plus_rest/bestplusrest/index/Postings", "<init>", "()V"⟩ : MethodName) = true := by first | exact plainFor_of_name (by first | (simp [plainName, overriddenIn]; done) | decide +kernel) | exact Jvm.Free.JP.mathPlain rfl (by decide +kernel) | decide +kernel
theorem d1_0 : decode prog_6_method_1_code 0 = .ok (.aload_n 0, 1) := by decide +kernel
theorem d1_1 : decode prog_6_method_1_code 1 = .ok (.invokespecial 1, 3) := by decide +kernel
theorem d1_4 : decode prog_6_method_1_code 4 = .ok (.aload_n 0, 1) := by decide +kernel
theorem d1_5 : decode prog_6_method_1_code 5 = .ok (.iconst 1, 1) := by decide +kernel
theorem d1_6 : decode prog_6_method_1_code 6 = .ok (.newarray .int, 2) := by decide +kernel
theorem d1_8 : decode prog_6_method_1_code 8 = .ok (.putfield 7, 3) := by decide +kernel
theorem d1_11 : decode prog_6_method_1_code 11 = .ok (.aload_n 0, 1) := by decide +kernel
theorem d1_12 : decode prog_6_method_1_code 12 = .ok (.iconst 1, 1) := by decide +kernel
theorem d1_13 : decode prog_6_method_1_code 13 = .ok (.newarray .int, 2) := by decide +kernel
theorem d1_15 : decode prog_6_method_1_code 15 = .ok (.putfield 13, 3) := by decide +kernel
theorem d1_18 : decode prog_6_method_1_code 18 = .ok (.return_, 1) := by decide +kernel
abbrev y1 : MethodName := (⟨"com/example/best_plus_rest/bestplusrest/index/Postings", "<init>", "()V"⟩ : MethodName)
abbrev R1 : Room := { frames := 1, cells := 2, slots := 2, locals := 12 }
set_option maxRecDepth 65536 in
set_option maxHeartbeats 4000000 in
theorem ef1 (a : Addr) (mid : MethodId) : entryFrame mid #[(.ref a)] 1 = mkF mid 0 #[.val (.ref a)] [] := by first | (simp [entryFrame, mkF, argsToLocals, Value.category]; done) | rfl
set_option maxRecDepth 65536 in
set_option maxHeartbeats 40000000 in
theorem rm1 (l : Launch) (Z : State) (a0 : Array Value) (hw : ∀ d ∈ tables_1, d.before a0 Z = true) (n0 : Nat) (ws : List Jvm.Cond) (a : Addr)  (h0 : Heap) (hn0 : n0 ≤ h0.size) (e0 : Exa Z h0 a "com/example/best_plus_rest/bestplusrest/index/Postings") (e1 : Fld Z h0 a "com/example/best_plus_rest/bestplusrest/index/Postings" "docs" "[I" .null) (e2 : Fld Z h0 a "com/example/best_plus_rest/bestplusrest/index/Postings" "freqs" "[I" .null) (e3 : Fld Z h0 a "com/example/best_plus_rest/bestplusrest/index/Postings" "size" "I" (.int (0 : Int32))) (e4 : n0 ≤ a) :
    Ctr l Z n0 y1 prog_6_method_1_code 1 (none) ws R1 #[(.ref a)] h0 (QV fun h => ∃ b1 : Addr, ∃ b2 : Addr, (Keep h0 h [a]) ∧ (n0 ≤ b1) ∧ (h0.size ≤ b1) ∧ (n0 ≤ b2) ∧ (h0.size ≤ b2) ∧ (Fld Z h a "com/example/best_plus_rest/bestplusrest/index/Postings" "docs" "[I" (.ref b1)) ∧ (Fld Z h a "com/example/best_plus_rest/bestplusrest/index/Postings" "freqs" "[I" (.ref b2)) ∧ (Fld Z h a "com/example/best_plus_rest/bestplusrest/index/Postings" "size" "I" (.int (0 : Int32))) ∧ (Ars Z h b1 .int 1 (fun _ => (.int (0 : Int32)))) ∧ (Ars Z h b2 .int 1 (fun _ => (.int (0 : Int32)))) ∧ (b1 ≠ b2) ∧ (True)) := by
  refine ctr_of pn1 hn0 (ef1 a) fun G A0 => ?_
  have A1 := A0.aloadN (v := (.ref a)) (pc' := 1) d1_0 rfl rfl rfl
  have A2 := A1.initO (pc' := 4) d1_1 (hw _ (List.mem_of_getElem? (i := 9) rfl)) (hw _ (List.mem_of_getElem? (i := 10) rfl)) (hw _ (List.mem_of_getElem? (i := 11) rfl)) rfl (by decide) (Nat.le_of_ble_eq_true rfl) rfl
  have A3 := A2.aloadN (v := (.ref a)) (pc' := 5) d1_4 rfl rfl rfl
  have A4 := A3.iconst (z := (1 : Int32)) (pc' := 6) d1_5 rfl rfl
  obtain ⟨h5, b6, eb7, g8, E9, X10, A11⟩ := A4.newP (z := (1 : Int32)) (N := 1) (cap := 1) (C' := 1) (S' := 1) (pc' := 8) d1_6 (hw _ (List.mem_of_getElem? (i := 0) rfl)) rfl (by decide) (by decide) (by decide) (by decide) rfl rfl rfl
  have ne12 : a ≠ b6 := Nat.ne_of_lt (Nat.lt_of_lt_of_le e0.lt (Nat.le_of_eq eb7.symm))
  change Ars Z h5 b6 .int 1 (fun _ => (.int (0 : Int32))) at X10
  have f13 := (e1.ext E9)
  have f14 := (e0.ext E9)
  obtain ⟨h16, w17, A15⟩ := A11.putF (pc' := 11) (ty := (.array .int)) (host := "") d1_8 (Or.inl (hw _ (List.mem_of_getElem? (i := 12) rfl))) Via.refl f13 f14 (Or.inl (hw _ (List.mem_of_getElem? (i := 13) rfl))) (hw _ (List.mem_of_getElem? (i := 4) rfl)) (by decide) rfl rfl e4 rfl
  have f18 := f13.same w17
  have A19 := A15.aloadN (v := (.ref a)) (pc' := 12) d1_11 rfl rfl rfl
  have A20 := A19.iconst (z := (1 : Int32)) (pc' := 13) d1_12 rfl rfl
  obtain ⟨h21, b22, eb23, g24, E25, X26, A27⟩ := A20.newP (z := (1 : Int32)) (N := 1) (cap := 1) (C' := 2) (S' := 2) (pc' := 15) d1_13 (hw _ (List.mem_of_getElem? (i := 0) rfl)) rfl (by decide) (by decide) (by decide) (by decide) rfl rfl rfl
  have f28 := (f14.wr w17)
  have ne29 : a ≠ b22 := Nat.ne_of_lt (Nat.lt_of_lt_of_le f28.lt (Nat.le_of_eq eb23.symm))
  have f30 := (X10.other w17 (Ne.symm ne12))
  have ne31 : b6 ≠ b22 := Nat.ne_of_lt (Nat.lt_of_lt_of_le f30.lt (Nat.le_of_eq eb23.symm))
  change Ars Z h21 b22 .int 1 (fun _ => (.int (0 : Int32))) at X26
  have f32 := (((e2.ext E9).other w17 (Or.inr (slot_ne (Or.inl (hw _ (List.mem_of_getElem? (i := 15) rfl))) (Or.inl (hw _ (List.mem_of_getElem? (i := 13) rfl))) (by decide) (t := (.array .int)) (t' := (.array .int)) (by decide) (by decide)))).ext E25)
  have f33 := (f28.ext E25)
  obtain ⟨h35, w36, A34⟩ := A27.putF (pc' := 18) (ty := (.array .int)) (host := "") d1_15 (Or.inl (hw _ (List.mem_of_getElem? (i := 14) rfl))) Via.refl f32 f33 (Or.inl (hw _ (List.mem_of_getElem? (i := 15) rfl))) (hw _ (List.mem_of_getElem? (i := 4) rfl)) (by decide) rfl rfl e4 rfl
  have f37 := f32.same w36
  have K38 : Keep h0 h35 [a] := (((((Keep.refl h0 [a]).ext E9).wr w17 (Or.inl (List.mem_of_getElem? (i := 0) rfl))).ext E25).wr w36 (Or.inl (List.mem_of_getElem? (i := 0) rfl)))
  have z39 : h0.size ≤ b6 := Nat.le_trans (Nat.le_refl _) (Nat.le_of_eq eb7.symm)
  have z40 : h0.size ≤ b22 := Nat.le_trans (Nat.le_trans (Nat.le_trans (Nat.le_refl _) E9.1) (Nat.le_of_eq w17.size.symm)) (Nat.le_of_eq eb23.symm)
  have f41 := ((f18.ext E25).other w36 (Or.inr (slot_ne (Or.inl (hw _ (List.mem_of_getElem? (i := 13) rfl))) (Or.inl (hw _ (List.mem_of_getElem? (i := 15) rfl))) (by decide) (t := (.array .int)) (t' := (.array .int)) (by decide) (by decide))))
  have f42 := ((((e3.ext E9).other w17 (Or.inr (slot_ne (Or.inl (hw _ (List.mem_of_getElem? (i := 22) rfl))) (Or.inl (hw _ (List.mem_of_getElem? (i := 13) rfl))) (by decide) (t := .int) (t' := (.array .int)) (by decide) (by decide)))).ext E25).other w36 (Or.inr (slot_ne (Or.inl (hw _ (List.mem_of_getElem? (i := 22) rfl))) (Or.inl (hw _ (List.mem_of_getElem? (i := 15) rfl))) (by decide) (t := .int) (t' := (.array .int)) (by decide) (by decide))))
  have f43 := ((f30.ext E25).other w36 (Ne.symm ne12))
  have f44 := (X26.other w36 (Ne.symm ne29))
  refine A34.retV d1_18 (by decide) (by decide) ⟨rfl, ⟨b6, b22, K38, g8, z39, g24, z40, f41, f37, f42, f43, f44, ne31, ?_⟩⟩
  trivial
theorem pn3 : plainFor (⟨"com/example/best_plus_rest/bestplusrest/index/Postings", "add", "(II)V"⟩ : MethodName) = true := by first | exact plainFor_of_name (by first | (simp [plainName, overriddenIn]; done) | decide +kernel) | exact Jvm.Free.JP.mathPlain rfl (by decide +kernel) | decide +kernel
theorem d3_0 : decode prog_6_method_6_code 0 = .ok (.aload_n 0, 1) := by decide +kernel
theorem d3_1 : decode prog_6_method_6_code 1 = .ok (.getfield 16, 3) := by decide +kernel
theorem d3_4 : decode prog_6_method_6_code 4 = .ok (.aload_n 0, 1) := by decide +kernel
theorem d3_5 : decode prog_6_method_6_code 5 = .ok (.getfield 7, 3) := by decide +kernel
theorem d3_8 : decode prog_6_method_6_code 8 = .ok (.arraylength, 1) := by decide +kernel
theorem d3_9 : decode prog_6_method_6_code 9 = .ok (.if_icmp .ne 41, 3) := by decide +kernel
theorem d3_50 : decode prog_6_method_6_code 50 = .ok (.aload_n 0, 1) := by decide +kernel
theorem d3_51 : decode prog_6_method_6_code 51 = .ok (.getfield 7, 3) := by decide +kernel
theorem d3_54 : decode prog_6_method_6_code 54 = .ok (.aload_n 0, 1) := by decide +kernel
theorem d3_55 : decode prog_6_method_6_code 55 = .ok (.getfield 16, 3) := by decide +kernel
theorem d3_58 : decode prog_6_method_6_code 58 = .ok (.iload_n 1, 1) := by decide +kernel
theorem d3_59 : decode prog_6_method_6_code 59 = .ok (.iastore, 1) := by decide +kernel
theorem d3_60 : decode prog_6_method_6_code 60 = .ok (.aload_n 0, 1) := by decide +kernel
theorem d3_61 : decode prog_6_method_6_code 61 = .ok (.getfield 13, 3) := by decide +kernel
theorem d3_64 : decode prog_6_method_6_code 64 = .ok (.aload_n 0, 1) := by decide +kernel
theorem d3_65 : decode prog_6_method_6_code 65 = .ok (.getfield 16, 3) := by decide +kernel
theorem d3_68 : decode prog_6_method_6_code 68 = .ok (.iload_n 2, 1) := by decide +kernel
theorem d3_69 : decode prog_6_method_6_code 69 = .ok (.iastore, 1) := by decide +kernel
theorem d3_70 : decode prog_6_method_6_code 70 = .ok (.aload_n 0, 1) := by decide +kernel
theorem d3_71 : decode prog_6_method_6_code 71 = .ok (.dup, 1) := by decide +kernel
theorem d3_72 : decode prog_6_method_6_code 72 = .ok (.getfield 16, 3) := by decide +kernel
theorem d3_75 : decode prog_6_method_6_code 75 = .ok (.iconst 1, 1) := by decide +kernel
theorem d3_76 : decode prog_6_method_6_code 76 = .ok (.iadd, 1) := by decide +kernel
theorem d3_77 : decode prog_6_method_6_code 77 = .ok (.putfield 16, 3) := by decide +kernel
theorem d3_80 : decode prog_6_method_6_code 80 = .ok (.return_, 1) := by decide +kernel
abbrev y3_0 : MethodName := (⟨"com/example/best_plus_rest/bestplusrest/index/Postings", "add", "(II)V"⟩ : MethodName)
abbrev R3_0 : Room := { frames := 0, cells := 0, slots := 0, locals := 0 }
set_option maxRecDepth 65536 in
set_option maxHeartbeats 4000000 in
theorem ef3_0 (a : Addr) (doc : Int32) (fr : Int32) (mid : MethodId) : entryFrame mid #[(.ref a), (.int doc), (.int fr)] 4 = mkF mid 0 #[.val (.ref a), .val (.int doc), .val (.int fr), .unset] [] := by first | (simp [entryFrame, mkF, argsToLocals, Value.category]; done) | rfl
set_option maxRecDepth 65536 in
set_option maxHeartbeats 40000000 in
theorem rm3_0 (l : Launch) (Z : State) (a0 : Array Value) (hw : ∀ d ∈ tables_1, d.before a0 Z = true) (n0 : Nat) (ws : List Jvm.Cond) (a : Addr) (doc : Int32) (fr : Int32) (u : Addr) (w : Addr) (f : Nat → Value) (g : Nat → Value) (h0 : Heap) (hn0 : n0 ≤ h0.size) (e0 : Exa Z h0 a "com/example/best_plus_rest/bestplusrest/index/Postings") (e1 : n0 ≤ a) (e2 : Fld Z h0 a "com/example/best_plus_rest/bestplusrest/index/Postings" "docs" "[I" (.ref u)) (e3 : Fld Z h0 a "com/example/best_plus_rest/bestplusrest/index/Postings" "freqs" "[I" (.ref w)) (e4 : Fld Z h0 a "com/example/best_plus_rest/bestplusrest/index/Postings" "size" "I" (.int (0 : Int32))) (e5 : Ars Z h0 u .int 1 f) (e6 : Ars Z h0 w .int 1 g) (e7 : n0 ≤ u) (e8 : n0 ≤ w) (e9 : u ≠ w) (e10 : a ≠ u) (e11 : a ≠ w) :
    Ctr l Z n0 y3_0 prog_6_method_6_code 4 (none) ws R3_0 #[(.ref a), (.int doc), (.int fr)] h0 (QV fun h => (Keep h0 h [a, u, w]) ∧ (Fld Z h a "com/example/best_plus_rest/bestplusrest/index/Postings" "docs" "[I" (.ref u)) ∧ (Fld Z h a "com/example/best_plus_rest/bestplusrest/index/Postings" "freqs" "[I" (.ref w)) ∧ (Fld Z h a "com/example/best_plus_rest/bestplusrest/index/Postings" "size" "I" (.int (1 : Int32))) ∧ (Ars Z h u .int 1 (upd f 0 (.int doc))) ∧ (Ars Z h w .int 1 (upd g 0 (.int fr))) ∧ (True)) := by
  refine ctr_of pn3 hn0 (ef3_0 a doc fr) fun G A0 => ?_
  have A1 := A0.aloadN (v := (.ref a)) (pc' := 1) d3_0 rfl rfl rfl
  have A2 := A1.getF (pc' := 4) (host := "") d3_1 (Or.inl (hw _ (List.mem_of_getElem? (i := 21) rfl))) Via.refl e4 rfl
  have A3 := A2.aloadN (v := (.ref a)) (pc' := 5) d3_4 rfl rfl rfl
  have A4 := A3.getF (pc' := 8) (host := "") d3_5 (Or.inl (hw _ (List.mem_of_getElem? (i := 12) rfl))) Via.refl e2 rfl
  have A5 := A4.alen (z := (1 : Int32)) (pc' := 9) d3_8 e5 rfl rfl
  have A7 := A5.icmpYes (pc' := 50) d3_9 (feq (ine (x := (0 : Int32)) (y := (1 : Int32)) rfl rfl (by decide : ¬ ((0 : Int) = 1)))).2 (by decide) (by decide)
  have A8 := A7.aloadN (v := (.ref a)) (pc' := 51) d3_50 rfl rfl rfl
  have A9 := A8.getF (pc' := 54) (host := "") d3_51 (Or.inl (hw _ (List.mem_of_getElem? (i := 12) rfl))) Via.refl e2 rfl
  have A10 := A9.aloadN (v := (.ref a)) (pc' := 55) d3_54 rfl rfl rfl
  have A11 := A10.getF (pc' := 58) (host := "") d3_55 (Or.inl (hw _ (List.mem_of_getElem? (i := 21) rfl))) Via.refl e4 rfl
  have A12 := A11.iloadN (v := doc) (pc' := 59) d3_58 rfl rfl
  obtain ⟨h13, w14, X15, A16⟩ := A12.iastore (i := 0) (pc' := 60) d3_59 e5 rfl (by decide) e7 rfl
  have A17 := A16.aloadN (v := (.ref a)) (pc' := 61) d3_60 rfl rfl rfl
  have f19 := (e3.other w14 (Or.inl e10))
  have A18 := A17.getF (pc' := 64) (host := "") d3_61 (Or.inl (hw _ (List.mem_of_getElem? (i := 14) rfl))) Via.refl f19 rfl
  have A20 := A18.aloadN (v := (.ref a)) (pc' := 65) d3_64 rfl rfl rfl
  have f22 := (e4.other w14 (Or.inl e10))
  have A21 := A20.getF (pc' := 68) (host := "") d3_65 (Or.inl (hw _ (List.mem_of_getElem? (i := 21) rfl))) Via.refl f22 rfl
  have A23 := A21.iloadN (v := fr) (pc' := 69) d3_68 rfl rfl
  have f24 := (e6.other w14 (Ne.symm e9))
  obtain ⟨h25, w26, X27, A28⟩ := A23.iastore (i := 0) (pc' := 70) d3_69 f24 rfl (by decide) e8 rfl
  have A29 := A28.aloadN (v := (.ref a)) (pc' := 71) d3_70 rfl rfl rfl
  have A30 := A29.dup (pc' := 72) d3_71 rfl rfl
  have f32 := (f22.other w26 (Or.inl e11))
  have A31 := A30.getF (pc' := 75) (host := "") d3_72 (Or.inl (hw _ (List.mem_of_getElem? (i := 21) rfl))) Via.refl f32 rfl
  have A33 := A31.iconst (z := (1 : Int32)) (pc' := 76) d3_75 rfl rfl
  have A34 := A33.iadd (pc' := 77) d3_76 rfl
  have A35 := A34.topI (z := (1 : Int32)) (by decide)
  have f36 := ((e0.wr w14).wr w26)
  obtain ⟨h38, w39, A37⟩ := A35.putF (pc' := 80) (ty := .int) (host := "") d3_77 (Or.inl (hw _ (List.mem_of_getElem? (i := 21) rfl))) Via.refl f32 f36 (Or.inl (hw _ (List.mem_of_getElem? (i := 22) rfl))) (hw _ (List.mem_of_getElem? (i := 4) rfl)) (by decide) rfl rfl e1 rfl
  have f40 := f32.same w39
  have K41 : Keep h0 h38 [a, u, w] := ((((Keep.refl h0 [a, u, w]).wr w14 (Or.inl (List.mem_of_getElem? (i := 1) rfl))).wr w26 (Or.inl (List.mem_of_getElem? (i := 2) rfl))).wr w39 (Or.inl (List.mem_of_getElem? (i := 0) rfl)))
  have f42 := (((e2.other w14 (Or.inl e10)).other w26 (Or.inl e11)).other w39 (Or.inr (slot_ne (Or.inl (hw _ (List.mem_of_getElem? (i := 13) rfl))) (Or.inl (hw _ (List.mem_of_getElem? (i := 22) rfl))) (by decide) (t := (.array .int)) (t' := .int) (by decide) (by decide))))
  have f43 := ((f19.other w26 (Or.inl e11)).other w39 (Or.inr (slot_ne (Or.inl (hw _ (List.mem_of_getElem? (i := 15) rfl))) (Or.inl (hw _ (List.mem_of_getElem? (i := 22) rfl))) (by decide) (t := (.array .int)) (t' := .int) (by decide) (by decide))))
  have f44 := ((X15.other w26 e9).other w39 (Ne.symm e10))
  have f45 := (X27.other w39 (Ne.symm e11))
  refine A37.retV d3_80 (by decide) (by decide) ⟨rfl, ⟨K41, f42, f43, f40, f44, f45, ?_⟩⟩
  trivial
theorem d3_12 : decode prog_6_method_6_code 12 = .ok (.aload_n 0, 1) := by decide +kernel
theorem d3_13 : decode prog_6_method_6_code 13 = .ok (.getfield 16, 3) := by decide +kernel
theorem d3_16 : decode prog_6_method_6_code 16 = .ok (.aload_n 0, 1) := by decide +kernel
theorem d3_17 : decode prog_6_method_6_code 17 = .ok (.getfield 16, 3) := by decide +kernel
theorem d3_20 : decode prog_6_method_6_code 20 = .ok (.iconst 1, 1) := by decide +kernel
theorem d3_21 : decode prog_6_method_6_code 21 = .ok (.ishr, 1) := by decide +kernel
theorem d3_22 : decode prog_6_method_6_code 22 = .ok (.iadd, 1) := by decide +kernel
theorem d3_23 : decode prog_6_method_6_code 23 = .ok (.iconst 1, 1) := by decide +kernel
theorem d3_24 : decode prog_6_method_6_code 24 = .ok (.iadd, 1) := by decide +kernel
theorem d3_25 : decode prog_6_method_6_code 25 = .ok (.istore_n 3, 1) := by decide +kernel
theorem d3_26 : decode prog_6_method_6_code 26 = .ok (.aload_n 0, 1) := by decide +kernel
theorem d3_27 : decode prog_6_method_6_code 27 = .ok (.aload_n 0, 1) := by decide +kernel
theorem d3_28 : decode prog_6_method_6_code 28 = .ok (.getfield 7, 3) := by decide +kernel
theorem d3_31 : decode prog_6_method_6_code 31 = .ok (.iload_n 3, 1) := by decide +kernel
theorem d3_32 : decode prog_6_method_6_code 32 = .ok (.invokestatic 26, 3) := by decide +kernel
theorem d3_35 : decode prog_6_method_6_code 35 = .ok (.putfield 7, 3) := by decide +kernel
theorem d3_38 : decode prog_6_method_6_code 38 = .ok (.aload_n 0, 1) := by decide +kernel
theorem d3_39 : decode prog_6_method_6_code 39 = .ok (.aload_n 0, 1) := by decide +kernel
theorem d3_40 : decode prog_6_method_6_code 40 = .ok (.getfield 13, 3) := by decide +kernel
theorem d3_43 : decode prog_6_method_6_code 43 = .ok (.iload_n 3, 1) := by decide +kernel
theorem d3_44 : decode prog_6_method_6_code 44 = .ok (.invokestatic 26, 3) := by decide +kernel
theorem d3_47 : decode prog_6_method_6_code 47 = .ok (.putfield 13, 3) := by decide +kernel
abbrev y3_1 : MethodName := (⟨"com/example/best_plus_rest/bestplusrest/index/Postings", "add", "(II)V"⟩ : MethodName)
abbrev R3_1 : Room := { frames := 2, cells := 2, slots := 4, locals := 33 }
set_option maxRecDepth 65536 in
set_option maxHeartbeats 4000000 in
theorem ef3_1 (a : Addr) (doc : Int32) (fr : Int32) (mid : MethodId) : entryFrame mid #[(.ref a), (.int doc), (.int fr)] 4 = mkF mid 0 #[.val (.ref a), .val (.int doc), .val (.int fr), .unset] [] := by first | (simp [entryFrame, mkF, argsToLocals, Value.category]; done) | rfl
set_option maxRecDepth 65536 in
set_option maxHeartbeats 40000000 in
theorem rm3_1 (l : Launch) (Z : State) (a0 : Array Value) (hw : ∀ d ∈ tables_1, d.before a0 Z = true) (n0 : Nat) (ws : List Jvm.Cond) (a : Addr) (doc : Int32) (fr : Int32) (u : Addr) (w : Addr) (f : Nat → Value) (g : Nat → Value) (h0 : Heap) (hn0 : n0 ≤ h0.size) (e0 : Exa Z h0 a "com/example/best_plus_rest/bestplusrest/index/Postings") (e1 : n0 ≤ a) (e2 : Fld Z h0 a "com/example/best_plus_rest/bestplusrest/index/Postings" "docs" "[I" (.ref u)) (e3 : Fld Z h0 a "com/example/best_plus_rest/bestplusrest/index/Postings" "freqs" "[I" (.ref w)) (e4 : Fld Z h0 a "com/example/best_plus_rest/bestplusrest/index/Postings" "size" "I" (.int (1 : Int32))) (e5 : Ars Z h0 u .int 1 f) (e6 : Ars Z h0 w .int 1 g) (e7 : n0 ≤ u) (e8 : n0 ≤ w) (e9 : u ≠ w) (e10 : a ≠ u) (e11 : a ≠ w) :
    Ctr l Z n0 y3_1 prog_6_method_6_code 4 (none) ws R3_1 #[(.ref a), (.int doc), (.int fr)] h0 (QV fun h => ∃ b1 : Addr, ∃ b2 : Addr, (Keep h0 h [a]) ∧ (n0 ≤ b1) ∧ (h0.size ≤ b1) ∧ (n0 ≤ b2) ∧ (h0.size ≤ b2) ∧ (Fld Z h a "com/example/best_plus_rest/bestplusrest/index/Postings" "docs" "[I" (.ref b1)) ∧ (Fld Z h a "com/example/best_plus_rest/bestplusrest/index/Postings" "freqs" "[I" (.ref b2)) ∧ (Fld Z h a "com/example/best_plus_rest/bestplusrest/index/Postings" "size" "I" (.int (2 : Int32))) ∧ (Ars Z h b1 .int 2 (upd (cpy f 0 (fun _ => (.int (0 : Int32))) 0 1) 1 (.int doc))) ∧ (Ars Z h b2 .int 2 (upd (cpy g 0 (fun _ => (.int (0 : Int32))) 0 1) 1 (.int fr))) ∧ (b1 ≠ b2) ∧ (True)) := by
  refine ctr_of pn3 hn0 (ef3_1 a doc fr) fun G A0 => ?_
  have A1 := A0.aloadN (v := (.ref a)) (pc' := 1) d3_0 rfl rfl rfl
  have A2 := A1.getF (pc' := 4) (host := "") d3_1 (Or.inl (hw _ (List.mem_of_getElem? (i := 21) rfl))) Via.refl e4 rfl
  have A3 := A2.aloadN (v := (.ref a)) (pc' := 5) d3_4 rfl rfl rfl
  have A4 := A3.getF (pc' := 8) (host := "") d3_5 (Or.inl (hw _ (List.mem_of_getElem? (i := 12) rfl))) Via.refl e2 rfl
  have A5 := A4.alen (z := (1 : Int32)) (pc' := 9) d3_8 e5 rfl rfl
  have A7 := A5.icmpNo (pc' := 12) d3_9 (teq (ieq (x := (1 : Int32)) (y := (1 : Int32)) rfl rfl (by decide : (1 : Int) = 1))).2 rfl
  have A8 := A7.aloadN (v := (.ref a)) (pc' := 13) d3_12 rfl rfl rfl
  have A9 := A8.getF (pc' := 16) (host := "") d3_13 (Or.inl (hw _ (List.mem_of_getElem? (i := 21) rfl))) Via.refl e4 rfl
  have A10 := A9.aloadN (v := (.ref a)) (pc' := 17) d3_16 rfl rfl rfl
  have A11 := A10.getF (pc' := 20) (host := "") d3_17 (Or.inl (hw _ (List.mem_of_getElem? (i := 21) rfl))) Via.refl e4 rfl
  have A12 := A11.iconst (z := (1 : Int32)) (pc' := 21) d3_20 rfl rfl
  have A13 := A12.ishr (pc' := 22) d3_21 rfl
  have A14 := A13.topI (z := (0 : Int32)) (by decide)
  have A15 := A14.iadd (pc' := 23) d3_22 rfl
  have A16 := A15.topI (z := (1 : Int32)) (by decide)
  have A17 := A16.iconst (z := (1 : Int32)) (pc' := 24) d3_23 rfl rfl
  have A18 := A17.iadd (pc' := 25) d3_24 rfl
  have A19 := A18.topI (z := (2 : Int32)) (by decide)
  have A20 := A19.istoreN (Ls' := #[.val (.ref a), .val (.int doc), .val (.int fr), .val (.int (2 : Int32))]) (pc' := 26) d3_25 rfl rfl
  have A21 := A20.aloadN (v := (.ref a)) (pc' := 27) d3_26 rfl rfl rfl
  have A22 := A21.aloadN (v := (.ref a)) (pc' := 28) d3_27 rfl rfl rfl
  have A23 := A22.getF (pc' := 31) (host := "") d3_28 (Or.inl (hw _ (List.mem_of_getElem? (i := 12) rfl))) Via.refl e2 rfl
  have A24 := A23.iloadN (v := (2 : Int32)) (pc' := 32) d3_31 rfl rfl
  obtain ⟨r26, h28, ⟨K29, g30, z31, f32, q27⟩, A25⟩ := W.kA (A24.callS (argsL := [(.ref u), (.int (2 : Int32))]) (rest := [(.ref a)]) (C' := 1) (S' := 2) (pc' := 35) d3_32 (hw _ (List.mem_of_getElem? (i := 23) rfl)) (hw _ (List.mem_of_getElem? (i := 24) rfl)) (hw _ (List.mem_of_getElem? (i := 25) rfl)) (hw _ (List.mem_of_getElem? (i := 26) rfl)) (rm4_2 l Z a0 hw n0 [] (u) (f) h0 A24.size e5) rfl rfl pd_1 rfl rfl (by decide) (by decide) (Nat.le_of_ble_eq_true rfl) (by decide) (by decide) rfl rfl rfl)
  have ne33 : a ≠ r26 := Nat.ne_of_lt (Nat.lt_of_lt_of_le e0.lt z31)
  have ne34 : u ≠ r26 := Nat.ne_of_lt (Nat.lt_of_lt_of_le e5.lt z31)
  have ne35 : w ≠ r26 := Nat.ne_of_lt (Nat.lt_of_lt_of_le e6.lt z31)
  have f36 := (e2.keep K29 nin0)
  have f37 := (e0.keep K29)
  obtain ⟨h39, w40, A38⟩ := A25.putF (pc' := 38) (ty := (.array .int)) (host := "") d3_35 (Or.inl (hw _ (List.mem_of_getElem? (i := 12) rfl))) Via.refl f36 f37 (Or.inl (hw _ (List.mem_of_getElem? (i := 13) rfl))) (hw _ (List.mem_of_getElem? (i := 4) rfl)) (by decide) rfl rfl e1 rfl
  have f41 := f36.same w40
  have A42 := A38.aloadN (v := (.ref a)) (pc' := 39) d3_38 rfl rfl rfl
  have A43 := A42.aloadN (v := (.ref a)) (pc' := 40) d3_39 rfl rfl rfl
  have f45 := ((e3.keep K29 nin0).other w40 (Or.inr (slot_ne (Or.inl (hw _ (List.mem_of_getElem? (i := 15) rfl))) (Or.inl (hw _ (List.mem_of_getElem? (i := 13) rfl))) (by decide) (t := (.array .int)) (t' := (.array .int)) (by decide) (by decide))))
  have A44 := A43.getF (pc' := 43) (host := "") d3_40 (Or.inl (hw _ (List.mem_of_getElem? (i := 14) rfl))) Via.refl f45 rfl
  have A46 := A44.iloadN (v := (2 : Int32)) (pc' := 44) d3_43 rfl rfl
  have f47 := ((e6.keep K29 nin0).other w40 (Ne.symm e11))
  obtain ⟨r49, h51, ⟨K52, g53, z54, f55, q50⟩, A48⟩ := W.kA (A46.callS (argsL := [(.ref w), (.int (2 : Int32))]) (rest := [(.ref a)]) (C' := 2) (S' := 4) (pc' := 47) d3_44 (hw _ (List.mem_of_getElem? (i := 23) rfl)) (hw _ (List.mem_of_getElem? (i := 24) rfl)) (hw _ (List.mem_of_getElem? (i := 25) rfl)) (hw _ (List.mem_of_getElem? (i := 26) rfl)) (rm4_2 l Z a0 hw n0 [] (w) (g) h39 A46.size f47) rfl rfl pd_1 rfl rfl (by decide) (by decide) (Nat.le_of_ble_eq_true rfl) (by decide) (by decide) rfl rfl rfl)
  have f56 := (f37.wr w40)
  have ne57 : a ≠ r49 := Nat.ne_of_lt (Nat.lt_of_lt_of_le f56.lt z54)
  have f58 := ((e5.keep K29 nin0).other w40 (Ne.symm e10))
  have ne59 : u ≠ r49 := Nat.ne_of_lt (Nat.lt_of_lt_of_le f58.lt z54)
  have ne60 : w ≠ r49 := Nat.ne_of_lt (Nat.lt_of_lt_of_le f47.lt z54)
  have f61 := (f32.other w40 (Ne.symm ne33))
  have ne62 : r26 ≠ r49 := Nat.ne_of_lt (Nat.lt_of_lt_of_le f61.lt z54)
  have f63 := (f45.keep K52 nin0)
  have f64 := (f56.keep K52)
  obtain ⟨h66, w67, A65⟩ := A48.putF (pc' := 50) (ty := (.array .int)) (host := "") d3_47 (Or.inl (hw _ (List.mem_of_getElem? (i := 14) rfl))) Via.refl f63 f64 (Or.inl (hw _ (List.mem_of_getElem? (i := 15) rfl))) (hw _ (List.mem_of_getElem? (i := 4) rfl)) (by decide) rfl rfl e1 rfl
  have f68 := f63.same w67
  have A69 := A65.aloadN (v := (.ref a)) (pc' := 51) d3_50 rfl rfl rfl
  have f71 := ((f41.keep K52 nin0).other w67 (Or.inr (slot_ne (Or.inl (hw _ (List.mem_of_getElem? (i := 13) rfl))) (Or.inl (hw _ (List.mem_of_getElem? (i := 15) rfl))) (by decide) (t := (.array .int)) (t' := (.array .int)) (by decide) (by decide))))
  have A70 := A69.getF (pc' := 54) (host := "") d3_51 (Or.inl (hw _ (List.mem_of_getElem? (i := 12) rfl))) Via.refl f71 rfl
  have A72 := A70.aloadN (v := (.ref a)) (pc' := 55) d3_54 rfl rfl rfl
  have f74 := ((((e4.keep K29 nin0).other w40 (Or.inr (slot_ne (Or.inl (hw _ (List.mem_of_getElem? (i := 22) rfl))) (Or.inl (hw _ (List.mem_of_getElem? (i := 13) rfl))) (by decide) (t := .int) (t' := (.array .int)) (by decide) (by decide)))).keep K52 nin0).other w67 (Or.inr (slot_ne (Or.inl (hw _ (List.mem_of_getElem? (i := 22) rfl))) (Or.inl (hw _ (List.mem_of_getElem? (i := 15) rfl))) (by decide) (t := .int) (t' := (.array .int)) (by decide) (by decide))))
  have A73 := A72.getF (pc' := 58) (host := "") d3_55 (Or.inl (hw _ (List.mem_of_getElem? (i := 21) rfl))) Via.refl f74 rfl
  have A75 := A73.iloadN (v := doc) (pc' := 59) d3_58 rfl rfl
  have f76 := ((f61.keep K52 nin0).other w67 (Ne.symm ne33))
  obtain ⟨h77, w78, X79, A80⟩ := A75.iastore (i := 1) (pc' := 60) d3_59 f76 rfl (by decide) g30 rfl
  have A81 := A80.aloadN (v := (.ref a)) (pc' := 61) d3_60 rfl rfl rfl
  have f83 := (f68.other w78 (Or.inl ne33))
  have A82 := A81.getF (pc' := 64) (host := "") d3_61 (Or.inl (hw _ (List.mem_of_getElem? (i := 14) rfl))) Via.refl f83 rfl
  have A84 := A82.aloadN (v := (.ref a)) (pc' := 65) d3_64 rfl rfl rfl
  have f86 := (f74.other w78 (Or.inl ne33))
  have A85 := A84.getF (pc' := 68) (host := "") d3_65 (Or.inl (hw _ (List.mem_of_getElem? (i := 21) rfl))) Via.refl f86 rfl
  have A87 := A85.iloadN (v := fr) (pc' := 69) d3_68 rfl rfl
  have f88 := ((f55.other w67 (Ne.symm ne57)).other w78 (Ne.symm ne62))
  obtain ⟨h89, w90, X91, A92⟩ := A87.iastore (i := 1) (pc' := 70) d3_69 f88 rfl (by decide) g53 rfl
  have A93 := A92.aloadN (v := (.ref a)) (pc' := 71) d3_70 rfl rfl rfl
  have A94 := A93.dup (pc' := 72) d3_71 rfl rfl
  have f96 := (f86.other w90 (Or.inl ne57))
  have A95 := A94.getF (pc' := 75) (host := "") d3_72 (Or.inl (hw _ (List.mem_of_getElem? (i := 21) rfl))) Via.refl f96 rfl
  have A97 := A95.iconst (z := (1 : Int32)) (pc' := 76) d3_75 rfl rfl
  have A98 := A97.iadd (pc' := 77) d3_76 rfl
  have A99 := A98.topI (z := (2 : Int32)) (by decide)
  have f100 := (((f64.wr w67).wr w78).wr w90)
  obtain ⟨h102, w103, A101⟩ := A99.putF (pc' := 80) (ty := .int) (host := "") d3_77 (Or.inl (hw _ (List.mem_of_getElem? (i := 21) rfl))) Via.refl f96 f100 (Or.inl (hw _ (List.mem_of_getElem? (i := 22) rfl))) (hw _ (List.mem_of_getElem? (i := 4) rfl)) (by decide) rfl rfl e1 rfl
  have f104 := f96.same w103
  have z105 : h0.size ≤ r26 := Nat.le_trans (Nat.le_refl _) z31
  have z106 : h0.size ≤ r49 := Nat.le_trans (Nat.le_trans (Nat.le_trans (Nat.le_refl _) K29.1) (Nat.le_of_eq w40.size.symm)) z54
  have K107 : Keep h0 h102 [a] := ((((((((Keep.refl h0 [a]).trans K29 all0).wr w40 (Or.inl (List.mem_of_getElem? (i := 0) rfl))).trans K52 all0).wr w67 (Or.inl (List.mem_of_getElem? (i := 0) rfl))).wr w78 (Or.inr z105)).wr w90 (Or.inr z106)).wr w103 (Or.inl (List.mem_of_getElem? (i := 0) rfl)))
  have f108 := (((f71.other w78 (Or.inl ne33)).other w90 (Or.inl ne57)).other w103 (Or.inr (slot_ne (Or.inl (hw _ (List.mem_of_getElem? (i := 13) rfl))) (Or.inl (hw _ (List.mem_of_getElem? (i := 22) rfl))) (by decide) (t := (.array .int)) (t' := .int) (by decide) (by decide))))
  have f109 := ((f83.other w90 (Or.inl ne57)).other w103 (Or.inr (slot_ne (Or.inl (hw _ (List.mem_of_getElem? (i := 15) rfl))) (Or.inl (hw _ (List.mem_of_getElem? (i := 22) rfl))) (by decide) (t := (.array .int)) (t' := .int) (by decide) (by decide))))
  have f110 := ((X79.other w90 ne62).other w103 (Ne.symm ne33))
  have f111 := (X91.other w103 (Ne.symm ne57))
  refine A101.retV d3_80 (by decide) (by decide) ⟨rfl, ⟨r26, r49, K107, g30, z105, g53, z106, f108, f109, f104, f110, f111, ne62, ?_⟩⟩
  trivial
abbrev y3_2 : MethodName := (⟨"com/example/best_plus_rest/bestplusrest/index/Postings", "add", "(II)V"⟩ : MethodName)
abbrev R3_2 : Room := { frames := 2, cells := 2, slots := 8, locals := 33 }
set_option maxRecDepth 65536 in
set_option maxHeartbeats 4000000 in
theorem ef3_2 (a : Addr) (doc : Int32) (fr : Int32) (mid : MethodId) : entryFrame mid #[(.ref a), (.int doc), (.int fr)] 4 = mkF mid 0 #[.val (.ref a), .val (.int doc), .val (.int fr), .unset] [] := by first | (simp [entryFrame, mkF, argsToLocals, Value.category]; done) | rfl
set_option maxRecDepth 65536 in
set_option maxHeartbeats 40000000 in
theorem rm3_2 (l : Launch) (Z : State) (a0 : Array Value) (hw : ∀ d ∈ tables_1, d.before a0 Z = true) (n0 : Nat) (ws : List Jvm.Cond) (a : Addr) (doc : Int32) (fr : Int32) (u : Addr) (w : Addr) (f : Nat → Value) (g : Nat → Value) (h0 : Heap) (hn0 : n0 ≤ h0.size) (e0 : Exa Z h0 a "com/example/best_plus_rest/bestplusrest/index/Postings") (e1 : n0 ≤ a) (e2 : Fld Z h0 a "com/example/best_plus_rest/bestplusrest/index/Postings" "docs" "[I" (.ref u)) (e3 : Fld Z h0 a "com/example/best_plus_rest/bestplusrest/index/Postings" "freqs" "[I" (.ref w)) (e4 : Fld Z h0 a "com/example/best_plus_rest/bestplusrest/index/Postings" "size" "I" (.int (2 : Int32))) (e5 : Ars Z h0 u .int 2 f) (e6 : Ars Z h0 w .int 2 g) (e7 : n0 ≤ u) (e8 : n0 ≤ w) (e9 : u ≠ w) (e10 : a ≠ u) (e11 : a ≠ w) :
    Ctr l Z n0 y3_2 prog_6_method_6_code 4 (none) ws R3_2 #[(.ref a), (.int doc), (.int fr)] h0 (QV fun h => ∃ b1 : Addr, ∃ b2 : Addr, (Keep h0 h [a]) ∧ (n0 ≤ b1) ∧ (h0.size ≤ b1) ∧ (n0 ≤ b2) ∧ (h0.size ≤ b2) ∧ (Fld Z h a "com/example/best_plus_rest/bestplusrest/index/Postings" "docs" "[I" (.ref b1)) ∧ (Fld Z h a "com/example/best_plus_rest/bestplusrest/index/Postings" "freqs" "[I" (.ref b2)) ∧ (Fld Z h a "com/example/best_plus_rest/bestplusrest/index/Postings" "size" "I" (.int (3 : Int32))) ∧ (Ars Z h b1 .int 4 (upd (cpy f 0 (fun _ => (.int (0 : Int32))) 0 2) 2 (.int doc))) ∧ (Ars Z h b2 .int 4 (upd (cpy g 0 (fun _ => (.int (0 : Int32))) 0 2) 2 (.int fr))) ∧ (b1 ≠ b2) ∧ (True)) := by
  refine ctr_of pn3 hn0 (ef3_2 a doc fr) fun G A0 => ?_
  have A1 := A0.aloadN (v := (.ref a)) (pc' := 1) d3_0 rfl rfl rfl
  have A2 := A1.getF (pc' := 4) (host := "") d3_1 (Or.inl (hw _ (List.mem_of_getElem? (i := 21) rfl))) Via.refl e4 rfl
  have A3 := A2.aloadN (v := (.ref a)) (pc' := 5) d3_4 rfl rfl rfl
  have A4 := A3.getF (pc' := 8) (host := "") d3_5 (Or.inl (hw _ (List.mem_of_getElem? (i := 12) rfl))) Via.refl e2 rfl
  have A5 := A4.alen (z := (2 : Int32)) (pc' := 9) d3_8 e5 rfl rfl
  have A7 := A5.icmpNo (pc' := 12) d3_9 (teq (ieq (x := (2 : Int32)) (y := (2 : Int32)) rfl rfl (by decide : (2 : Int) = 2))).2 rfl
  have A8 := A7.aloadN (v := (.ref a)) (pc' := 13) d3_12 rfl rfl rfl
  have A9 := A8.getF (pc' := 16) (host := "") d3_13 (Or.inl (hw _ (List.mem_of_getElem? (i := 21) rfl))) Via.refl e4 rfl
  have A10 := A9.aloadN (v := (.ref a)) (pc' := 17) d3_16 rfl rfl rfl
  have A11 := A10.getF (pc' := 20) (host := "") d3_17 (Or.inl (hw _ (List.mem_of_getElem? (i := 21) rfl))) Via.refl e4 rfl
  have A12 := A11.iconst (z := (1 : Int32)) (pc' := 21) d3_20 rfl rfl
  have A13 := A12.ishr (pc' := 22) d3_21 rfl
  have A14 := A13.topI (z := (1 : Int32)) (by decide)
  have A15 := A14.iadd (pc' := 23) d3_22 rfl
  have A16 := A15.topI (z := (3 : Int32)) (by decide)
  have A17 := A16.iconst (z := (1 : Int32)) (pc' := 24) d3_23 rfl rfl
  have A18 := A17.iadd (pc' := 25) d3_24 rfl
  have A19 := A18.topI (z := (4 : Int32)) (by decide)
  have A20 := A19.istoreN (Ls' := #[.val (.ref a), .val (.int doc), .val (.int fr), .val (.int (4 : Int32))]) (pc' := 26) d3_25 rfl rfl
  have A21 := A20.aloadN (v := (.ref a)) (pc' := 27) d3_26 rfl rfl rfl
  have A22 := A21.aloadN (v := (.ref a)) (pc' := 28) d3_27 rfl rfl rfl
  have A23 := A22.getF (pc' := 31) (host := "") d3_28 (Or.inl (hw _ (List.mem_of_getElem? (i := 12) rfl))) Via.refl e2 rfl
  have A24 := A23.iloadN (v := (4 : Int32)) (pc' := 32) d3_31 rfl rfl
  obtain ⟨r26, h28, ⟨K29, g30, z31, f32, q27⟩, A25⟩ := W.kA (A24.callS (argsL := [(.ref u), (.int (4 : Int32))]) (rest := [(.ref a)]) (C' := 1) (S' := 4) (pc' := 35) d3_32 (hw _ (List.mem_of_getElem? (i := 23) rfl)) (hw _ (List.mem_of_getElem? (i := 24) rfl)) (hw _ (List.mem_of_getElem? (i := 25) rfl)) (hw _ (List.mem_of_getElem? (i := 26) rfl)) (rm4_4 l Z a0 hw n0 [] (u) (f) h0 A24.size e5) rfl rfl pd_1 rfl rfl (by decide) (by decide) (Nat.le_of_ble_eq_true rfl) (by decide) (by decide) rfl rfl rfl)
  have ne33 : a ≠ r26 := Nat.ne_of_lt (Nat.lt_of_lt_of_le e0.lt z31)
  have ne34 : u ≠ r26 := Nat.ne_of_lt (Nat.lt_of_lt_of_le e5.lt z31)
  have ne35 : w ≠ r26 := Nat.ne_of_lt (Nat.lt_of_lt_of_le e6.lt z31)
  have f36 := (e2.keep K29 nin0)
  have f37 := (e0.keep K29)
  obtain ⟨h39, w40, A38⟩ := A25.putF (pc' := 38) (ty := (.array .int)) (host := "") d3_35 (Or.inl (hw _ (List.mem_of_getElem? (i := 12) rfl))) Via.refl f36 f37 (Or.inl (hw _ (List.mem_of_getElem? (i := 13) rfl))) (hw _ (List.mem_of_getElem? (i := 4) rfl)) (by decide) rfl rfl e1 rfl
  have f41 := f36.same w40
  have A42 := A38.aloadN (v := (.ref a)) (pc' := 39) d3_38 rfl rfl rfl
  have A43 := A42.aloadN (v := (.ref a)) (pc' := 40) d3_39 rfl rfl rfl
  have f45 := ((e3.keep K29 nin0).other w40 (Or.inr (slot_ne (Or.inl (hw _ (List.mem_of_getElem? (i := 15) rfl))) (Or.inl (hw _ (List.mem_of_getElem? (i := 13) rfl))) (by decide) (t := (.array .int)) (t' := (.array .int)) (by decide) (by decide))))
  have A44 := A43.getF (pc' := 43) (host := "") d3_40 (Or.inl (hw _ (List.mem_of_getElem? (i := 14) rfl))) Via.refl f45 rfl
  have A46 := A44.iloadN (v := (4 : Int32)) (pc' := 44) d3_43 rfl rfl
  have f47 := ((e6.keep K29 nin0).other w40 (Ne.symm e11))
  obtain ⟨r49, h51, ⟨K52, g53, z54, f55, q50⟩, A48⟩ := W.kA (A46.callS (argsL := [(.ref w), (.int (4 : Int32))]) (rest := [(.ref a)]) (C' := 2) (S' := 8) (pc' := 47) d3_44 (hw _ (List.mem_of_getElem? (i := 23) rfl)) (hw _ (List.mem_of_getElem? (i := 24) rfl)) (hw _ (List.mem_of_getElem? (i := 25) rfl)) (hw _ (List.mem_of_getElem? (i := 26) rfl)) (rm4_4 l Z a0 hw n0 [] (w) (g) h39 A46.size f47) rfl rfl pd_1 rfl rfl (by decide) (by decide) (Nat.le_of_ble_eq_true rfl) (by decide) (by decide) rfl rfl rfl)
  have f56 := (f37.wr w40)
  have ne57 : a ≠ r49 := Nat.ne_of_lt (Nat.lt_of_lt_of_le f56.lt z54)
  have f58 := ((e5.keep K29 nin0).other w40 (Ne.symm e10))
  have ne59 : u ≠ r49 := Nat.ne_of_lt (Nat.lt_of_lt_of_le f58.lt z54)
  have ne60 : w ≠ r49 := Nat.ne_of_lt (Nat.lt_of_lt_of_le f47.lt z54)
  have f61 := (f32.other w40 (Ne.symm ne33))
  have ne62 : r26 ≠ r49 := Nat.ne_of_lt (Nat.lt_of_lt_of_le f61.lt z54)
  have f63 := (f45.keep K52 nin0)
  have f64 := (f56.keep K52)
  obtain ⟨h66, w67, A65⟩ := A48.putF (pc' := 50) (ty := (.array .int)) (host := "") d3_47 (Or.inl (hw _ (List.mem_of_getElem? (i := 14) rfl))) Via.refl f63 f64 (Or.inl (hw _ (List.mem_of_getElem? (i := 15) rfl))) (hw _ (List.mem_of_getElem? (i := 4) rfl)) (by decide) rfl rfl e1 rfl
  have f68 := f63.same w67
  have A69 := A65.aloadN (v := (.ref a)) (pc' := 51) d3_50 rfl rfl rfl
  have f71 := ((f41.keep K52 nin0).other w67 (Or.inr (slot_ne (Or.inl (hw _ (List.mem_of_getElem? (i := 13) rfl))) (Or.inl (hw _ (List.mem_of_getElem? (i := 15) rfl))) (by decide) (t := (.array .int)) (t' := (.array .int)) (by decide) (by decide))))
  have A70 := A69.getF (pc' := 54) (host := "") d3_51 (Or.inl (hw _ (List.mem_of_getElem? (i := 12) rfl))) Via.refl f71 rfl
  have A72 := A70.aloadN (v := (.ref a)) (pc' := 55) d3_54 rfl rfl rfl
  have f74 := ((((e4.keep K29 nin0).other w40 (Or.inr (slot_ne (Or.inl (hw _ (List.mem_of_getElem? (i := 22) rfl))) (Or.inl (hw _ (List.mem_of_getElem? (i := 13) rfl))) (by decide) (t := .int) (t' := (.array .int)) (by decide) (by decide)))).keep K52 nin0).other w67 (Or.inr (slot_ne (Or.inl (hw _ (List.mem_of_getElem? (i := 22) rfl))) (Or.inl (hw _ (List.mem_of_getElem? (i := 15) rfl))) (by decide) (t := .int) (t' := (.array .int)) (by decide) (by decide))))
  have A73 := A72.getF (pc' := 58) (host := "") d3_55 (Or.inl (hw _ (List.mem_of_getElem? (i := 21) rfl))) Via.refl f74 rfl
  have A75 := A73.iloadN (v := doc) (pc' := 59) d3_58 rfl rfl
  have f76 := ((f61.keep K52 nin0).other w67 (Ne.symm ne33))
  obtain ⟨h77, w78, X79, A80⟩ := A75.iastore (i := 2) (pc' := 60) d3_59 f76 rfl (by decide) g30 rfl
  have A81 := A80.aloadN (v := (.ref a)) (pc' := 61) d3_60 rfl rfl rfl
  have f83 := (f68.other w78 (Or.inl ne33))
  have A82 := A81.getF (pc' := 64) (host := "") d3_61 (Or.inl (hw _ (List.mem_of_getElem? (i := 14) rfl))) Via.refl f83 rfl
  have A84 := A82.aloadN (v := (.ref a)) (pc' := 65) d3_64 rfl rfl rfl
  have f86 := (f74.other w78 (Or.inl ne33))
  have A85 := A84.getF (pc' := 68) (host := "") d3_65 (Or.inl (hw _ (List.mem_of_getElem? (i := 21) rfl))) Via.refl f86 rfl
  have A87 := A85.iloadN (v := fr) (pc' := 69) d3_68 rfl rfl
  have f88 := ((f55.other w67 (Ne.symm ne57)).other w78 (Ne.symm ne62))
  obtain ⟨h89, w90, X91, A92⟩ := A87.iastore (i := 2) (pc' := 70) d3_69 f88 rfl (by decide) g53 rfl
  have A93 := A92.aloadN (v := (.ref a)) (pc' := 71) d3_70 rfl rfl rfl
  have A94 := A93.dup (pc' := 72) d3_71 rfl rfl
  have f96 := (f86.other w90 (Or.inl ne57))
  have A95 := A94.getF (pc' := 75) (host := "") d3_72 (Or.inl (hw _ (List.mem_of_getElem? (i := 21) rfl))) Via.refl f96 rfl
  have A97 := A95.iconst (z := (1 : Int32)) (pc' := 76) d3_75 rfl rfl
  have A98 := A97.iadd (pc' := 77) d3_76 rfl
  have A99 := A98.topI (z := (3 : Int32)) (by decide)
  have f100 := (((f64.wr w67).wr w78).wr w90)
  obtain ⟨h102, w103, A101⟩ := A99.putF (pc' := 80) (ty := .int) (host := "") d3_77 (Or.inl (hw _ (List.mem_of_getElem? (i := 21) rfl))) Via.refl f96 f100 (Or.inl (hw _ (List.mem_of_getElem? (i := 22) rfl))) (hw _ (List.mem_of_getElem? (i := 4) rfl)) (by decide) rfl rfl e1 rfl
  have f104 := f96.same w103
  have z105 : h0.size ≤ r26 := Nat.le_trans (Nat.le_refl _) z31
  have z106 : h0.size ≤ r49 := Nat.le_trans (Nat.le_trans (Nat.le_trans (Nat.le_refl _) K29.1) (Nat.le_of_eq w40.size.symm)) z54
  have K107 : Keep h0 h102 [a] := ((((((((Keep.refl h0 [a]).trans K29 all0).wr w40 (Or.inl (List.mem_of_getElem? (i := 0) rfl))).trans K52 all0).wr w67 (Or.inl (List.mem_of_getElem? (i := 0) rfl))).wr w78 (Or.inr z105)).wr w90 (Or.inr z106)).wr w103 (Or.inl (List.mem_of_getElem? (i := 0) rfl)))
  have f108 := (((f71.other w78 (Or.inl ne33)).other w90 (Or.inl ne57)).other w103 (Or.inr (slot_ne (Or.inl (hw _ (List.mem_of_getElem? (i := 13) rfl))) (Or.inl (hw _ (List.mem_of_getElem? (i := 22) rfl))) (by decide) (t := (.array .int)) (t' := .int) (by decide) (by decide))))
  have f109 := ((f83.other w90 (Or.inl ne57)).other w103 (Or.inr (slot_ne (Or.inl (hw _ (List.mem_of_getElem? (i := 15) rfl))) (Or.inl (hw _ (List.mem_of_getElem? (i := 22) rfl))) (by decide) (t := (.array .int)) (t' := .int) (by decide) (by decide))))
  have f110 := ((X79.other w90 ne62).other w103 (Ne.symm ne33))
  have f111 := (X91.other w103 (Ne.symm ne57))
  refine A101.retV d3_80 (by decide) (by decide) ⟨rfl, ⟨r26, r49, K107, g30, z105, g53, z106, f108, f109, f104, f110, f111, ne62, ?_⟩⟩
  trivial
abbrev y3_3 : MethodName := (⟨"com/example/best_plus_rest/bestplusrest/index/Postings", "add", "(II)V"⟩ : MethodName)
abbrev R3_3 : Room := { frames := 0, cells := 0, slots := 0, locals := 0 }
set_option maxRecDepth 65536 in
set_option maxHeartbeats 4000000 in
theorem ef3_3 (a : Addr) (doc : Int32) (fr : Int32) (mid : MethodId) : entryFrame mid #[(.ref a), (.int doc), (.int fr)] 4 = mkF mid 0 #[.val (.ref a), .val (.int doc), .val (.int fr), .unset] [] := by first | (simp [entryFrame, mkF, argsToLocals, Value.category]; done) | rfl
set_option maxRecDepth 65536 in
set_option maxHeartbeats 40000000 in
theorem rm3_3 (l : Launch) (Z : State) (a0 : Array Value) (hw : ∀ d ∈ tables_1, d.before a0 Z = true) (n0 : Nat) (ws : List Jvm.Cond) (a : Addr) (doc : Int32) (fr : Int32) (u : Addr) (w : Addr) (f : Nat → Value) (g : Nat → Value) (h0 : Heap) (hn0 : n0 ≤ h0.size) (e0 : Exa Z h0 a "com/example/best_plus_rest/bestplusrest/index/Postings") (e1 : n0 ≤ a) (e2 : Fld Z h0 a "com/example/best_plus_rest/bestplusrest/index/Postings" "docs" "[I" (.ref u)) (e3 : Fld Z h0 a "com/example/best_plus_rest/bestplusrest/index/Postings" "freqs" "[I" (.ref w)) (e4 : Fld Z h0 a "com/example/best_plus_rest/bestplusrest/index/Postings" "size" "I" (.int (3 : Int32))) (e5 : Ars Z h0 u .int 4 f) (e6 : Ars Z h0 w .int 4 g) (e7 : n0 ≤ u) (e8 : n0 ≤ w) (e9 : u ≠ w) (e10 : a ≠ u) (e11 : a ≠ w) :
    Ctr l Z n0 y3_3 prog_6_method_6_code 4 (none) ws R3_3 #[(.ref a), (.int doc), (.int fr)] h0 (QV fun h => (Keep h0 h [a, u, w]) ∧ (Fld Z h a "com/example/best_plus_rest/bestplusrest/index/Postings" "docs" "[I" (.ref u)) ∧ (Fld Z h a "com/example/best_plus_rest/bestplusrest/index/Postings" "freqs" "[I" (.ref w)) ∧ (Fld Z h a "com/example/best_plus_rest/bestplusrest/index/Postings" "size" "I" (.int (4 : Int32))) ∧ (Ars Z h u .int 4 (upd f 3 (.int doc))) ∧ (Ars Z h w .int 4 (upd g 3 (.int fr))) ∧ (True)) := by
  refine ctr_of pn3 hn0 (ef3_3 a doc fr) fun G A0 => ?_
  have A1 := A0.aloadN (v := (.ref a)) (pc' := 1) d3_0 rfl rfl rfl
  have A2 := A1.getF (pc' := 4) (host := "") d3_1 (Or.inl (hw _ (List.mem_of_getElem? (i := 21) rfl))) Via.refl e4 rfl
  have A3 := A2.aloadN (v := (.ref a)) (pc' := 5) d3_4 rfl rfl rfl
  have A4 := A3.getF (pc' := 8) (host := "") d3_5 (Or.inl (hw _ (List.mem_of_getElem? (i := 12) rfl))) Via.refl e2 rfl
  have A5 := A4.alen (z := (4 : Int32)) (pc' := 9) d3_8 e5 rfl rfl
  have A7 := A5.icmpYes (pc' := 50) d3_9 (feq (ine (x := (3 : Int32)) (y := (4 : Int32)) rfl rfl (by decide : ¬ ((3 : Int) = 4)))).2 (by decide) (by decide)
  have A8 := A7.aloadN (v := (.ref a)) (pc' := 51) d3_50 rfl rfl rfl
  have A9 := A8.getF (pc' := 54) (host := "") d3_51 (Or.inl (hw _ (List.mem_of_getElem? (i := 12) rfl))) Via.refl e2 rfl
  have A10 := A9.aloadN (v := (.ref a)) (pc' := 55) d3_54 rfl rfl rfl
  have A11 := A10.getF (pc' := 58) (host := "") d3_55 (Or.inl (hw _ (List.mem_of_getElem? (i := 21) rfl))) Via.refl e4 rfl
  have A12 := A11.iloadN (v := doc) (pc' := 59) d3_58 rfl rfl
  obtain ⟨h13, w14, X15, A16⟩ := A12.iastore (i := 3) (pc' := 60) d3_59 e5 rfl (by decide) e7 rfl
  have A17 := A16.aloadN (v := (.ref a)) (pc' := 61) d3_60 rfl rfl rfl
  have f19 := (e3.other w14 (Or.inl e10))
  have A18 := A17.getF (pc' := 64) (host := "") d3_61 (Or.inl (hw _ (List.mem_of_getElem? (i := 14) rfl))) Via.refl f19 rfl
  have A20 := A18.aloadN (v := (.ref a)) (pc' := 65) d3_64 rfl rfl rfl
  have f22 := (e4.other w14 (Or.inl e10))
  have A21 := A20.getF (pc' := 68) (host := "") d3_65 (Or.inl (hw _ (List.mem_of_getElem? (i := 21) rfl))) Via.refl f22 rfl
  have A23 := A21.iloadN (v := fr) (pc' := 69) d3_68 rfl rfl
  have f24 := (e6.other w14 (Ne.symm e9))
  obtain ⟨h25, w26, X27, A28⟩ := A23.iastore (i := 3) (pc' := 70) d3_69 f24 rfl (by decide) e8 rfl
  have A29 := A28.aloadN (v := (.ref a)) (pc' := 71) d3_70 rfl rfl rfl
  have A30 := A29.dup (pc' := 72) d3_71 rfl rfl
  have f32 := (f22.other w26 (Or.inl e11))
  have A31 := A30.getF (pc' := 75) (host := "") d3_72 (Or.inl (hw _ (List.mem_of_getElem? (i := 21) rfl))) Via.refl f32 rfl
  have A33 := A31.iconst (z := (1 : Int32)) (pc' := 76) d3_75 rfl rfl
  have A34 := A33.iadd (pc' := 77) d3_76 rfl
  have A35 := A34.topI (z := (4 : Int32)) (by decide)
  have f36 := ((e0.wr w14).wr w26)
  obtain ⟨h38, w39, A37⟩ := A35.putF (pc' := 80) (ty := .int) (host := "") d3_77 (Or.inl (hw _ (List.mem_of_getElem? (i := 21) rfl))) Via.refl f32 f36 (Or.inl (hw _ (List.mem_of_getElem? (i := 22) rfl))) (hw _ (List.mem_of_getElem? (i := 4) rfl)) (by decide) rfl rfl e1 rfl
  have f40 := f32.same w39
  have K41 : Keep h0 h38 [a, u, w] := ((((Keep.refl h0 [a, u, w]).wr w14 (Or.inl (List.mem_of_getElem? (i := 1) rfl))).wr w26 (Or.inl (List.mem_of_getElem? (i := 2) rfl))).wr w39 (Or.inl (List.mem_of_getElem? (i := 0) rfl)))
  have f42 := (((e2.other w14 (Or.inl e10)).other w26 (Or.inl e11)).other w39 (Or.inr (slot_ne (Or.inl (hw _ (List.mem_of_getElem? (i := 13) rfl))) (Or.inl (hw _ (List.mem_of_getElem? (i := 22) rfl))) (by decide) (t := (.array .int)) (t' := .int) (by decide) (by decide))))
  have f43 := ((f19.other w26 (Or.inl e11)).other w39 (Or.inr (slot_ne (Or.inl (hw _ (List.mem_of_getElem? (i := 15) rfl))) (Or.inl (hw _ (List.mem_of_getElem? (i := 22) rfl))) (by decide) (t := (.array .int)) (t' := .int) (by decide) (by decide))))
  have f44 := ((X15.other w26 e9).other w39 (Ne.symm e10))
  have f45 := (X27.other w39 (Ne.symm e11))
  refine A37.retV d3_80 (by decide) (by decide) ⟨rfl, ⟨K41, f42, f43, f40, f44, f45, ?_⟩⟩
  trivial
abbrev y3_4 : MethodName := (⟨"com/example/best_plus_rest/bestplusrest/index/Postings", "add", "(II)V"⟩ : MethodName)
abbrev R3_4 : Room := { frames := 2, cells := 2, slots := 14, locals := 33 }
set_option maxRecDepth 65536 in
set_option maxHeartbeats 4000000 in
theorem ef3_4 (a : Addr) (doc : Int32) (fr : Int32) (mid : MethodId) : entryFrame mid #[(.ref a), (.int doc), (.int fr)] 4 = mkF mid 0 #[.val (.ref a), .val (.int doc), .val (.int fr), .unset] [] := by first | (simp [entryFrame, mkF, argsToLocals, Value.category]; done) | rfl
set_option maxRecDepth 65536 in
set_option maxHeartbeats 40000000 in
theorem rm3_4 (l : Launch) (Z : State) (a0 : Array Value) (hw : ∀ d ∈ tables_1, d.before a0 Z = true) (n0 : Nat) (ws : List Jvm.Cond) (a : Addr) (doc : Int32) (fr : Int32) (u : Addr) (w : Addr) (f : Nat → Value) (g : Nat → Value) (h0 : Heap) (hn0 : n0 ≤ h0.size) (e0 : Exa Z h0 a "com/example/best_plus_rest/bestplusrest/index/Postings") (e1 : n0 ≤ a) (e2 : Fld Z h0 a "com/example/best_plus_rest/bestplusrest/index/Postings" "docs" "[I" (.ref u)) (e3 : Fld Z h0 a "com/example/best_plus_rest/bestplusrest/index/Postings" "freqs" "[I" (.ref w)) (e4 : Fld Z h0 a "com/example/best_plus_rest/bestplusrest/index/Postings" "size" "I" (.int (4 : Int32))) (e5 : Ars Z h0 u .int 4 f) (e6 : Ars Z h0 w .int 4 g) (e7 : n0 ≤ u) (e8 : n0 ≤ w) (e9 : u ≠ w) (e10 : a ≠ u) (e11 : a ≠ w) :
    Ctr l Z n0 y3_4 prog_6_method_6_code 4 (none) ws R3_4 #[(.ref a), (.int doc), (.int fr)] h0 (QV fun h => ∃ b1 : Addr, ∃ b2 : Addr, (Keep h0 h [a]) ∧ (n0 ≤ b1) ∧ (h0.size ≤ b1) ∧ (n0 ≤ b2) ∧ (h0.size ≤ b2) ∧ (Fld Z h a "com/example/best_plus_rest/bestplusrest/index/Postings" "docs" "[I" (.ref b1)) ∧ (Fld Z h a "com/example/best_plus_rest/bestplusrest/index/Postings" "freqs" "[I" (.ref b2)) ∧ (Fld Z h a "com/example/best_plus_rest/bestplusrest/index/Postings" "size" "I" (.int (5 : Int32))) ∧ (Ars Z h b1 .int 7 (upd (cpy f 0 (fun _ => (.int (0 : Int32))) 0 4) 4 (.int doc))) ∧ (Ars Z h b2 .int 7 (upd (cpy g 0 (fun _ => (.int (0 : Int32))) 0 4) 4 (.int fr))) ∧ (b1 ≠ b2) ∧ (True)) := by
  refine ctr_of pn3 hn0 (ef3_4 a doc fr) fun G A0 => ?_
  have A1 := A0.aloadN (v := (.ref a)) (pc' := 1) d3_0 rfl rfl rfl
  have A2 := A1.getF (pc' := 4) (host := "") d3_1 (Or.inl (hw _ (List.mem_of_getElem? (i := 21) rfl))) Via.refl e4 rfl
  have A3 := A2.aloadN (v := (.ref a)) (pc' := 5) d3_4 rfl rfl rfl
  have A4 := A3.getF (pc' := 8) (host := "") d3_5 (Or.inl (hw _ (List.mem_of_getElem? (i := 12) rfl))) Via.refl e2 rfl
  have A5 := A4.alen (z := (4 : Int32)) (pc' := 9) d3_8 e5 rfl rfl
  have A7 := A5.icmpNo (pc' := 12) d3_9 (teq (ieq (x := (4 : Int32)) (y := (4 : Int32)) rfl rfl (by decide : (4 : Int) = 4))).2 rfl
  have A8 := A7.aloadN (v := (.ref a)) (pc' := 13) d3_12 rfl rfl rfl
  have A9 := A8.getF (pc' := 16) (host := "") d3_13 (Or.inl (hw _ (List.mem_of_getElem? (i := 21) rfl))) Via.refl e4 rfl
  have A10 := A9.aloadN (v := (.ref a)) (pc' := 17) d3_16 rfl rfl rfl
  have A11 := A10.getF (pc' := 20) (host := "") d3_17 (Or.inl (hw _ (List.mem_of_getElem? (i := 21) rfl))) Via.refl e4 rfl
  have A12 := A11.iconst (z := (1 : Int32)) (pc' := 21) d3_20 rfl rfl
  have A13 := A12.ishr (pc' := 22) d3_21 rfl
  have A14 := A13.topI (z := (2 : Int32)) (by decide)
  have A15 := A14.iadd (pc' := 23) d3_22 rfl
  have A16 := A15.topI (z := (6 : Int32)) (by decide)
  have A17 := A16.iconst (z := (1 : Int32)) (pc' := 24) d3_23 rfl rfl
  have A18 := A17.iadd (pc' := 25) d3_24 rfl
  have A19 := A18.topI (z := (7 : Int32)) (by decide)
  have A20 := A19.istoreN (Ls' := #[.val (.ref a), .val (.int doc), .val (.int fr), .val (.int (7 : Int32))]) (pc' := 26) d3_25 rfl rfl
  have A21 := A20.aloadN (v := (.ref a)) (pc' := 27) d3_26 rfl rfl rfl
  have A22 := A21.aloadN (v := (.ref a)) (pc' := 28) d3_27 rfl rfl rfl
  have A23 := A22.getF (pc' := 31) (host := "") d3_28 (Or.inl (hw _ (List.mem_of_getElem? (i := 12) rfl))) Via.refl e2 rfl
  have A24 := A23.iloadN (v := (7 : Int32)) (pc' := 32) d3_31 rfl rfl
  obtain ⟨r26, h28, ⟨K29, g30, z31, f32, q27⟩, A25⟩ := W.kA (A24.callS (argsL := [(.ref u), (.int (7 : Int32))]) (rest := [(.ref a)]) (C' := 1) (S' := 7) (pc' := 35) d3_32 (hw _ (List.mem_of_getElem? (i := 23) rfl)) (hw _ (List.mem_of_getElem? (i := 24) rfl)) (hw _ (List.mem_of_getElem? (i := 25) rfl)) (hw _ (List.mem_of_getElem? (i := 26) rfl)) (rm4_7 l Z a0 hw n0 [] (u) (f) h0 A24.size e5) rfl rfl pd_1 rfl rfl (by decide) (by decide) (Nat.le_of_ble_eq_true rfl) (by decide) (by decide) rfl rfl rfl)
  have ne33 : a ≠ r26 := Nat.ne_of_lt (Nat.lt_of_lt_of_le e0.lt z31)
  have ne34 : u ≠ r26 := Nat.ne_of_lt (Nat.lt_of_lt_of_le e5.lt z31)
  have ne35 : w ≠ r26 := Nat.ne_of_lt (Nat.lt_of_lt_of_le e6.lt z31)
  have f36 := (e2.keep K29 nin0)
  have f37 := (e0.keep K29)
  obtain ⟨h39, w40, A38⟩ := A25.putF (pc' := 38) (ty := (.array .int)) (host := "") d3_35 (Or.inl (hw _ (List.mem_of_getElem? (i := 12) rfl))) Via.refl f36 f37 (Or.inl (hw _ (List.mem_of_getElem? (i := 13) rfl))) (hw _ (List.mem_of_getElem? (i := 4) rfl)) (by decide) rfl rfl e1 rfl
  have f41 := f36.same w40
  have A42 := A38.aloadN (v := (.ref a)) (pc' := 39) d3_38 rfl rfl rfl
  have A43 := A42.aloadN (v := (.ref a)) (pc' := 40) d3_39 rfl rfl rfl
  have f45 := ((e3.keep K29 nin0).other w40 (Or.inr (slot_ne (Or.inl (hw _ (List.mem_of_getElem? (i := 15) rfl))) (Or.inl (hw _ (List.mem_of_getElem? (i := 13) rfl))) (by decide) (t := (.array .int)) (t' := (.array .int)) (by decide) (by decide))))
  have A44 := A43.getF (pc' := 43) (host := "") d3_40 (Or.inl (hw _ (List.mem_of_getElem? (i := 14) rfl))) Via.refl f45 rfl
  have A46 := A44.iloadN (v := (7 : Int32)) (pc' := 44) d3_43 rfl rfl
  have f47 := ((e6.keep K29 nin0).other w40 (Ne.symm e11))
  obtain ⟨r49, h51, ⟨K52, g53, z54, f55, q50⟩, A48⟩ := W.kA (A46.callS (argsL := [(.ref w), (.int (7 : Int32))]) (rest := [(.ref a)]) (C' := 2) (S' := 14) (pc' := 47) d3_44 (hw _ (List.mem_of_getElem? (i := 23) rfl)) (hw _ (List.mem_of_getElem? (i := 24) rfl)) (hw _ (List.mem_of_getElem? (i := 25) rfl)) (hw _ (List.mem_of_getElem? (i := 26) rfl)) (rm4_7 l Z a0 hw n0 [] (w) (g) h39 A46.size f47) rfl rfl pd_1 rfl rfl (by decide) (by decide) (Nat.le_of_ble_eq_true rfl) (by decide) (by decide) rfl rfl rfl)
  have f56 := (f37.wr w40)
  have ne57 : a ≠ r49 := Nat.ne_of_lt (Nat.lt_of_lt_of_le f56.lt z54)
  have f58 := ((e5.keep K29 nin0).other w40 (Ne.symm e10))
  have ne59 : u ≠ r49 := Nat.ne_of_lt (Nat.lt_of_lt_of_le f58.lt z54)
  have ne60 : w ≠ r49 := Nat.ne_of_lt (Nat.lt_of_lt_of_le f47.lt z54)
  have f61 := (f32.other w40 (Ne.symm ne33))
  have ne62 : r26 ≠ r49 := Nat.ne_of_lt (Nat.lt_of_lt_of_le f61.lt z54)
  have f63 := (f45.keep K52 nin0)
  have f64 := (f56.keep K52)
  obtain ⟨h66, w67, A65⟩ := A48.putF (pc' := 50) (ty := (.array .int)) (host := "") d3_47 (Or.inl (hw _ (List.mem_of_getElem? (i := 14) rfl))) Via.refl f63 f64 (Or.inl (hw _ (List.mem_of_getElem? (i := 15) rfl))) (hw _ (List.mem_of_getElem? (i := 4) rfl)) (by decide) rfl rfl e1 rfl
  have f68 := f63.same w67
  have A69 := A65.aloadN (v := (.ref a)) (pc' := 51) d3_50 rfl rfl rfl
  have f71 := ((f41.keep K52 nin0).other w67 (Or.inr (slot_ne (Or.inl (hw _ (List.mem_of_getElem? (i := 13) rfl))) (Or.inl (hw _ (List.mem_of_getElem? (i := 15) rfl))) (by decide) (t := (.array .int)) (t' := (.array .int)) (by decide) (by decide))))
  have A70 := A69.getF (pc' := 54) (host := "") d3_51 (Or.inl (hw _ (List.mem_of_getElem? (i := 12) rfl))) Via.refl f71 rfl
  have A72 := A70.aloadN (v := (.ref a)) (pc' := 55) d3_54 rfl rfl rfl
  have f74 := ((((e4.keep K29 nin0).other w40 (Or.inr (slot_ne (Or.inl (hw _ (List.mem_of_getElem? (i := 22) rfl))) (Or.inl (hw _ (List.mem_of_getElem? (i := 13) rfl))) (by decide) (t := .int) (t' := (.array .int)) (by decide) (by decide)))).keep K52 nin0).other w67 (Or.inr (slot_ne (Or.inl (hw _ (List.mem_of_getElem? (i := 22) rfl))) (Or.inl (hw _ (List.mem_of_getElem? (i := 15) rfl))) (by decide) (t := .int) (t' := (.array .int)) (by decide) (by decide))))
  have A73 := A72.getF (pc' := 58) (host := "") d3_55 (Or.inl (hw _ (List.mem_of_getElem? (i := 21) rfl))) Via.refl f74 rfl
  have A75 := A73.iloadN (v := doc) (pc' := 59) d3_58 rfl rfl
  have f76 := ((f61.keep K52 nin0).other w67 (Ne.symm ne33))
  obtain ⟨h77, w78, X79, A80⟩ := A75.iastore (i := 4) (pc' := 60) d3_59 f76 rfl (by decide) g30 rfl
  have A81 := A80.aloadN (v := (.ref a)) (pc' := 61) d3_60 rfl rfl rfl
  have f83 := (f68.other w78 (Or.inl ne33))
  have A82 := A81.getF (pc' := 64) (host := "") d3_61 (Or.inl (hw _ (List.mem_of_getElem? (i := 14) rfl))) Via.refl f83 rfl
  have A84 := A82.aloadN (v := (.ref a)) (pc' := 65) d3_64 rfl rfl rfl
  have f86 := (f74.other w78 (Or.inl ne33))
  have A85 := A84.getF (pc' := 68) (host := "") d3_65 (Or.inl (hw _ (List.mem_of_getElem? (i := 21) rfl))) Via.refl f86 rfl
  have A87 := A85.iloadN (v := fr) (pc' := 69) d3_68 rfl rfl
  have f88 := ((f55.other w67 (Ne.symm ne57)).other w78 (Ne.symm ne62))
  obtain ⟨h89, w90, X91, A92⟩ := A87.iastore (i := 4) (pc' := 70) d3_69 f88 rfl (by decide) g53 rfl
  have A93 := A92.aloadN (v := (.ref a)) (pc' := 71) d3_70 rfl rfl rfl
  have A94 := A93.dup (pc' := 72) d3_71 rfl rfl
  have f96 := (f86.other w90 (Or.inl ne57))
  have A95 := A94.getF (pc' := 75) (host := "") d3_72 (Or.inl (hw _ (List.mem_of_getElem? (i := 21) rfl))) Via.refl f96 rfl
  have A97 := A95.iconst (z := (1 : Int32)) (pc' := 76) d3_75 rfl rfl
  have A98 := A97.iadd (pc' := 77) d3_76 rfl
  have A99 := A98.topI (z := (5 : Int32)) (by decide)
  have f100 := (((f64.wr w67).wr w78).wr w90)
  obtain ⟨h102, w103, A101⟩ := A99.putF (pc' := 80) (ty := .int) (host := "") d3_77 (Or.inl (hw _ (List.mem_of_getElem? (i := 21) rfl))) Via.refl f96 f100 (Or.inl (hw _ (List.mem_of_getElem? (i := 22) rfl))) (hw _ (List.mem_of_getElem? (i := 4) rfl)) (by decide) rfl rfl e1 rfl
  have f104 := f96.same w103
  have z105 : h0.size ≤ r26 := Nat.le_trans (Nat.le_refl _) z31
  have z106 : h0.size ≤ r49 := Nat.le_trans (Nat.le_trans (Nat.le_trans (Nat.le_refl _) K29.1) (Nat.le_of_eq w40.size.symm)) z54
  have K107 : Keep h0 h102 [a] := ((((((((Keep.refl h0 [a]).trans K29 all0).wr w40 (Or.inl (List.mem_of_getElem? (i := 0) rfl))).trans K52 all0).wr w67 (Or.inl (List.mem_of_getElem? (i := 0) rfl))).wr w78 (Or.inr z105)).wr w90 (Or.inr z106)).wr w103 (Or.inl (List.mem_of_getElem? (i := 0) rfl)))
  have f108 := (((f71.other w78 (Or.inl ne33)).other w90 (Or.inl ne57)).other w103 (Or.inr (slot_ne (Or.inl (hw _ (List.mem_of_getElem? (i := 13) rfl))) (Or.inl (hw _ (List.mem_of_getElem? (i := 22) rfl))) (by decide) (t := (.array .int)) (t' := .int) (by decide) (by decide))))
  have f109 := ((f83.other w90 (Or.inl ne57)).other w103 (Or.inr (slot_ne (Or.inl (hw _ (List.mem_of_getElem? (i := 15) rfl))) (Or.inl (hw _ (List.mem_of_getElem? (i := 22) rfl))) (by decide) (t := (.array .int)) (t' := .int) (by decide) (by decide))))
  have f110 := ((X79.other w90 ne62).other w103 (Ne.symm ne33))
  have f111 := (X91.other w103 (Ne.symm ne57))
  refine A101.retV d3_80 (by decide) (by decide) ⟨rfl, ⟨r26, r49, K107, g30, z105, g53, z106, f108, f109, f104, f110, f111, ne62, ?_⟩⟩
  trivial
abbrev y3_5 : MethodName := (⟨"com/example/best_plus_rest/bestplusrest/index/Postings", "add", "(II)V"⟩ : MethodName)
abbrev R3_5 : Room := { frames := 0, cells := 0, slots := 0, locals := 0 }
set_option maxRecDepth 65536 in
set_option maxHeartbeats 4000000 in
theorem ef3_5 (a : Addr) (doc : Int32) (fr : Int32) (mid : MethodId) : entryFrame mid #[(.ref a), (.int doc), (.int fr)] 4 = mkF mid 0 #[.val (.ref a), .val (.int doc), .val (.int fr), .unset] [] := by first | (simp [entryFrame, mkF, argsToLocals, Value.category]; done) | rfl
set_option maxRecDepth 65536 in
set_option maxHeartbeats 40000000 in
theorem rm3_5 (l : Launch) (Z : State) (a0 : Array Value) (hw : ∀ d ∈ tables_1, d.before a0 Z = true) (n0 : Nat) (ws : List Jvm.Cond) (a : Addr) (doc : Int32) (fr : Int32) (u : Addr) (w : Addr) (f : Nat → Value) (g : Nat → Value) (h0 : Heap) (hn0 : n0 ≤ h0.size) (e0 : Exa Z h0 a "com/example/best_plus_rest/bestplusrest/index/Postings") (e1 : n0 ≤ a) (e2 : Fld Z h0 a "com/example/best_plus_rest/bestplusrest/index/Postings" "docs" "[I" (.ref u)) (e3 : Fld Z h0 a "com/example/best_plus_rest/bestplusrest/index/Postings" "freqs" "[I" (.ref w)) (e4 : Fld Z h0 a "com/example/best_plus_rest/bestplusrest/index/Postings" "size" "I" (.int (5 : Int32))) (e5 : Ars Z h0 u .int 7 f) (e6 : Ars Z h0 w .int 7 g) (e7 : n0 ≤ u) (e8 : n0 ≤ w) (e9 : u ≠ w) (e10 : a ≠ u) (e11 : a ≠ w) :
    Ctr l Z n0 y3_5 prog_6_method_6_code 4 (none) ws R3_5 #[(.ref a), (.int doc), (.int fr)] h0 (QV fun h => (Keep h0 h [a, u, w]) ∧ (Fld Z h a "com/example/best_plus_rest/bestplusrest/index/Postings" "docs" "[I" (.ref u)) ∧ (Fld Z h a "com/example/best_plus_rest/bestplusrest/index/Postings" "freqs" "[I" (.ref w)) ∧ (Fld Z h a "com/example/best_plus_rest/bestplusrest/index/Postings" "size" "I" (.int (6 : Int32))) ∧ (Ars Z h u .int 7 (upd f 5 (.int doc))) ∧ (Ars Z h w .int 7 (upd g 5 (.int fr))) ∧ (True)) := by
  refine ctr_of pn3 hn0 (ef3_5 a doc fr) fun G A0 => ?_
  have A1 := A0.aloadN (v := (.ref a)) (pc' := 1) d3_0 rfl rfl rfl
  have A2 := A1.getF (pc' := 4) (host := "") d3_1 (Or.inl (hw _ (List.mem_of_getElem? (i := 21) rfl))) Via.refl e4 rfl
  have A3 := A2.aloadN (v := (.ref a)) (pc' := 5) d3_4 rfl rfl rfl
  have A4 := A3.getF (pc' := 8) (host := "") d3_5 (Or.inl (hw _ (List.mem_of_getElem? (i := 12) rfl))) Via.refl e2 rfl
  have A5 := A4.alen (z := (7 : Int32)) (pc' := 9) d3_8 e5 rfl rfl
  have A7 := A5.icmpYes (pc' := 50) d3_9 (feq (ine (x := (5 : Int32)) (y := (7 : Int32)) rfl rfl (by decide : ¬ ((5 : Int) = 7)))).2 (by decide) (by decide)
  have A8 := A7.aloadN (v := (.ref a)) (pc' := 51) d3_50 rfl rfl rfl
  have A9 := A8.getF (pc' := 54) (host := "") d3_51 (Or.inl (hw _ (List.mem_of_getElem? (i := 12) rfl))) Via.refl e2 rfl
  have A10 := A9.aloadN (v := (.ref a)) (pc' := 55) d3_54 rfl rfl rfl
  have A11 := A10.getF (pc' := 58) (host := "") d3_55 (Or.inl (hw _ (List.mem_of_getElem? (i := 21) rfl))) Via.refl e4 rfl
  have A12 := A11.iloadN (v := doc) (pc' := 59) d3_58 rfl rfl
  obtain ⟨h13, w14, X15, A16⟩ := A12.iastore (i := 5) (pc' := 60) d3_59 e5 rfl (by decide) e7 rfl
  have A17 := A16.aloadN (v := (.ref a)) (pc' := 61) d3_60 rfl rfl rfl
  have f19 := (e3.other w14 (Or.inl e10))
  have A18 := A17.getF (pc' := 64) (host := "") d3_61 (Or.inl (hw _ (List.mem_of_getElem? (i := 14) rfl))) Via.refl f19 rfl
  have A20 := A18.aloadN (v := (.ref a)) (pc' := 65) d3_64 rfl rfl rfl
  have f22 := (e4.other w14 (Or.inl e10))
  have A21 := A20.getF (pc' := 68) (host := "") d3_65 (Or.inl (hw _ (List.mem_of_getElem? (i := 21) rfl))) Via.refl f22 rfl
  have A23 := A21.iloadN (v := fr) (pc' := 69) d3_68 rfl rfl
  have f24 := (e6.other w14 (Ne.symm e9))
  obtain ⟨h25, w26, X27, A28⟩ := A23.iastore (i := 5) (pc' := 70) d3_69 f24 rfl (by decide) e8 rfl
  have A29 := A28.aloadN (v := (.ref a)) (pc' := 71) d3_70 rfl rfl rfl
  have A30 := A29.dup (pc' := 72) d3_71 rfl rfl
  have f32 := (f22.other w26 (Or.inl e11))
  have A31 := A30.getF (pc' := 75) (host := "") d3_72 (Or.inl (hw _ (List.mem_of_getElem? (i := 21) rfl))) Via.refl f32 rfl
  have A33 := A31.iconst (z := (1 : Int32)) (pc' := 76) d3_75 rfl rfl
  have A34 := A33.iadd (pc' := 77) d3_76 rfl
  have A35 := A34.topI (z := (6 : Int32)) (by decide)
  have f36 := ((e0.wr w14).wr w26)
  obtain ⟨h38, w39, A37⟩ := A35.putF (pc' := 80) (ty := .int) (host := "") d3_77 (Or.inl (hw _ (List.mem_of_getElem? (i := 21) rfl))) Via.refl f32 f36 (Or.inl (hw _ (List.mem_of_getElem? (i := 22) rfl))) (hw _ (List.mem_of_getElem? (i := 4) rfl)) (by decide) rfl rfl e1 rfl
  have f40 := f32.same w39
  have K41 : Keep h0 h38 [a, u, w] := ((((Keep.refl h0 [a, u, w]).wr w14 (Or.inl (List.mem_of_getElem? (i := 1) rfl))).wr w26 (Or.inl (List.mem_of_getElem? (i := 2) rfl))).wr w39 (Or.inl (List.mem_of_getElem? (i := 0) rfl)))
  have f42 := (((e2.other w14 (Or.inl e10)).other w26 (Or.inl e11)).other w39 (Or.inr (slot_ne (Or.inl (hw _ (List.mem_of_getElem? (i := 13) rfl))) (Or.inl (hw _ (List.mem_of_getElem? (i := 22) rfl))) (by decide) (t := (.array .int)) (t' := .int) (by decide) (by decide))))
  have f43 := ((f19.other w26 (Or.inl e11)).other w39 (Or.inr (slot_ne (Or.inl (hw _ (List.mem_of_getElem? (i := 15) rfl))) (Or.inl (hw _ (List.mem_of_getElem? (i := 22) rfl))) (by decide) (t := (.array .int)) (t' := .int) (by decide) (by decide))))
  have f44 := ((X15.other w26 e9).other w39 (Ne.symm e10))
  have f45 := (X27.other w39 (Ne.symm e11))
  refine A37.retV d3_80 (by decide) (by decide) ⟨rfl, ⟨K41, f42, f43, f40, f44, f45, ?_⟩⟩
  trivial
abbrev y3_6 : MethodName := (⟨"com/example/best_plus_rest/bestplusrest/index/Postings", "add", "(II)V"⟩ : MethodName)
abbrev R3_6 : Room := { frames := 0, cells := 0, slots := 0, locals := 0 }
set_option maxRecDepth 65536 in
set_option maxHeartbeats 4000000 in
theorem ef3_6 (a : Addr) (doc : Int32) (fr : Int32) (mid : MethodId) : entryFrame mid #[(.ref a), (.int doc), (.int fr)] 4 = mkF mid 0 #[.val (.ref a), .val (.int doc), .val (.int fr), .unset] [] := by first | (simp [entryFrame, mkF, argsToLocals, Value.category]; done) | rfl
set_option maxRecDepth 65536 in
set_option maxHeartbeats 40000000 in
theorem rm3_6 (l : Launch) (Z : State) (a0 : Array Value) (hw : ∀ d ∈ tables_1, d.before a0 Z = true) (n0 : Nat) (ws : List Jvm.Cond) (a : Addr) (doc : Int32) (fr : Int32) (u : Addr) (w : Addr) (f : Nat → Value) (g : Nat → Value) (h0 : Heap) (hn0 : n0 ≤ h0.size) (e0 : Exa Z h0 a "com/example/best_plus_rest/bestplusrest/index/Postings") (e1 : n0 ≤ a) (e2 : Fld Z h0 a "com/example/best_plus_rest/bestplusrest/index/Postings" "docs" "[I" (.ref u)) (e3 : Fld Z h0 a "com/example/best_plus_rest/bestplusrest/index/Postings" "freqs" "[I" (.ref w)) (e4 : Fld Z h0 a "com/example/best_plus_rest/bestplusrest/index/Postings" "size" "I" (.int (6 : Int32))) (e5 : Ars Z h0 u .int 7 f) (e6 : Ars Z h0 w .int 7 g) (e7 : n0 ≤ u) (e8 : n0 ≤ w) (e9 : u ≠ w) (e10 : a ≠ u) (e11 : a ≠ w) :
    Ctr l Z n0 y3_6 prog_6_method_6_code 4 (none) ws R3_6 #[(.ref a), (.int doc), (.int fr)] h0 (QV fun h => (Keep h0 h [a, u, w]) ∧ (Fld Z h a "com/example/best_plus_rest/bestplusrest/index/Postings" "docs" "[I" (.ref u)) ∧ (Fld Z h a "com/example/best_plus_rest/bestplusrest/index/Postings" "freqs" "[I" (.ref w)) ∧ (Fld Z h a "com/example/best_plus_rest/bestplusrest/index/Postings" "size" "I" (.int (7 : Int32))) ∧ (Ars Z h u .int 7 (upd f 6 (.int doc))) ∧ (Ars Z h w .int 7 (upd g 6 (.int fr))) ∧ (True)) := by
  refine ctr_of pn3 hn0 (ef3_6 a doc fr) fun G A0 => ?_
  have A1 := A0.aloadN (v := (.ref a)) (pc' := 1) d3_0 rfl rfl rfl
  have A2 := A1.getF (pc' := 4) (host := "") d3_1 (Or.inl (hw _ (List.mem_of_getElem? (i := 21) rfl))) Via.refl e4 rfl
  have A3 := A2.aloadN (v := (.ref a)) (pc' := 5) d3_4 rfl rfl rfl
  have A4 := A3.getF (pc' := 8) (host := "") d3_5 (Or.inl (hw _ (List.mem_of_getElem? (i := 12) rfl))) Via.refl e2 rfl
  have A5 := A4.alen (z := (7 : Int32)) (pc' := 9) d3_8 e5 rfl rfl
  have A7 := A5.icmpYes (pc' := 50) d3_9 (feq (ine (x := (6 : Int32)) (y := (7 : Int32)) rfl rfl (by decide : ¬ ((6 : Int) = 7)))).2 (by decide) (by decide)
  have A8 := A7.aloadN (v := (.ref a)) (pc' := 51) d3_50 rfl rfl rfl
  have A9 := A8.getF (pc' := 54) (host := "") d3_51 (Or.inl (hw _ (List.mem_of_getElem? (i := 12) rfl))) Via.refl e2 rfl
  have A10 := A9.aloadN (v := (.ref a)) (pc' := 55) d3_54 rfl rfl rfl
  have A11 := A10.getF (pc' := 58) (host := "") d3_55 (Or.inl (hw _ (List.mem_of_getElem? (i := 21) rfl))) Via.refl e4 rfl
  have A12 := A11.iloadN (v := doc) (pc' := 59) d3_58 rfl rfl
  obtain ⟨h13, w14, X15, A16⟩ := A12.iastore (i := 6) (pc' := 60) d3_59 e5 rfl (by decide) e7 rfl
  have A17 := A16.aloadN (v := (.ref a)) (pc' := 61) d3_60 rfl rfl rfl
  have f19 := (e3.other w14 (Or.inl e10))
  have A18 := A17.getF (pc' := 64) (host := "") d3_61 (Or.inl (hw _ (List.mem_of_getElem? (i := 14) rfl))) Via.refl f19 rfl
  have A20 := A18.aloadN (v := (.ref a)) (pc' := 65) d3_64 rfl rfl rfl
  have f22 := (e4.other w14 (Or.inl e10))
  have A21 := A20.getF (pc' := 68) (host := "") d3_65 (Or.inl (hw _ (List.mem_of_getElem? (i := 21) rfl))) Via.refl f22 rfl
  have A23 := A21.iloadN (v := fr) (pc' := 69) d3_68 rfl rfl
  have f24 := (e6.other w14 (Ne.symm e9))
  obtain ⟨h25, w26, X27, A28⟩ := A23.iastore (i := 6) (pc' := 70) d3_69 f24 rfl (by decide) e8 rfl
  have A29 := A28.aloadN (v := (.ref a)) (pc' := 71) d3_70 rfl rfl rfl
  have A30 := A29.dup (pc' := 72) d3_71 rfl rfl
  have f32 := (f22.other w26 (Or.inl e11))
  have A31 := A30.getF (pc' := 75) (host := "") d3_72 (Or.inl (hw _ (List.mem_of_getElem? (i := 21) rfl))) Via.refl f32 rfl
  have A33 := A31.iconst (z := (1 : Int32)) (pc' := 76) d3_75 rfl rfl
  have A34 := A33.iadd (pc' := 77) d3_76 rfl
  have A35 := A34.topI (z := (7 : Int32)) (by decide)
  have f36 := ((e0.wr w14).wr w26)
  obtain ⟨h38, w39, A37⟩ := A35.putF (pc' := 80) (ty := .int) (host := "") d3_77 (Or.inl (hw _ (List.mem_of_getElem? (i := 21) rfl))) Via.refl f32 f36 (Or.inl (hw _ (List.mem_of_getElem? (i := 22) rfl))) (hw _ (List.mem_of_getElem? (i := 4) rfl)) (by decide) rfl rfl e1 rfl
  have f40 := f32.same w39
  have K41 : Keep h0 h38 [a, u, w] := ((((Keep.refl h0 [a, u, w]).wr w14 (Or.inl (List.mem_of_getElem? (i := 1) rfl))).wr w26 (Or.inl (List.mem_of_getElem? (i := 2) rfl))).wr w39 (Or.inl (List.mem_of_getElem? (i := 0) rfl)))
  have f42 := (((e2.other w14 (Or.inl e10)).other w26 (Or.inl e11)).other w39 (Or.inr (slot_ne (Or.inl (hw _ (List.mem_of_getElem? (i := 13) rfl))) (Or.inl (hw _ (List.mem_of_getElem? (i := 22) rfl))) (by decide) (t := (.array .int)) (t' := .int) (by decide) (by decide))))
  have f43 := ((f19.other w26 (Or.inl e11)).other w39 (Or.inr (slot_ne (Or.inl (hw _ (List.mem_of_getElem? (i := 15) rfl))) (Or.inl (hw _ (List.mem_of_getElem? (i := 22) rfl))) (by decide) (t := (.array .int)) (t' := .int) (by decide) (by decide))))
  have f44 := ((X15.other w26 e9).other w39 (Ne.symm e10))
  have f45 := (X27.other w39 (Ne.symm e11))
  refine A37.retV d3_80 (by decide) (by decide) ⟨rfl, ⟨K41, f42, f43, f40, f44, f45, ?_⟩⟩
  trivial
theorem pn6 : plainFor (⟨"com/example/best_plus_rest/bestplusrest/index/PostingsAdvancePinLaw", "pick", "(IIII[II)I"⟩ : MethodName) = true := by first | exact plainFor_of_name (by first | (simp [plainName, overriddenIn]; done) | decide +kernel) | exact Jvm.Free.JP.mathPlain rfl (by decide +kernel) | decide +kernel
theorem d6_0 : decode method_2_code 0 = .ok (.iload_n 1, 1) := by decide +kernel
theorem d6_1 : decode method_2_code 1 = .ok (.iload_n 2, 1) := by decide +kernel
theorem d6_2 : decode method_2_code 2 = .ok (.if_icmp .lt 19, 3) := by decide +kernel
theorem d6_5 : decode method_2_code 5 = .ok (.iload_n 1, 1) := by decide +kernel
theorem d6_6 : decode method_2_code 6 = .ok (.iload_n 3, 1) := by decide +kernel
theorem d6_7 : decode method_2_code 7 = .ok (.if_icmp .ge 14, 3) := by decide +kernel
theorem d6_10 : decode method_2_code 10 = .ok (.aload 4, 2) := by decide +kernel
theorem d6_12 : decode method_2_code 12 = .ok (.iload_n 1, 1) := by decide +kernel
theorem d6_13 : decode method_2_code 13 = .ok (.iaload, 1) := by decide +kernel
theorem d6_14 : decode method_2_code 14 = .ok (.iload 5, 2) := by decide +kernel
theorem d6_16 : decode method_2_code 16 = .ok (.if_icmp .lt 5, 3) := by decide +kernel
theorem d6_19 : decode method_2_code 19 = .ok (.iload_n 1, 1) := by decide +kernel
theorem d6_20 : decode method_2_code 20 = .ok (.ireturn, 1) := by decide +kernel
theorem d6_21 : decode method_2_code 21 = .ok (.iload_n 0, 1) := by decide +kernel
theorem d6_22 : decode method_2_code 22 = .ok (.ireturn, 1) := by decide +kernel
abbrev y6 : MethodName := (⟨"com/example/best_plus_rest/bestplusrest/index/PostingsAdvancePinLaw", "pick", "(IIII[II)I"⟩ : MethodName)
abbrev R6 : Room := { frames := 0, cells := 0, slots := 0, locals := 0 }
set_option maxRecDepth 65536 in
set_option maxHeartbeats 4000000 in
theorem ef6 (e : Int32) (k : Int32) (i : Int32) (n : Int32) (d : Addr) (doc : Int32) (mid : MethodId) : entryFrame mid #[(.int e), (.int k), (.int i), (.int n), (.ref d), (.int doc)] 6 = mkF mid 0 #[.val (.int e), .val (.int k), .val (.int i), .val (.int n), .val (.ref d), .val (.int doc)] [] := by first | (simp [entryFrame, mkF, argsToLocals, Value.category]; done) | rfl
set_option maxRecDepth 65536 in
set_option maxHeartbeats 40000000 in
theorem rm6 (l : Launch) (Z : State) (a0 : Array Value) (hw : ∀ d ∈ tables_1, d.before a0 Z = true) (n0 : Nat) (ws : List Jvm.Cond) (e : Int32) (k : Int32) (i : Int32) (n : Int32) (d : Addr) (doc : Int32) (f : Nat → Value) (dv : Int32) (h0 : Heap) (hn0 : n0 ≤ h0.size) (e0 : Ars Z h0 d .int 8 f) (e1 : 0 ≤ k.toInt ∧ k.toInt ≤ 7) (e2 : f k.toInt.toNat = .int dv) :
    Ctr l Z n0 y6 method_2_code 6 (some .int) ws R6 #[(.int e), (.int k), (.int i), (.int n), (.ref d), (.int doc)] h0 (QI fun r h => (h0 = h) ∧ ((i.toInt ≤ k.toInt ∧ k.toInt < n.toInt ∧ doc.toInt ≤ dv.toInt ∧ r.toInt = k.toInt) ∨ (¬ (i.toInt ≤ k.toInt ∧ k.toInt < n.toInt ∧ doc.toInt ≤ dv.toInt) ∧ r.toInt = e.toInt))) := by
  refine ctr_of pn6 hn0 (ef6 e k i n d doc) fun G A0 => ?_
  have A1 := A0.iloadN (v := k) (pc' := 1) d6_0 rfl rfl
  have A2 := A1.iloadN (v := i) (pc' := 2) d6_1 rfl rfl
  by_cases c3 : k.toInt < i.toInt
  · have A4 := A2.icmpYes (pc' := 21) d6_2 (tlt (ilt (x := k) (y := i) rfl rfl c3)).1 (by decide) (by decide)
    have A5 := A4.iloadN (v := e) (pc' := 22) d6_21 rfl rfl
    refine A5.retI d6_22 (by decide) (by decide) ⟨_, rfl, ⟨rfl, ?_⟩⟩
    omega
  · have A6 := A2.icmpNo (pc' := 5) d6_2 (flt (inlt (x := k) (y := i) rfl rfl c3)).1 rfl
    have A7 := A6.iloadN (v := k) (pc' := 6) d6_5 rfl rfl
    have A8 := A7.iloadN (v := n) (pc' := 7) d6_6 rfl rfl
    by_cases c9 : k.toInt < n.toInt
    · have A10 := A8.icmpNo (pc' := 10) d6_7 (tlt (ilt (x := k) (y := n) rfl rfl c9)).2.1 rfl
      have A11 := A10.aload (v := (.ref d)) (pc' := 12) d6_10 rfl rfl rfl
      have A12 := A11.iloadN (v := k) (pc' := 13) d6_12 rfl rfl
      have A13 := A12.iaload (i := k.toInt.toNat) (v := (.int dv)) (pc' := 14) d6_13 e0 (by omega) (by omega) e2 rfl
      have A14 := A13.iload (v := doc) (pc' := 16) d6_14 rfl rfl
      by_cases c15 : dv.toInt < doc.toInt
      · have A16 := A14.icmpYes (pc' := 21) d6_16 (tlt (ilt (x := dv) (y := doc) rfl rfl c15)).1 (by decide) (by decide)
        have A17 := A16.iloadN (v := e) (pc' := 22) d6_21 rfl rfl
        refine A17.retI d6_22 (by decide) (by decide) ⟨_, rfl, ⟨rfl, ?_⟩⟩
        omega
      · have A18 := A14.icmpNo (pc' := 19) d6_16 (flt (inlt (x := dv) (y := doc) rfl rfl c15)).1 rfl
        have A19 := A18.iloadN (v := k) (pc' := 20) d6_19 rfl rfl
        refine A19.retI d6_20 (by decide) (by decide) ⟨_, rfl, ⟨rfl, ?_⟩⟩
        omega
    · have A20 := A8.icmpYes (pc' := 21) d6_7 (flt (inlt (x := k) (y := n) rfl rfl c9)).2.1 (by decide) (by decide)
      have A21 := A20.iloadN (v := e) (pc' := 22) d6_21 rfl rfl
      refine A21.retI d6_22 (by decide) (by decide) ⟨_, rfl, ⟨rfl, ?_⟩⟩
      omega
theorem pn7 : plainFor (⟨"com/example/best_plus_rest/bestplusrest/index/Postings", "advance", "(II)I"⟩ : MethodName) = true := by first | exact plainFor_of_name (by first | (simp [plainName, overriddenIn]; done) | decide +kernel) | exact Jvm.Free.JP.mathPlain rfl (by decide +kernel) | decide +kernel
theorem d7_0 : decode prog_6_method_5_code 0 = .ok (.iload_n 1, 1) := by decide +kernel
theorem d7_1 : decode prog_6_method_5_code 1 = .ok (.aload_n 0, 1) := by decide +kernel
theorem d7_2 : decode prog_6_method_5_code 2 = .ok (.getfield 16, 3) := by decide +kernel
theorem d7_5 : decode prog_6_method_5_code 5 = .ok (.if_icmp .ge 13, 3) := by decide +kernel
theorem d7_8 : decode prog_6_method_5_code 8 = .ok (.aload_n 0, 1) := by decide +kernel
theorem d7_9 : decode prog_6_method_5_code 9 = .ok (.getfield 7, 3) := by decide +kernel
theorem d7_12 : decode prog_6_method_5_code 12 = .ok (.iload_n 1, 1) := by decide +kernel
theorem d7_13 : decode prog_6_method_5_code 13 = .ok (.iaload, 1) := by decide +kernel
theorem d7_14 : decode prog_6_method_5_code 14 = .ok (.iload_n 2, 1) := by decide +kernel
theorem d7_15 : decode prog_6_method_5_code 15 = .ok (.if_icmp .lt 5, 3) := by decide +kernel
theorem d7_18 : decode prog_6_method_5_code 18 = .ok (.iload_n 1, 1) := by decide +kernel
theorem d7_19 : decode prog_6_method_5_code 19 = .ok (.ireturn, 1) := by decide +kernel
theorem d7_20 : decode prog_6_method_5_code 20 = .ok (.iload_n 1, 1) := by decide +kernel
theorem d7_21 : decode prog_6_method_5_code 21 = .ok (.istore_n 3, 1) := by decide +kernel
theorem d7_22 : decode prog_6_method_5_code 22 = .ok (.iconst 1, 1) := by decide +kernel
theorem d7_23 : decode prog_6_method_5_code 23 = .ok (.istore 4, 2) := by decide +kernel
theorem d7_25 : decode prog_6_method_5_code 25 = .ok (.iload_n 1, 1) := by decide +kernel
theorem d7_26 : decode prog_6_method_5_code 26 = .ok (.iconst 1, 1) := by decide +kernel
theorem d7_27 : decode prog_6_method_5_code 27 = .ok (.iadd, 1) := by decide +kernel
theorem d7_28 : decode prog_6_method_5_code 28 = .ok (.istore 5, 2) := by decide +kernel
theorem d7_30 : decode prog_6_method_5_code 30 = .ok (.iload 5, 2) := by decide +kernel
theorem d7_32 : decode prog_6_method_5_code 32 = .ok (.aload_n 0, 1) := by decide +kernel
theorem d7_33 : decode prog_6_method_5_code 33 = .ok (.getfield 16, 3) := by decide +kernel
theorem d7_36 : decode prog_6_method_5_code 36 = .ok (.if_icmp .ge 43, 3) := by decide +kernel
theorem d7_39 : decode prog_6_method_5_code 39 = .ok (.aload_n 0, 1) := by decide +kernel
theorem d7_40 : decode prog_6_method_5_code 40 = .ok (.getfield 7, 3) := by decide +kernel
theorem d7_43 : decode prog_6_method_5_code 43 = .ok (.iload 5, 2) := by decide +kernel
theorem d7_45 : decode prog_6_method_5_code 45 = .ok (.iaload, 1) := by decide +kernel
theorem d7_46 : decode prog_6_method_5_code 46 = .ok (.iload_n 2, 1) := by decide +kernel
theorem d7_47 : decode prog_6_method_5_code 47 = .ok (.if_icmp .ge 32, 3) := by decide +kernel
theorem d7_50 : decode prog_6_method_5_code 50 = .ok (.iload 5, 2) := by decide +kernel
theorem d7_52 : decode prog_6_method_5_code 52 = .ok (.istore_n 3, 1) := by decide +kernel
theorem d7_53 : decode prog_6_method_5_code 53 = .ok (.iload 4, 2) := by decide +kernel
theorem d7_55 : decode prog_6_method_5_code 55 = .ok (.iconst 1, 1) := by decide +kernel
theorem d7_56 : decode prog_6_method_5_code 56 = .ok (.ishl, 1) := by decide +kernel
theorem d7_57 : decode prog_6_method_5_code 57 = .ok (.istore 4, 2) := by decide +kernel
theorem d7_59 : decode prog_6_method_5_code 59 = .ok (.iload_n 3, 1) := by decide +kernel
theorem d7_60 : decode prog_6_method_5_code 60 = .ok (.i2l, 1) := by decide +kernel
theorem d7_61 : decode prog_6_method_5_code 61 = .ok (.iload 4, 2) := by decide +kernel
theorem d7_63 : decode prog_6_method_5_code 63 = .ok (.i2l, 1) := by decide +kernel
theorem d7_64 : decode prog_6_method_5_code 64 = .ok (.ladd, 1) := by decide +kernel
theorem d7_65 : decode prog_6_method_5_code 65 = .ok (.aload_n 0, 1) := by decide +kernel
theorem d7_66 : decode prog_6_method_5_code 66 = .ok (.getfield 16, 3) := by decide +kernel
theorem d7_69 : decode prog_6_method_5_code 69 = .ok (.i2l, 1) := by decide +kernel
theorem d7_70 : decode prog_6_method_5_code 70 = .ok (.invokestatic 20, 3) := by decide +kernel
theorem d7_73 : decode prog_6_method_5_code 73 = .ok (.l2i, 1) := by decide +kernel
theorem d7_74 : decode prog_6_method_5_code 74 = .ok (.istore 5, 2) := by decide +kernel
theorem d7_76 : decode prog_6_method_5_code 76 = .ok (.goto (-46), 3) := by decide +kernel
theorem d7_79 : decode prog_6_method_5_code 79 = .ok (.iload 5, 2) := by decide +kernel
theorem d7_81 : decode prog_6_method_5_code 81 = .ok (.iload_n 3, 1) := by decide +kernel
theorem d7_82 : decode prog_6_method_5_code 82 = .ok (.isub, 1) := by decide +kernel
theorem d7_83 : decode prog_6_method_5_code 83 = .ok (.iconst 1, 1) := by decide +kernel
theorem d7_84 : decode prog_6_method_5_code 84 = .ok (.if_icmp .le 35, 3) := by decide +kernel
theorem d7_87 : decode prog_6_method_5_code 87 = .ok (.iload_n 3, 1) := by decide +kernel
theorem d7_88 : decode prog_6_method_5_code 88 = .ok (.iload 5, 2) := by decide +kernel
theorem d7_90 : decode prog_6_method_5_code 90 = .ok (.iadd, 1) := by decide +kernel
theorem d7_91 : decode prog_6_method_5_code 91 = .ok (.iconst 1, 1) := by decide +kernel
theorem d7_92 : decode prog_6_method_5_code 92 = .ok (.iushr, 1) := by decide +kernel
theorem d7_93 : decode prog_6_method_5_code 93 = .ok (.istore 6, 2) := by decide +kernel
theorem d7_95 : decode prog_6_method_5_code 95 = .ok (.aload_n 0, 1) := by decide +kernel
theorem d7_96 : decode prog_6_method_5_code 96 = .ok (.getfield 7, 3) := by decide +kernel
theorem d7_99 : decode prog_6_method_5_code 99 = .ok (.iload 6, 2) := by decide +kernel
theorem d7_101 : decode prog_6_method_5_code 101 = .ok (.iaload, 1) := by decide +kernel
theorem d7_102 : decode prog_6_method_5_code 102 = .ok (.iload_n 2, 1) := by decide +kernel
theorem d7_103 : decode prog_6_method_5_code 103 = .ok (.if_icmp .ge 9, 3) := by decide +kernel
theorem d7_106 : decode prog_6_method_5_code 106 = .ok (.iload 6, 2) := by decide +kernel
theorem d7_108 : decode prog_6_method_5_code 108 = .ok (.istore_n 3, 1) := by decide +kernel
theorem d7_109 : decode prog_6_method_5_code 109 = .ok (.goto 7, 3) := by decide +kernel
theorem d7_112 : decode prog_6_method_5_code 112 = .ok (.iload 6, 2) := by decide +kernel
theorem d7_114 : decode prog_6_method_5_code 114 = .ok (.istore 5, 2) := by decide +kernel
theorem d7_116 : decode prog_6_method_5_code 116 = .ok (.goto (-37), 3) := by decide +kernel
theorem d7_119 : decode prog_6_method_5_code 119 = .ok (.iload 5, 2) := by decide +kernel
theorem d7_121 : decode prog_6_method_5_code 121 = .ok (.ireturn, 1) := by decide +kernel
abbrev y7 : MethodName := (⟨"com/example/best_plus_rest/bestplusrest/index/Postings", "advance", "(II)I"⟩ : MethodName)
abbrev R7 : Room := { frames := 1, cells := 0, slots := 0, locals := 15 }
set_option maxRecDepth 65536 in
set_option maxHeartbeats 4000000 in
theorem ef7 (a : Addr) (i : Int32) (doc : Int32) (mid : MethodId) : entryFrame mid #[(.ref a), (.int i), (.int doc)] 7 = mkF mid 0 #[.val (.ref a), .val (.int i), .val (.int doc), .unset, .unset, .unset, .unset] [] := by first | (simp [entryFrame, mkF, argsToLocals, Value.category]; done) | rfl
set_option maxRecDepth 65536 in
set_option maxHeartbeats 40000000 in
theorem rm7 (l : Launch) (Z : State) (a0 : Array Value) (hw : ∀ d ∈ tables_1, d.before a0 Z = true) (n0 : Nat) (ws : List Jvm.Cond) (a : Addr) (i : Int32) (doc : Int32) (u : Addr) (N : Nat) (sz : Int32) (f : Nat → Value) (g : Nat → Int32) (h0 : Heap) (hn0 : n0 ≤ h0.size) (e0 : Fld Z h0 a "com/example/best_plus_rest/bestplusrest/index/Postings" "docs" "[I" (.ref u)) (e1 : Fld Z h0 a "com/example/best_plus_rest/bestplusrest/index/Postings" "size" "I" (.int sz)) (e2 : Ars Z h0 u .int N f) (e3 : 0 ≤ i.toInt ∧ i.toInt ≤ sz.toInt ∧ sz.toInt ≤ N ∧ sz.toInt ≤ 1000 ∧ own_inc g sz.toInt) (e4 : ∀ j : Nat, (j : Int) < sz.toInt → f j = .int (g j)) :
    Ctr l Z n0 y7 prog_6_method_5_code 7 (some .int) ws R7 #[(.ref a), (.int i), (.int doc)] h0 (QI fun r h => (h0 = h) ∧ (own_first g i.toInt sz.toInt doc.toInt r.toInt)) := by
  refine ctr_of pn7 hn0 (ef7 a i doc) fun G A0 => ?_
  have A1 := A0.iloadN (v := i) (pc' := 1) d7_0 rfl rfl
  have A2 := A1.aloadN (v := (.ref a)) (pc' := 2) d7_1 rfl rfl rfl
  have A3 := A2.getF (pc' := 5) (host := "") d7_2 (Or.inl (hw _ (List.mem_of_getElem? (i := 21) rfl))) Via.refl e1 rfl
  by_cases c4 : i.toInt < sz.toInt
  · have A5 := A3.icmpNo (pc' := 8) d7_5 (tlt (ilt (x := i) (y := sz) rfl rfl c4)).2.1 rfl
    have A6 := A5.aloadN (v := (.ref a)) (pc' := 9) d7_8 rfl rfl rfl
    have A7 := A6.getF (pc' := 12) (host := "") d7_9 (Or.inl (hw _ (List.mem_of_getElem? (i := 12) rfl))) Via.refl e0 rfl
    have A8 := A7.iloadN (v := i) (pc' := 13) d7_12 rfl rfl
    have A9 := A8.iaload (i := i.toInt.toNat) (v := (.int (g i.toInt.toNat))) (pc' := 14) d7_13 e2 (by omega) (by omega) (e4 i.toInt.toNat (by omega)) rfl
    have A10 := A9.iloadN (v := doc) (pc' := 15) d7_14 rfl rfl
    by_cases c11 : (g i.toInt.toNat).toInt < doc.toInt
    · have A12 := A10.icmpYes (pc' := 20) d7_15 (tlt (ilt (x := (g i.toInt.toNat)) (y := doc) rfl rfl c11)).1 (by decide) (by decide)
      have A13 := A12.iloadN (v := i) (pc' := 21) d7_20 rfl rfl
      have A14 := A13.istoreN (Ls' := #[.val (.ref a), .val (.int i), .val (.int doc), .val (.int i), .unset, .unset, .unset]) (pc' := 22) d7_21 rfl rfl
      have A15 := A14.iconst (z := (1 : Int32)) (pc' := 23) d7_22 rfl rfl
      have A16 := A15.istore (Ls' := #[.val (.ref a), .val (.int i), .val (.int doc), .val (.int i), .val (.int (1 : Int32)), .unset, .unset]) (pc' := 25) d7_23 rfl rfl
      have A17 := A16.iloadN (v := i) (pc' := 26) d7_25 rfl rfl
      have A18 := A17.iconst (z := (1 : Int32)) (pc' := 27) d7_26 rfl rfl
      have A19 := A18.iadd (pc' := 28) d7_27 rfl
      have A20 := A19.istore (Ls' := #[.val (.ref a), .val (.int i), .val (.int doc), .val (.int i), .val (.int (1 : Int32)), .val (.int (i + (1 : Int32))), .unset]) (pc' := 30) d7_28 rfl rfl
      have loop21 : ∀ (n24 : Nat) (low : Int32) (step : Int32) (high : Int32) (e25 : (sz.toInt - low.toInt).toNat = n24) (q23 : i.toInt ≤ low.toInt ∧ low.toInt < high.toInt ∧ high.toInt ≤ sz.toInt ∧ (g low.toInt.toNat).toInt < doc.toInt ∧ step.toInt = low.toInt - i.toInt + 1 ∧ (high.toInt = low.toInt + step.toInt ∨ high.toInt = sz.toInt)), W l Z n0 y7 prog_6_method_5_code 7 (some .int) R7 G h0 30 #[.val (.ref a), .val (.int i), .val (.int doc), .val (.int low), .val (.int step), .val (.int high), .unset] [] 0 0 → Gl R7 n0 G (QI fun r h => (h0 = h) ∧ (own_first g i.toInt sz.toInt doc.toInt r.toInt)) := by
        intro n24
        induction n24 using Nat.strongRecOn with
        | _ n24 ih =>
          intro low step high   e25 q23   A22
          have A26 := A22.iload (v := high) (pc' := 32) d7_30 rfl rfl
          have A27 := A26.aloadN (v := (.ref a)) (pc' := 33) d7_32 rfl rfl rfl
          have A28 := A27.getF (pc' := 36) (host := "") d7_33 (Or.inl (hw _ (List.mem_of_getElem? (i := 21) rfl))) Via.refl e1 rfl
          have join30 : ∀ (q63 : high.toInt < sz.toInt → doc.toInt ≤ (g high.toInt.toNat).toInt), W l Z n0 y7 prog_6_method_5_code 7 (some .int) R7 G h0 79 #[.val (.ref a), .val (.int i), .val (.int doc), .val (.int low), .val (.int step), .val (.int high), .unset] [] 0 0 → Gl R7 n0 G (QI fun r h => (h0 = h) ∧ (own_first g i.toInt sz.toInt doc.toInt r.toInt)) := by
            intro    q63  A62
            have loop64 : ∀ (n67 : Nat) (low2 : Int32) (high2 : Int32) (md : Slot) (hmd : One md) (e68 : (high2.toInt - low2.toInt).toNat = n67) (q66 : i.toInt ≤ low2.toInt ∧ low2.toInt < high2.toInt ∧ high2.toInt ≤ sz.toInt ∧ (g low2.toInt.toNat).toInt < doc.toInt ∧ (high2.toInt < sz.toInt → doc.toInt ≤ (g high2.toInt.toNat).toInt)), W l Z n0 y7 prog_6_method_5_code 7 (some .int) R7 G h0 79 #[.val (.ref a), .val (.int i), .val (.int doc), .val (.int low2), .val (.int step), .val (.int high2), md] [] 0 0 → Gl R7 n0 G (QI fun r h => (h0 = h) ∧ (own_first g i.toInt sz.toInt doc.toInt r.toInt)) := by
              intro n67
              induction n67 using Nat.strongRecOn with
              | _ n67 ih =>
                intro low2 high2 md  hmd e68 q66   A65
                have A69 := A65.iload (v := high2) (pc' := 81) d7_79 rfl rfl
                have A70 := A69.iloadN (v := low2) (pc' := 82) d7_81 rfl rfl
                have u1 := sub32 high2 low2 (by omega) (by omega)
                have A71 := A70.isub (pc' := 83) d7_82 rfl
                have A72 := A71.iconst (z := (1 : Int32)) (pc' := 84) d7_83 rfl rfl
                by_cases c73 : 1 < (high2 - low2).toInt
                · have A75 := A72.icmpNo (pc' := 87) d7_84 (tlt (igt (x := (high2 - low2)) (y := (1 : Int32)) rfl rfl c73)).2.2.2 rfl
                  have A76 := A75.iloadN (v := low2) (pc' := 88) d7_87 rfl rfl
                  have A77 := A76.iload (v := high2) (pc' := 90) d7_88 rfl rfl
                  have A78 := A77.iadd (pc' := 91) d7_90 rfl
                  have A79 := A78.iconst (z := (1 : Int32)) (pc' := 92) d7_91 rfl rfl
                  have A80 := A79.iushr (pc' := 93) d7_92 rfl
                  have u2 := own_mid low2 high2 (by omega) (by omega) (by omega) (by omega)
                  have A81 := A80.istore (Ls' := #[.val (.ref a), .val (.int i), .val (.int doc), .val (.int low2), .val (.int step), .val (.int high2), .val (.int (((low2 + high2).toUInt32 >>> ((1 : Int32) &&& 31).toUInt32).toInt32))]) (pc' := 95) d7_93 (XS.store1 rfl hmd rfl) rfl
                  obtain ⟨mm, e_mm⟩ : ∃ z : Int32, z = (((low2 + high2).toUInt32 >>> ((1 : Int32) &&& 31).toUInt32).toInt32) := ⟨_, rfl⟩
                  have A82 := A81.cast (Ls' := #[.val (.ref a), .val (.int i), .val (.int doc), .val (.int low2), .val (.int step), .val (.int high2), .val (.int mm)]) rfl (by rw [e_mm]) rfl
                  rw [← e_mm] at u2
                  have A83 := A82.aloadN (v := (.ref a)) (pc' := 96) d7_95 rfl rfl rfl
                  have A84 := A83.getF (pc' := 99) (host := "") d7_96 (Or.inl (hw _ (List.mem_of_getElem? (i := 12) rfl))) Via.refl e0 rfl
                  have A85 := A84.iload (v := mm) (pc' := 101) d7_99 rfl rfl
                  have A86 := A85.iaload (i := mm.toInt.toNat) (v := (.int (g mm.toInt.toNat))) (pc' := 102) d7_101 e2 (by omega) (by omega) (e4 mm.toInt.toNat (by omega)) rfl
                  have A87 := A86.iloadN (v := doc) (pc' := 103) d7_102 rfl rfl
                  by_cases c88 : (g mm.toInt.toNat).toInt < doc.toInt
                  · have A89 := A87.icmpNo (pc' := 106) d7_103 (tlt (ilt (x := (g mm.toInt.toNat)) (y := doc) rfl rfl c88)).2.1 rfl
                    have A90 := A89.iload (v := mm) (pc' := 108) d7_106 rfl rfl
                    have A91 := A90.istoreN (Ls' := #[.val (.ref a), .val (.int i), .val (.int doc), .val (.int mm), .val (.int step), .val (.int high2), .val (.int mm)]) (pc' := 109) d7_108 rfl rfl
                    have A92 := A91.goto (pc' := 116) d7_109 (by decide) (by decide)
                    have A93 := A92.goto (pc' := 79) d7_116 (by decide) (by decide)
                    exact ih _ (by
                        omega) (mm) (high2) (.val (.int mm))  (One.val rfl) rfl (by
                        refine ⟨?_, ?_, ?_, ?_, ?_⟩ <;> first | omega | (intro hx; omega))   A93
                  · have A94 := A87.icmpYes (pc' := 112) d7_103 (flt (inlt (x := (g mm.toInt.toNat)) (y := doc) rfl rfl c88)).2.1 (by decide) (by decide)
                    have A95 := A94.iload (v := mm) (pc' := 114) d7_112 rfl rfl
                    have A96 := A95.istore (Ls' := #[.val (.ref a), .val (.int i), .val (.int doc), .val (.int low2), .val (.int step), .val (.int mm), .val (.int mm)]) (pc' := 116) d7_114 rfl rfl
                    have A97 := A96.goto (pc' := 79) d7_116 (by decide) (by decide)
                    exact ih _ (by
                        omega) (low2) (mm) (.val (.int mm))  (One.val rfl) rfl (by
                        refine ⟨?_, ?_, ?_, ?_, ?_⟩ <;> first | omega | (intro hx; omega))   A97
                · have A98 := A72.icmpYes (pc' := 119) d7_84 (flt (ingt (x := (high2 - low2)) (y := (1 : Int32)) rfl rfl c73)).2.2.2 (by decide) (by decide)
                  have A99 := A98.iload (v := high2) (pc' := 121) d7_119 rfl rfl
                  refine A99.retI d7_121 (by decide) (by decide) ⟨_, rfl, ⟨rfl, ?_⟩⟩
                  exact own_fin g i.toInt sz.toInt doc.toInt low2.toInt high2.toInt e3.2.2.2.2 q66.1 (by omega) q66.2.2.1 q66.2.2.2.1 q66.2.2.2.2 (by omega)
            exact loop64 _ (low) (high) (.unset)  One.u rfl (by
                exact ⟨q23.1, q23.2.1, q23.2.2.1, q23.2.2.2.1, q63⟩)   A62
          by_cases c29 : high.toInt < sz.toInt
          · have A31 := A28.icmpNo (pc' := 39) d7_36 (tlt (ilt (x := high) (y := sz) rfl rfl c29)).2.1 rfl
            have A32 := A31.aloadN (v := (.ref a)) (pc' := 40) d7_39 rfl rfl rfl
            have A33 := A32.getF (pc' := 43) (host := "") d7_40 (Or.inl (hw _ (List.mem_of_getElem? (i := 12) rfl))) Via.refl e0 rfl
            have A34 := A33.iload (v := high) (pc' := 45) d7_43 rfl rfl
            have A35 := A34.iaload (i := high.toInt.toNat) (v := (.int (g high.toInt.toNat))) (pc' := 46) d7_45 e2 (by omega) (by omega) (e4 high.toInt.toNat (by omega)) rfl
            have A36 := A35.iloadN (v := doc) (pc' := 47) d7_46 rfl rfl
            by_cases c37 : (g high.toInt.toNat).toInt < doc.toInt
            · have A38 := A36.icmpNo (pc' := 50) d7_47 (tlt (ilt (x := (g high.toInt.toNat)) (y := doc) rfl rfl c37)).2.1 rfl
              have A39 := A38.iload (v := high) (pc' := 52) d7_50 rfl rfl
              have A40 := A39.istoreN (Ls' := #[.val (.ref a), .val (.int i), .val (.int doc), .val (.int high), .val (.int step), .val (.int high), .unset]) (pc' := 53) d7_52 rfl rfl
              have A41 := A40.iload (v := step) (pc' := 55) d7_53 rfl rfl
              have A42 := A41.iconst (z := (1 : Int32)) (pc' := 56) d7_55 rfl rfl
              have A43 := A42.ishl (pc' := 57) d7_56 rfl
              have A44 := A43.istore (Ls' := #[.val (.ref a), .val (.int i), .val (.int doc), .val (.int high), .val (.int (step <<< ((1 : Int32) &&& 31))), .val (.int high), .unset]) (pc' := 59) d7_57 rfl rfl
              have A45 := A44.iloadN (v := high) (pc' := 60) d7_59 rfl rfl
              have A46 := A45.i2l (pc' := 61) d7_60 rfl
              have A47 := A46.iload (v := (step <<< ((1 : Int32) &&& 31))) (pc' := 63) d7_61 rfl rfl
              have A48 := A47.i2l (pc' := 64) d7_63 rfl
              have A49 := A48.ladd (pc' := 65) d7_64 rfl
              have t1 := own_shl step (by omega) (by omega)
              have t2 := c_i2l high
              have t3 := c_i2l (step <<< ((1 : Int32) &&& 31))
              have t4 := c_i2l sz
              have t5 := add64 high.toInt64 (step <<< ((1 : Int32) &&& 31)).toInt64 (by omega) (by omega)
              have A50 := A49.aloadN (v := (.ref a)) (pc' := 66) d7_65 rfl rfl rfl
              have A51 := A50.getF (pc' := 69) (host := "") d7_66 (Or.inl (hw _ (List.mem_of_getElem? (i := 21) rfl))) Via.refl e1 rfl
              have A52 := A51.i2l (pc' := 70) d7_69 rfl
              obtain ⟨r54, _, ⟨rfl, q55⟩, A53⟩ := W.kJ (A52.callS (argsL := [(.long (high.toInt64 + (step <<< ((1 : Int32) &&& 31)).toInt64)), (.long sz.toInt64)]) (rest := []) (C' := 0) (S' := 0) (pc' := 73) d7_70 (hw _ (List.mem_of_getElem? (i := 44) rfl)) (hw _ (List.mem_of_getElem? (i := 45) rfl)) (hw _ (List.mem_of_getElem? (i := 29) rfl)) (hw _ (List.mem_of_getElem? (i := 46) rfl)) (rm8 l Z a0 hw n0 [] ((high.toInt64 + (step <<< ((1 : Int32) &&& 31)).toInt64)) (sz.toInt64)  h0 A52.size ) rfl rfl pd_2 rfl rfl (by decide) (by decide) (Nat.le_of_ble_eq_true rfl) (by decide) (by decide) rfl rfl rfl)
              have t6 := own_l2i r54 (by omega) (by omega)
              have A57 := A53.l2i (pc' := 74) d7_73 rfl
              have A58 := A57.istore (Ls' := #[.val (.ref a), .val (.int i), .val (.int doc), .val (.int high), .val (.int (step <<< ((1 : Int32) &&& 31))), .val (.int r54.toInt32), .unset]) (pc' := 76) d7_74 rfl rfl
              have A59 := A58.goto (pc' := 30) d7_76 (by decide) (by decide)
              exact ih _ (by
                  omega) (high) ((step <<< ((1 : Int32) &&& 31))) (r54.toInt32)   rfl (by
                  refine ⟨?_, ?_, ?_, ?_, ?_, ?_⟩ <;> omega)   A59
            · have A60 := A36.icmpYes (pc' := 79) d7_47 (flt (inlt (x := (g high.toInt.toNat)) (y := doc) rfl rfl c37)).2.1 (by decide) (by decide)
              exact join30    (by intro hx; omega)  A60
          · have A61 := A28.icmpYes (pc' := 79) d7_36 (flt (inlt (x := high) (y := sz) rfl rfl c29)).2.1 (by decide) (by decide)
            exact join30    (by intro hx; omega)  A61
      exact loop21 _ (i) ((1 : Int32)) ((i + (1 : Int32)))   rfl (by
          have t1 := addc32 i (1 : Int32) 1 rfl (by omega) (by omega)
          have t2 : (1 : Int32).toInt = 1 := rfl
          refine ⟨?_, ?_, ?_, ?_, ?_, ?_⟩ <;> omega)   A20
    · have A100 := A10.icmpNo (pc' := 18) d7_15 (flt (inlt (x := (g i.toInt.toNat)) (y := doc) rfl rfl c11)).1 rfl
      have A101 := A100.iloadN (v := i) (pc' := 19) d7_18 rfl rfl
      refine A101.retI d7_19 (by decide) (by decide) ⟨_, rfl, ⟨rfl, ?_⟩⟩
      exact own_first0 g i.toInt sz.toInt doc.toInt (by omega) (by intro hx; omega)
  · have A102 := A3.icmpYes (pc' := 18) d7_5 (flt (inlt (x := i) (y := sz) rfl rfl c4)).2.1 (by decide) (by decide)
    have A103 := A102.iloadN (v := i) (pc' := 19) d7_18 rfl rfl
    refine A103.retI d7_19 (by decide) (by decide) ⟨_, rfl, ⟨rfl, ?_⟩⟩
    exact own_first0 g i.toInt sz.toInt doc.toInt (by omega) (by intro hx; omega)
theorem pn0 : plainFor x = true := plainFor_of_name (by first | (simp [plainName, overriddenIn, x]; done) | decide +kernel)
abbrev y0 : MethodName := x
abbrev R0 : Room := room_1
set_option maxRecDepth 65536 in
set_option maxHeartbeats 4000000 in
theorem ef0 (xx : Int32) (xy : Int32) (xc : Int32) (xq : Int32) (xz : Int32) (mid : MethodId) : entryFrame mid #[(.int xx), (.int xy), (.int xc), (.int xq), (.int xz)] maxLocals = mkF mid 0 #[.val (.int xx), .val (.int xy), .val (.int xc), .val (.int xq), .val (.int xz), .unset, .unset, .unset, .unset, .unset, .unset, .unset, .unset] [] := by first | (simp [entryFrame, mkF, argsToLocals, Value.category, maxLocals]; done) | rfl
set_option maxRecDepth 65536 in
set_option maxHeartbeats 40000000 in
theorem rm0 (l : Launch) (Z : State) (a0 : Array Value) (hw : ∀ d ∈ tables_1, d.before a0 Z = true) (n0 : Nat) (ws : List Jvm.Cond) (xx : Int32) (xy : Int32) (xc : Int32) (xq : Int32) (xz : Int32)  (h0 : Heap) (hn0 : n0 ≤ h0.size)  :
    Ctr l Z n0 y0 code maxLocals ret ws R0 #[(.int xx), (.int xy), (.int xc), (.int xq), (.int xz)] h0 (QI fun r h => (True) ∧ (r = 1)) := by
  refine ctr_of pn0 hn0 (ef0 xx xy xc xq xz) fun G A0 => ?_
  have A1 := A0.iloadN (v := xc) (pc' := 1) at_0 rfl rfl
  have A2 := A1.bipush (z := (7 : Int32)) (pc' := 3) at_1 rfl rfl
  have A3 := A2.iand (pc' := 4) at_3 rfl
  have A4 := A3.istore (Ls' := #[.val (.int xx), .val (.int xy), .val (.int xc), .val (.int xq), .val (.int xz), .val (.int (xc &&& (7 : Int32))), .unset, .unset, .unset, .unset, .unset, .unset, .unset]) (pc' := 6) at_4 rfl rfl
  obtain ⟨n, e_n⟩ : ∃ z : Int32, z = (xc &&& (7 : Int32)) := ⟨_, rfl⟩
  have A5 := A4.cast (Ls' := #[.val (.int xx), .val (.int xy), .val (.int xc), .val (.int xq), .val (.int xz), .val (.int n), .unset, .unset, .unset, .unset, .unset, .unset, .unset]) rfl (by rw [e_n]) rfl
  have kn : 0 ≤ n.toInt ∧ n.toInt ≤ 7 := by rw [e_n]; exact own_m3 _
  have kn1 := addc32 n (1 : Int32) 1 rfl (by omega) (by omega)
  have A6 := A5.iloadN (v := xc) (pc' := 7) at_6 rfl rfl
  have A7 := A6.iconst (z := (3 : Int32)) (pc' := 8) at_7 rfl rfl
  have A8 := A7.iushr (pc' := 9) at_8 rfl
  have A9 := A8.iconst (z := (1 : Int32)) (pc' := 10) at_9 rfl rfl
  have A10 := A9.iand (pc' := 11) at_10 rfl
  have join12 : ∀ (v19 : Int32) (q20 : True), W l Z n0 y0 code maxLocals ret R0 G h0 19 #[.val (.int xx), .val (.int xy), .val (.int xc), .val (.int xq), .val (.int xz), .val (.int n), .unset, .unset, .unset, .unset, .unset, .unset, .unset] [(.int v19)] 0 0 → Gl R0 n0 G (QI fun r h => (True) ∧ (r = 1)) := by
    intro v19   q20  A18
    have A21 := A18.istore (Ls' := #[.val (.int xx), .val (.int xy), .val (.int xc), .val (.int xq), .val (.int xz), .val (.int n), .val (.int v19), .unset, .unset, .unset, .unset, .unset, .unset]) (pc' := 21) at_19 rfl rfl
    have A22 := A21.bipush (z := (8 : Int32)) (pc' := 23) at_21 rfl rfl
    obtain ⟨h23, b24, eb25, g26, E27, X28, A29⟩ := A22.newP (z := (8 : Int32)) (N := 8) (cap := 8) (C' := 1) (S' := 8) (pc' := 25) at_23 (hw _ (List.mem_of_getElem? (i := 0) rfl)) rfl (by decide) (by decide) (by decide) (by decide) rfl rfl rfl
    change Ars Z h23 b24 .int 8 (fun _ => (.int (0 : Int32))) at X28
    have A30 := A29.astore (Ls' := #[.val (.int xx), .val (.int xy), .val (.int xc), .val (.int xq), .val (.int xz), .val (.int n), .val (.int v19), .val (.ref b24), .unset, .unset, .unset, .unset, .unset]) (pc' := 27) at_25 rfl rfl rfl
    have A31 := A30.aload (v := (.ref b24)) (pc' := 29) at_27 rfl rfl rfl
    have A32 := A31.iconst (z := (0 : Int32)) (pc' := 30) at_29 rfl rfl
    have A33 := A32.iloadN (v := xx) (pc' := 31) at_30 rfl rfl
    have A34 := A33.ldc (z := (1073741823 : Int32)) (pc' := 33) at_31 (hw _ (List.mem_of_getElem? (i := 1) rfl)) rfl
    have A35 := A34.iand (pc' := 34) at_33 rfl
    obtain ⟨d0, e_d0⟩ : ∃ z : Int32, z = (xx &&& (1073741823 : Int32)) := ⟨_, rfl⟩
    have A36 := A35.topI (z := d0) e_d0.symm
    have kd0 : 0 ≤ d0.toInt ∧ d0.toInt < 1073741824 := by rw [e_d0]; exact own_m30 _
    obtain ⟨h37, w38, X39, A40⟩ := A36.iastore (i := 0) (pc' := 35) at_34 X28 rfl (by decide) g26 rfl
    have A41 := A40.aload (v := (.ref b24)) (pc' := 37) at_35 rfl rfl rfl
    have A42 := A41.iconst (z := (1 : Int32)) (pc' := 38) at_37 rfl rfl
    have A43 := A42.aload (v := (.ref b24)) (pc' := 40) at_38 rfl rfl rfl
    have A44 := A43.iconst (z := (0 : Int32)) (pc' := 41) at_40 rfl rfl
    have A45 := A44.iaload (i := 0) (v := (.int d0)) (pc' := 42) at_41 X39 rfl (by decide) rfl rfl
    have A46 := A45.iconst (z := (1 : Int32)) (pc' := 43) at_42 rfl rfl
    have A47 := A46.iadd (pc' := 44) at_43 rfl
    have A48 := A47.iloadN (v := xy) (pc' := 45) at_44 rfl rfl
    have A49 := A48.iconst (z := (3 : Int32)) (pc' := 46) at_45 rfl rfl
    have A50 := A49.iand (pc' := 47) at_46 rfl
    have A51 := A50.iadd (pc' := 48) at_47 rfl
    obtain ⟨d1, e_d1⟩ : ∃ z : Int32, z = ((d0 + (1 : Int32)) + (xy &&& (3 : Int32))) := ⟨_, rfl⟩
    have A52 := A51.topI (z := d1) e_d1.symm
    have kd1 : d0.toInt < d1.toInt ∧ d1.toInt ≤ d0.toInt + 4 := by rw [e_d1]; exact own_nx d0 _ (by omega) (by omega) (own_m2 _)
    obtain ⟨h53, w54, X55, A56⟩ := A52.iastore (i := 1) (pc' := 49) at_48 X39 rfl (by decide) g26 rfl
    have A57 := A56.aload (v := (.ref b24)) (pc' := 51) at_49 rfl rfl rfl
    have A58 := A57.iconst (z := (2 : Int32)) (pc' := 52) at_51 rfl rfl
    have A59 := A58.aload (v := (.ref b24)) (pc' := 54) at_52 rfl rfl rfl
    have A60 := A59.iconst (z := (1 : Int32)) (pc' := 55) at_54 rfl rfl
    have A61 := A60.iaload (i := 1) (v := (.int d1)) (pc' := 56) at_55 X55 rfl (by decide) rfl rfl
    have A62 := A61.iconst (z := (1 : Int32)) (pc' := 57) at_56 rfl rfl
    have A63 := A62.iadd (pc' := 58) at_57 rfl
    have A64 := A63.iloadN (v := xy) (pc' := 59) at_58 rfl rfl
    have A65 := A64.iconst (z := (3 : Int32)) (pc' := 60) at_59 rfl rfl
    have A66 := A65.iushr (pc' := 61) at_60 rfl
    have A67 := A66.iconst (z := (3 : Int32)) (pc' := 62) at_61 rfl rfl
    have A68 := A67.iand (pc' := 63) at_62 rfl
    have A69 := A68.iadd (pc' := 64) at_63 rfl
    obtain ⟨d2, e_d2⟩ : ∃ z : Int32, z = ((d1 + (1 : Int32)) + (((xy.toUInt32 >>> ((3 : Int32) &&& 31).toUInt32).toInt32) &&& (3 : Int32))) := ⟨_, rfl⟩
    have A70 := A69.topI (z := d2) e_d2.symm
    have kd2 : d1.toInt < d2.toInt ∧ d2.toInt ≤ d1.toInt + 4 := by rw [e_d2]; exact own_nx d1 _ (by omega) (by omega) (own_m2 _)
    obtain ⟨h71, w72, X73, A74⟩ := A70.iastore (i := 2) (pc' := 65) at_64 X55 rfl (by decide) g26 rfl
    have A75 := A74.aload (v := (.ref b24)) (pc' := 67) at_65 rfl rfl rfl
    have A76 := A75.iconst (z := (3 : Int32)) (pc' := 68) at_67 rfl rfl
    have A77 := A76.aload (v := (.ref b24)) (pc' := 70) at_68 rfl rfl rfl
    have A78 := A77.iconst (z := (2 : Int32)) (pc' := 71) at_70 rfl rfl
    have A79 := A78.iaload (i := 2) (v := (.int d2)) (pc' := 72) at_71 X73 rfl (by decide) rfl rfl
    have A80 := A79.iconst (z := (1 : Int32)) (pc' := 73) at_72 rfl rfl
    have A81 := A80.iadd (pc' := 74) at_73 rfl
    have A82 := A81.iloadN (v := xy) (pc' := 75) at_74 rfl rfl
    have A83 := A82.bipush (z := (6 : Int32)) (pc' := 77) at_75 rfl rfl
    have A84 := A83.iushr (pc' := 78) at_77 rfl
    have A85 := A84.iconst (z := (3 : Int32)) (pc' := 79) at_78 rfl rfl
    have A86 := A85.iand (pc' := 80) at_79 rfl
    have A87 := A86.iadd (pc' := 81) at_80 rfl
    obtain ⟨d3, e_d3⟩ : ∃ z : Int32, z = ((d2 + (1 : Int32)) + (((xy.toUInt32 >>> ((6 : Int32) &&& 31).toUInt32).toInt32) &&& (3 : Int32))) := ⟨_, rfl⟩
    have A88 := A87.topI (z := d3) e_d3.symm
    have kd3 : d2.toInt < d3.toInt ∧ d3.toInt ≤ d2.toInt + 4 := by rw [e_d3]; exact own_nx d2 _ (by omega) (by omega) (own_m2 _)
    obtain ⟨h89, w90, X91, A92⟩ := A88.iastore (i := 3) (pc' := 82) at_81 X73 rfl (by decide) g26 rfl
    have A93 := A92.aload (v := (.ref b24)) (pc' := 84) at_82 rfl rfl rfl
    have A94 := A93.iconst (z := (4 : Int32)) (pc' := 85) at_84 rfl rfl
    have A95 := A94.aload (v := (.ref b24)) (pc' := 87) at_85 rfl rfl rfl
    have A96 := A95.iconst (z := (3 : Int32)) (pc' := 88) at_87 rfl rfl
    have A97 := A96.iaload (i := 3) (v := (.int d3)) (pc' := 89) at_88 X91 rfl (by decide) rfl rfl
    have A98 := A97.iconst (z := (1 : Int32)) (pc' := 90) at_89 rfl rfl
    have A99 := A98.iadd (pc' := 91) at_90 rfl
    have A100 := A99.iloadN (v := xy) (pc' := 92) at_91 rfl rfl
    have A101 := A100.bipush (z := (9 : Int32)) (pc' := 94) at_92 rfl rfl
    have A102 := A101.iushr (pc' := 95) at_94 rfl
    have A103 := A102.iconst (z := (3 : Int32)) (pc' := 96) at_95 rfl rfl
    have A104 := A103.iand (pc' := 97) at_96 rfl
    have A105 := A104.iadd (pc' := 98) at_97 rfl
    obtain ⟨d4, e_d4⟩ : ∃ z : Int32, z = ((d3 + (1 : Int32)) + (((xy.toUInt32 >>> ((9 : Int32) &&& 31).toUInt32).toInt32) &&& (3 : Int32))) := ⟨_, rfl⟩
    have A106 := A105.topI (z := d4) e_d4.symm
    have kd4 : d3.toInt < d4.toInt ∧ d4.toInt ≤ d3.toInt + 4 := by rw [e_d4]; exact own_nx d3 _ (by omega) (by omega) (own_m2 _)
    obtain ⟨h107, w108, X109, A110⟩ := A106.iastore (i := 4) (pc' := 99) at_98 X91 rfl (by decide) g26 rfl
    have A111 := A110.aload (v := (.ref b24)) (pc' := 101) at_99 rfl rfl rfl
    have A112 := A111.iconst (z := (5 : Int32)) (pc' := 102) at_101 rfl rfl
    have A113 := A112.aload (v := (.ref b24)) (pc' := 104) at_102 rfl rfl rfl
    have A114 := A113.iconst (z := (4 : Int32)) (pc' := 105) at_104 rfl rfl
    have A115 := A114.iaload (i := 4) (v := (.int d4)) (pc' := 106) at_105 X109 rfl (by decide) rfl rfl
    have A116 := A115.iconst (z := (1 : Int32)) (pc' := 107) at_106 rfl rfl
    have A117 := A116.iadd (pc' := 108) at_107 rfl
    have A118 := A117.iloadN (v := xy) (pc' := 109) at_108 rfl rfl
    have A119 := A118.bipush (z := (12 : Int32)) (pc' := 111) at_109 rfl rfl
    have A120 := A119.iushr (pc' := 112) at_111 rfl
    have A121 := A120.iconst (z := (3 : Int32)) (pc' := 113) at_112 rfl rfl
    have A122 := A121.iand (pc' := 114) at_113 rfl
    have A123 := A122.iadd (pc' := 115) at_114 rfl
    obtain ⟨d5, e_d5⟩ : ∃ z : Int32, z = ((d4 + (1 : Int32)) + (((xy.toUInt32 >>> ((12 : Int32) &&& 31).toUInt32).toInt32) &&& (3 : Int32))) := ⟨_, rfl⟩
    have A124 := A123.topI (z := d5) e_d5.symm
    have kd5 : d4.toInt < d5.toInt ∧ d5.toInt ≤ d4.toInt + 4 := by rw [e_d5]; exact own_nx d4 _ (by omega) (by omega) (own_m2 _)
    obtain ⟨h125, w126, X127, A128⟩ := A124.iastore (i := 5) (pc' := 116) at_115 X109 rfl (by decide) g26 rfl
    have A129 := A128.aload (v := (.ref b24)) (pc' := 118) at_116 rfl rfl rfl
    have A130 := A129.bipush (z := (6 : Int32)) (pc' := 120) at_118 rfl rfl
    have A131 := A130.aload (v := (.ref b24)) (pc' := 122) at_120 rfl rfl rfl
    have A132 := A131.iconst (z := (5 : Int32)) (pc' := 123) at_122 rfl rfl
    have A133 := A132.iaload (i := 5) (v := (.int d5)) (pc' := 124) at_123 X127 rfl (by decide) rfl rfl
    have A134 := A133.iconst (z := (1 : Int32)) (pc' := 125) at_124 rfl rfl
    have A135 := A134.iadd (pc' := 126) at_125 rfl
    have A136 := A135.iloadN (v := xy) (pc' := 127) at_126 rfl rfl
    have A137 := A136.bipush (z := (15 : Int32)) (pc' := 129) at_127 rfl rfl
    have A138 := A137.iushr (pc' := 130) at_129 rfl
    have A139 := A138.iconst (z := (3 : Int32)) (pc' := 131) at_130 rfl rfl
    have A140 := A139.iand (pc' := 132) at_131 rfl
    have A141 := A140.iadd (pc' := 133) at_132 rfl
    obtain ⟨d6, e_d6⟩ : ∃ z : Int32, z = ((d5 + (1 : Int32)) + (((xy.toUInt32 >>> ((15 : Int32) &&& 31).toUInt32).toInt32) &&& (3 : Int32))) := ⟨_, rfl⟩
    have A142 := A141.topI (z := d6) e_d6.symm
    have kd6 : d5.toInt < d6.toInt ∧ d6.toInt ≤ d5.toInt + 4 := by rw [e_d6]; exact own_nx d5 _ (by omega) (by omega) (own_m2 _)
    obtain ⟨h143, w144, X145, A146⟩ := A142.iastore (i := 6) (pc' := 134) at_133 X127 rfl (by decide) g26 rfl
    have A147 := A146.aload (v := (.ref b24)) (pc' := 136) at_134 rfl rfl rfl
    have A148 := A147.bipush (z := (7 : Int32)) (pc' := 138) at_136 rfl rfl
    have A149 := A148.aload (v := (.ref b24)) (pc' := 140) at_138 rfl rfl rfl
    have A150 := A149.bipush (z := (6 : Int32)) (pc' := 142) at_140 rfl rfl
    have A151 := A150.iaload (i := 6) (v := (.int d6)) (pc' := 143) at_142 X145 rfl (by decide) rfl rfl
    have A152 := A151.iconst (z := (1 : Int32)) (pc' := 144) at_143 rfl rfl
    have A153 := A152.iadd (pc' := 145) at_144 rfl
    have A154 := A153.iloadN (v := xy) (pc' := 146) at_145 rfl rfl
    have A155 := A154.bipush (z := (18 : Int32)) (pc' := 148) at_146 rfl rfl
    have A156 := A155.iushr (pc' := 149) at_148 rfl
    have A157 := A156.iconst (z := (3 : Int32)) (pc' := 150) at_149 rfl rfl
    have A158 := A157.iand (pc' := 151) at_150 rfl
    have A159 := A158.iadd (pc' := 152) at_151 rfl
    obtain ⟨d7, e_d7⟩ : ∃ z : Int32, z = ((d6 + (1 : Int32)) + (((xy.toUInt32 >>> ((18 : Int32) &&& 31).toUInt32).toInt32) &&& (3 : Int32))) := ⟨_, rfl⟩
    have A160 := A159.topI (z := d7) e_d7.symm
    have kd7 : d6.toInt < d7.toInt ∧ d7.toInt ≤ d6.toInt + 4 := by rw [e_d7]; exact own_nx d6 _ (by omega) (by omega) (own_m2 _)
    obtain ⟨h161, w162, X163, A164⟩ := A160.iastore (i := 7) (pc' := 153) at_152 X145 rfl (by decide) g26 rfl
    have A165 := A164.iload (v := v19) (pc' := 155) at_153 rfl rfl
    have join167 : ∀ (v182 : Int32) (q183 : True), W l Z n0 y0 code maxLocals ret R0 G h161 175 #[.val (.int xx), .val (.int xy), .val (.int xc), .val (.int xq), .val (.int xz), .val (.int n), .val (.int v19), .val (.ref b24), .unset, .unset, .unset, .unset, .unset] [(.int v182)] 1 8 → Gl R0 n0 G (QI fun r h => (True) ∧ (r = 1)) := by
      intro v182   q183  A181
      obtain ⟨doc, e_doc⟩ : ∃ z : Int32, z = v182 := ⟨_, rfl⟩
      have A184 := A181.topI (z := doc) e_doc.symm
      have A185 := A184.istore (Ls' := #[.val (.int xx), .val (.int xy), .val (.int xc), .val (.int xq), .val (.int xz), .val (.int n), .val (.int v19), .val (.ref b24), .val (.int doc), .unset, .unset, .unset, .unset]) (pc' := 177) at_175 rfl rfl
      have A186 := A185.iloadN (v := xq) (pc' := 178) at_177 rfl rfl
      have A187 := A186.ldc (z := (2147483647 : Int32)) (pc' := 180) at_178 (hw _ (List.mem_of_getElem? (i := 2) rfl)) rfl
      have A188 := A187.iand (pc' := 181) at_180 rfl
      have A189 := A188.iload (v := n) (pc' := 183) at_181 rfl rfl
      have A190 := A189.iconst (z := (1 : Int32)) (pc' := 184) at_183 rfl rfl
      have A191 := A190.iadd (pc' := 185) at_184 rfl
      have A192 := A191.irem (pc' := 186) at_185 (fun q => by rw [q] at kn1; have z : (0 : Int32).toInt = 0 := rfl; omega) rfl
      have A193 := A192.istore (Ls' := #[.val (.int xx), .val (.int xy), .val (.int xc), .val (.int xq), .val (.int xz), .val (.int n), .val (.int v19), .val (.ref b24), .val (.int doc), .val (.int ((xq &&& (2147483647 : Int32)) % (n + (1 : Int32)))), .unset, .unset, .unset]) (pc' := 188) at_186 rfl rfl
      obtain ⟨ii, e_ii⟩ : ∃ z : Int32, z = ((xq &&& (2147483647 : Int32)) % (n + (1 : Int32))) := ⟨_, rfl⟩
      have A194 := A193.cast (Ls' := #[.val (.int xx), .val (.int xy), .val (.int xc), .val (.int xq), .val (.int xz), .val (.int n), .val (.int v19), .val (.ref b24), .val (.int doc), .val (.int ii), .unset, .unset, .unset]) rfl (by rw [e_ii]) rfl
      have ki : 0 ≤ ii.toInt ∧ ii.toInt ≤ n.toInt := by rw [e_ii]; obtain ⟨-, k1, k2⟩ := pmod32 xq (n + (1 : Int32)) _ rfl (by omega); omega
      obtain ⟨h195, b196, eb197, g198, E199, X200, D201, A202⟩ := A194.newO (C' := 2) (S' := 11) (pc' := 191) at_188 (hw _ (List.mem_of_getElem? (i := 3) rfl)) (hw _ (List.mem_of_getElem? (i := 4) rfl)) (hw _ (List.mem_of_getElem? (i := 5) rfl)) (by decide) (by decide) rfl rfl rfl
      have ne203 : b24 ≠ b196 := Nat.ne_of_lt (Nat.lt_of_lt_of_le X163.lt (Nat.le_of_eq eb197.symm))
      have f204 : Fld Z h195 b196 "com/example/best_plus_rest/bestplusrest/index/Postings" "docs" "[I" .null := D201 (Or.inl (hw _ (List.mem_of_getElem? (i := 13) rfl))) (ty := (.array .int)) (by decide)
      have f205 : Fld Z h195 b196 "com/example/best_plus_rest/bestplusrest/index/Postings" "freqs" "[I" .null := D201 (Or.inl (hw _ (List.mem_of_getElem? (i := 15) rfl))) (ty := (.array .int)) (by decide)
      have f206 : Fld Z h195 b196 "com/example/best_plus_rest/bestplusrest/index/Postings" "size" "I" (.int (0 : Int32)) := D201 (Or.inl (hw _ (List.mem_of_getElem? (i := 22) rfl))) (ty := .int) (by decide)
      have A207 := A202.dup (pc' := 192) at_191 rfl rfl
      obtain ⟨h211, ⟨b213, b214, K212, g215, z216, g217, z218, f219, f220, f221, f222, f223, f224, q210⟩, A208⟩ := W.kV (A207.callI (a := b196) (argsL := []) (rest := [(.ref b196)]) (C' := 4) (S' := 13) (pc' := 195) at_192 rfl (hw _ (List.mem_of_getElem? (i := 6) rfl)) (hw _ (List.mem_of_getElem? (i := 7) rfl)) (hw _ (List.mem_of_getElem? (i := 5) rfl)) (hw _ (List.mem_of_getElem? (i := 8) rfl)) (rm1 l Z a0 hw n0 [] (b196)  h195 A207.size X200 f204 f205 f206 g198) rfl rfl pd_3 rfl rfl (by decide) (by decide) (Nat.le_of_ble_eq_true rfl) (by decide) (by decide) rfl rfl rfl)
      have f225 := (X163.ext E199)
      have ne226 : b24 ≠ b213 := Nat.ne_of_lt (Nat.lt_of_lt_of_le f225.lt z216)
      have ne227 : b196 ≠ b213 := Nat.ne_of_lt (Nat.lt_of_lt_of_le X200.lt z216)
      have ne228 : b24 ≠ b214 := Nat.ne_of_lt (Nat.lt_of_lt_of_le f225.lt z218)
      have ne229 : b196 ≠ b214 := Nat.ne_of_lt (Nat.lt_of_lt_of_le X200.lt z218)
      have A230 := A208.astore (Ls' := #[.val (.int xx), .val (.int xy), .val (.int xc), .val (.int xq), .val (.int xz), .val (.int n), .val (.int v19), .val (.ref b24), .val (.int doc), .val (.int ii), .val (.ref b196), .unset, .unset]) (pc' := 197) at_195 rfl rfl rfl
      obtain ⟨g, e_g⟩ : ∃ g : Nat → Int32, g = (fun j => ([d0, d1, d2, d3, d4, d5, d6, d7] : List Int32).getD j 0) := ⟨_, rfl⟩
      have hinc : own_inc g 8 := by rw [e_g]; exact own_inc8 (by omega) (by omega) (by omega) (by omega) (by omega) (by omega) (by omega)
      obtain hn | hn | hn | hn | hn | hn | hn | hn := own_eight n kn
      · have A231 := A230.cast (Ls' := #[.val (.int xx), .val (.int xy), .val (.int xc), .val (.int xq), .val (.int xz), .val (.int (0 : Int32)), .val (.int v19), .val (.ref b24), .val (.int doc), .val (.int ii), .val (.ref b196), .unset, .unset]) rfl (by rw [hn]) rfl
        have hnt : n.toInt = 0 := by rw [hn]; rfl
        have A232 := A231.iload (v := (0 : Int32)) (pc' := 199) at_197 rfl rfl
        have A234 := A232.ifYes (pc' := 212) at_199 (flt (ingt (x := (0 : Int32)) (y := (0 : Int32)) rfl rfl (by decide : ¬ ((0 : Int) < 0)))).2.2.2 (by decide) (by decide)
        have A235 := A234.iload (v := (0 : Int32)) (pc' := 214) at_212 rfl rfl
        have A236 := A235.iconst (z := (1 : Int32)) (pc' := 215) at_214 rfl rfl
        have A238 := A236.icmpYes (pc' := 228) at_215 (flt (ingt (x := (0 : Int32)) (y := (1 : Int32)) rfl rfl (by decide : ¬ ((1 : Int) < 0)))).2.2.2 (by decide) (by decide)
        have A239 := A238.iload (v := (0 : Int32)) (pc' := 230) at_228 rfl rfl
        have A240 := A239.iconst (z := (2 : Int32)) (pc' := 231) at_230 rfl rfl
        have A242 := A240.icmpYes (pc' := 244) at_231 (flt (ingt (x := (0 : Int32)) (y := (2 : Int32)) rfl rfl (by decide : ¬ ((2 : Int) < 0)))).2.2.2 (by decide) (by decide)
        have A243 := A242.iload (v := (0 : Int32)) (pc' := 246) at_244 rfl rfl
        have A244 := A243.iconst (z := (3 : Int32)) (pc' := 247) at_246 rfl rfl
        have A246 := A244.icmpYes (pc' := 260) at_247 (flt (ingt (x := (0 : Int32)) (y := (3 : Int32)) rfl rfl (by decide : ¬ ((3 : Int) < 0)))).2.2.2 (by decide) (by decide)
        have A247 := A246.iload (v := (0 : Int32)) (pc' := 262) at_260 rfl rfl
        have A248 := A247.iconst (z := (4 : Int32)) (pc' := 263) at_262 rfl rfl
        have A250 := A248.icmpYes (pc' := 276) at_263 (flt (ingt (x := (0 : Int32)) (y := (4 : Int32)) rfl rfl (by decide : ¬ ((4 : Int) < 0)))).2.2.2 (by decide) (by decide)
        have A251 := A250.iload (v := (0 : Int32)) (pc' := 278) at_276 rfl rfl
        have A252 := A251.iconst (z := (5 : Int32)) (pc' := 279) at_278 rfl rfl
        have A254 := A252.icmpYes (pc' := 292) at_279 (flt (ingt (x := (0 : Int32)) (y := (5 : Int32)) rfl rfl (by decide : ¬ ((5 : Int) < 0)))).2.2.2 (by decide) (by decide)
        have A255 := A254.iload (v := (0 : Int32)) (pc' := 294) at_292 rfl rfl
        have A256 := A255.bipush (z := (6 : Int32)) (pc' := 296) at_294 rfl rfl
        have A258 := A256.icmpYes (pc' := 310) at_296 (flt (ingt (x := (0 : Int32)) (y := (6 : Int32)) rfl rfl (by decide : ¬ ((6 : Int) < 0)))).2.2.2 (by decide) (by decide)
        have A259 := A258.iload (v := (0 : Int32)) (pc' := 312) at_310 rfl rfl
        have A260 := A259.istore (Ls' := #[.val (.int xx), .val (.int xy), .val (.int xc), .val (.int xq), .val (.int xz), .val (.int (0 : Int32)), .val (.int v19), .val (.ref b24), .val (.int doc), .val (.int ii), .val (.ref b196), .val (.int (0 : Int32)), .unset]) (pc' := 314) at_312 rfl rfl
        have A261 := A260.iload (v := (0 : Int32)) (pc' := 316) at_314 rfl rfl
        have A262 := A261.bipush (z := (7 : Int32)) (pc' := 318) at_316 rfl rfl
        have A263 := A262.iload (v := ii) (pc' := 320) at_318 rfl rfl
        have A264 := A263.iload (v := (0 : Int32)) (pc' := 322) at_320 rfl rfl
        have A265 := A264.aload (v := (.ref b24)) (pc' := 324) at_322 rfl rfl rfl
        have A266 := A265.iload (v := doc) (pc' := 326) at_324 rfl rfl
        have f267 := (f225.keep K212 (ninS ne203 nin0))
        obtain ⟨r269, _, ⟨rfl, q270⟩, A268⟩ := W.kI (A266.callS (argsL := [(.int (0 : Int32)), (.int (7 : Int32)), (.int ii), (.int (0 : Int32)), (.ref b24), (.int doc)]) (rest := []) (C' := 4) (S' := 13) (pc' := 329) at_326 (hw _ (List.mem_of_getElem? (i := 35) rfl)) (hw _ (List.mem_of_getElem? (i := 36) rfl)) (hw _ (List.mem_of_getElem? (i := 37) rfl)) (hw _ (List.mem_of_getElem? (i := 38) rfl)) (rm6 l Z a0 hw n0 [] ((0 : Int32)) ((7 : Int32)) (ii) ((0 : Int32)) (b24) (doc) ((upd (upd (upd (upd (upd (upd (upd (upd (fun _ => (.int (0 : Int32))) 0 (.int d0)) 1 (.int d1)) 2 (.int d2)) 3 (.int d3)) 4 (.int d4)) 5 (.int d5)) 6 (.int d6)) 7 (.int d7))) (d7) h211 A266.size f267 (by first | (constructor <;> decide) | rfl) (by first | (constructor <;> decide) | rfl)) rfl rfl pd_4 rfl rfl (by decide) (by decide) (Nat.le_of_ble_eq_true rfl) (by decide) (by decide) rfl rfl rfl)
        have pk8 : own_from g ii.toInt 0 doc.toInt 8 ((0 : Int32)).toInt := own_from0 g ii.toInt 0 doc.toInt (by decide)
        have pk7 : own_from g ii.toInt 0 doc.toInt 7 r269.toInt := own_step g ii.toInt 0 doc.toInt 7 r269.toInt ((0 : Int32)).toInt d7.toInt (by decide) (by rw [e_g]; rfl) pk8 q270
        have A272 := A268.istore (Ls' := #[.val (.int xx), .val (.int xy), .val (.int xc), .val (.int xq), .val (.int xz), .val (.int (0 : Int32)), .val (.int v19), .val (.ref b24), .val (.int doc), .val (.int ii), .val (.ref b196), .val (.int r269), .unset]) (pc' := 331) at_329 rfl rfl
        have A273 := A272.iload (v := r269) (pc' := 333) at_331 rfl rfl
        have A274 := A273.bipush (z := (6 : Int32)) (pc' := 335) at_333 rfl rfl
        have A275 := A274.iload (v := ii) (pc' := 337) at_335 rfl rfl
        have A276 := A275.iload (v := (0 : Int32)) (pc' := 339) at_337 rfl rfl
        have A277 := A276.aload (v := (.ref b24)) (pc' := 341) at_339 rfl rfl rfl
        have A278 := A277.iload (v := doc) (pc' := 343) at_341 rfl rfl
        obtain ⟨r280, _, ⟨rfl, q281⟩, A279⟩ := W.kI (A278.callS (argsL := [(.int r269), (.int (6 : Int32)), (.int ii), (.int (0 : Int32)), (.ref b24), (.int doc)]) (rest := []) (C' := 4) (S' := 13) (pc' := 346) at_343 (hw _ (List.mem_of_getElem? (i := 35) rfl)) (hw _ (List.mem_of_getElem? (i := 36) rfl)) (hw _ (List.mem_of_getElem? (i := 37) rfl)) (hw _ (List.mem_of_getElem? (i := 38) rfl)) (rm6 l Z a0 hw n0 [] (r269) ((6 : Int32)) (ii) ((0 : Int32)) (b24) (doc) ((upd (upd (upd (upd (upd (upd (upd (upd (fun _ => (.int (0 : Int32))) 0 (.int d0)) 1 (.int d1)) 2 (.int d2)) 3 (.int d3)) 4 (.int d4)) 5 (.int d5)) 6 (.int d6)) 7 (.int d7))) (d6) h211 A278.size f267 (by first | (constructor <;> decide) | rfl) (by first | (constructor <;> decide) | rfl)) rfl rfl pd_4 rfl rfl (by decide) (by decide) (Nat.le_of_ble_eq_true rfl) (by decide) (by decide) rfl rfl rfl)
        have pk6 : own_from g ii.toInt 0 doc.toInt 6 r280.toInt := own_step g ii.toInt 0 doc.toInt 6 r280.toInt (r269).toInt d6.toInt (by decide) (by rw [e_g]; rfl) pk7 q281
        have A283 := A279.istore (Ls' := #[.val (.int xx), .val (.int xy), .val (.int xc), .val (.int xq), .val (.int xz), .val (.int (0 : Int32)), .val (.int v19), .val (.ref b24), .val (.int doc), .val (.int ii), .val (.ref b196), .val (.int r280), .unset]) (pc' := 348) at_346 rfl rfl
        have A284 := A283.iload (v := r280) (pc' := 350) at_348 rfl rfl
        have A285 := A284.iconst (z := (5 : Int32)) (pc' := 351) at_350 rfl rfl
        have A286 := A285.iload (v := ii) (pc' := 353) at_351 rfl rfl
        have A287 := A286.iload (v := (0 : Int32)) (pc' := 355) at_353 rfl rfl
        have A288 := A287.aload (v := (.ref b24)) (pc' := 357) at_355 rfl rfl rfl
        have A289 := A288.iload (v := doc) (pc' := 359) at_357 rfl rfl
        obtain ⟨r291, _, ⟨rfl, q292⟩, A290⟩ := W.kI (A289.callS (argsL := [(.int r280), (.int (5 : Int32)), (.int ii), (.int (0 : Int32)), (.ref b24), (.int doc)]) (rest := []) (C' := 4) (S' := 13) (pc' := 362) at_359 (hw _ (List.mem_of_getElem? (i := 35) rfl)) (hw _ (List.mem_of_getElem? (i := 36) rfl)) (hw _ (List.mem_of_getElem? (i := 37) rfl)) (hw _ (List.mem_of_getElem? (i := 38) rfl)) (rm6 l Z a0 hw n0 [] (r280) ((5 : Int32)) (ii) ((0 : Int32)) (b24) (doc) ((upd (upd (upd (upd (upd (upd (upd (upd (fun _ => (.int (0 : Int32))) 0 (.int d0)) 1 (.int d1)) 2 (.int d2)) 3 (.int d3)) 4 (.int d4)) 5 (.int d5)) 6 (.int d6)) 7 (.int d7))) (d5) h211 A289.size f267 (by first | (constructor <;> decide) | rfl) (by first | (constructor <;> decide) | rfl)) rfl rfl pd_4 rfl rfl (by decide) (by decide) (Nat.le_of_ble_eq_true rfl) (by decide) (by decide) rfl rfl rfl)
        have pk5 : own_from g ii.toInt 0 doc.toInt 5 r291.toInt := own_step g ii.toInt 0 doc.toInt 5 r291.toInt (r280).toInt d5.toInt (by decide) (by rw [e_g]; rfl) pk6 q292
        have A294 := A290.istore (Ls' := #[.val (.int xx), .val (.int xy), .val (.int xc), .val (.int xq), .val (.int xz), .val (.int (0 : Int32)), .val (.int v19), .val (.ref b24), .val (.int doc), .val (.int ii), .val (.ref b196), .val (.int r291), .unset]) (pc' := 364) at_362 rfl rfl
        have A295 := A294.iload (v := r291) (pc' := 366) at_364 rfl rfl
        have A296 := A295.iconst (z := (4 : Int32)) (pc' := 367) at_366 rfl rfl
        have A297 := A296.iload (v := ii) (pc' := 369) at_367 rfl rfl
        have A298 := A297.iload (v := (0 : Int32)) (pc' := 371) at_369 rfl rfl
        have A299 := A298.aload (v := (.ref b24)) (pc' := 373) at_371 rfl rfl rfl
        have A300 := A299.iload (v := doc) (pc' := 375) at_373 rfl rfl
        obtain ⟨r302, _, ⟨rfl, q303⟩, A301⟩ := W.kI (A300.callS (argsL := [(.int r291), (.int (4 : Int32)), (.int ii), (.int (0 : Int32)), (.ref b24), (.int doc)]) (rest := []) (C' := 4) (S' := 13) (pc' := 378) at_375 (hw _ (List.mem_of_getElem? (i := 35) rfl)) (hw _ (List.mem_of_getElem? (i := 36) rfl)) (hw _ (List.mem_of_getElem? (i := 37) rfl)) (hw _ (List.mem_of_getElem? (i := 38) rfl)) (rm6 l Z a0 hw n0 [] (r291) ((4 : Int32)) (ii) ((0 : Int32)) (b24) (doc) ((upd (upd (upd (upd (upd (upd (upd (upd (fun _ => (.int (0 : Int32))) 0 (.int d0)) 1 (.int d1)) 2 (.int d2)) 3 (.int d3)) 4 (.int d4)) 5 (.int d5)) 6 (.int d6)) 7 (.int d7))) (d4) h211 A300.size f267 (by first | (constructor <;> decide) | rfl) (by first | (constructor <;> decide) | rfl)) rfl rfl pd_4 rfl rfl (by decide) (by decide) (Nat.le_of_ble_eq_true rfl) (by decide) (by decide) rfl rfl rfl)
        have pk4 : own_from g ii.toInt 0 doc.toInt 4 r302.toInt := own_step g ii.toInt 0 doc.toInt 4 r302.toInt (r291).toInt d4.toInt (by decide) (by rw [e_g]; rfl) pk5 q303
        have A305 := A301.istore (Ls' := #[.val (.int xx), .val (.int xy), .val (.int xc), .val (.int xq), .val (.int xz), .val (.int (0 : Int32)), .val (.int v19), .val (.ref b24), .val (.int doc), .val (.int ii), .val (.ref b196), .val (.int r302), .unset]) (pc' := 380) at_378 rfl rfl
        have A306 := A305.iload (v := r302) (pc' := 382) at_380 rfl rfl
        have A307 := A306.iconst (z := (3 : Int32)) (pc' := 383) at_382 rfl rfl
        have A308 := A307.iload (v := ii) (pc' := 385) at_383 rfl rfl
        have A309 := A308.iload (v := (0 : Int32)) (pc' := 387) at_385 rfl rfl
        have A310 := A309.aload (v := (.ref b24)) (pc' := 389) at_387 rfl rfl rfl
        have A311 := A310.iload (v := doc) (pc' := 391) at_389 rfl rfl
        obtain ⟨r313, _, ⟨rfl, q314⟩, A312⟩ := W.kI (A311.callS (argsL := [(.int r302), (.int (3 : Int32)), (.int ii), (.int (0 : Int32)), (.ref b24), (.int doc)]) (rest := []) (C' := 4) (S' := 13) (pc' := 394) at_391 (hw _ (List.mem_of_getElem? (i := 35) rfl)) (hw _ (List.mem_of_getElem? (i := 36) rfl)) (hw _ (List.mem_of_getElem? (i := 37) rfl)) (hw _ (List.mem_of_getElem? (i := 38) rfl)) (rm6 l Z a0 hw n0 [] (r302) ((3 : Int32)) (ii) ((0 : Int32)) (b24) (doc) ((upd (upd (upd (upd (upd (upd (upd (upd (fun _ => (.int (0 : Int32))) 0 (.int d0)) 1 (.int d1)) 2 (.int d2)) 3 (.int d3)) 4 (.int d4)) 5 (.int d5)) 6 (.int d6)) 7 (.int d7))) (d3) h211 A311.size f267 (by first | (constructor <;> decide) | rfl) (by first | (constructor <;> decide) | rfl)) rfl rfl pd_4 rfl rfl (by decide) (by decide) (Nat.le_of_ble_eq_true rfl) (by decide) (by decide) rfl rfl rfl)
        have pk3 : own_from g ii.toInt 0 doc.toInt 3 r313.toInt := own_step g ii.toInt 0 doc.toInt 3 r313.toInt (r302).toInt d3.toInt (by decide) (by rw [e_g]; rfl) pk4 q314
        have A316 := A312.istore (Ls' := #[.val (.int xx), .val (.int xy), .val (.int xc), .val (.int xq), .val (.int xz), .val (.int (0 : Int32)), .val (.int v19), .val (.ref b24), .val (.int doc), .val (.int ii), .val (.ref b196), .val (.int r313), .unset]) (pc' := 396) at_394 rfl rfl
        have A317 := A316.iload (v := r313) (pc' := 398) at_396 rfl rfl
        have A318 := A317.iconst (z := (2 : Int32)) (pc' := 399) at_398 rfl rfl
        have A319 := A318.iload (v := ii) (pc' := 401) at_399 rfl rfl
        have A320 := A319.iload (v := (0 : Int32)) (pc' := 403) at_401 rfl rfl
        have A321 := A320.aload (v := (.ref b24)) (pc' := 405) at_403 rfl rfl rfl
        have A322 := A321.iload (v := doc) (pc' := 407) at_405 rfl rfl
        obtain ⟨r324, _, ⟨rfl, q325⟩, A323⟩ := W.kI (A322.callS (argsL := [(.int r313), (.int (2 : Int32)), (.int ii), (.int (0 : Int32)), (.ref b24), (.int doc)]) (rest := []) (C' := 4) (S' := 13) (pc' := 410) at_407 (hw _ (List.mem_of_getElem? (i := 35) rfl)) (hw _ (List.mem_of_getElem? (i := 36) rfl)) (hw _ (List.mem_of_getElem? (i := 37) rfl)) (hw _ (List.mem_of_getElem? (i := 38) rfl)) (rm6 l Z a0 hw n0 [] (r313) ((2 : Int32)) (ii) ((0 : Int32)) (b24) (doc) ((upd (upd (upd (upd (upd (upd (upd (upd (fun _ => (.int (0 : Int32))) 0 (.int d0)) 1 (.int d1)) 2 (.int d2)) 3 (.int d3)) 4 (.int d4)) 5 (.int d5)) 6 (.int d6)) 7 (.int d7))) (d2) h211 A322.size f267 (by first | (constructor <;> decide) | rfl) (by first | (constructor <;> decide) | rfl)) rfl rfl pd_4 rfl rfl (by decide) (by decide) (Nat.le_of_ble_eq_true rfl) (by decide) (by decide) rfl rfl rfl)
        have pk2 : own_from g ii.toInt 0 doc.toInt 2 r324.toInt := own_step g ii.toInt 0 doc.toInt 2 r324.toInt (r313).toInt d2.toInt (by decide) (by rw [e_g]; rfl) pk3 q325
        have A327 := A323.istore (Ls' := #[.val (.int xx), .val (.int xy), .val (.int xc), .val (.int xq), .val (.int xz), .val (.int (0 : Int32)), .val (.int v19), .val (.ref b24), .val (.int doc), .val (.int ii), .val (.ref b196), .val (.int r324), .unset]) (pc' := 412) at_410 rfl rfl
        have A328 := A327.iload (v := r324) (pc' := 414) at_412 rfl rfl
        have A329 := A328.iconst (z := (1 : Int32)) (pc' := 415) at_414 rfl rfl
        have A330 := A329.iload (v := ii) (pc' := 417) at_415 rfl rfl
        have A331 := A330.iload (v := (0 : Int32)) (pc' := 419) at_417 rfl rfl
        have A332 := A331.aload (v := (.ref b24)) (pc' := 421) at_419 rfl rfl rfl
        have A333 := A332.iload (v := doc) (pc' := 423) at_421 rfl rfl
        obtain ⟨r335, _, ⟨rfl, q336⟩, A334⟩ := W.kI (A333.callS (argsL := [(.int r324), (.int (1 : Int32)), (.int ii), (.int (0 : Int32)), (.ref b24), (.int doc)]) (rest := []) (C' := 4) (S' := 13) (pc' := 426) at_423 (hw _ (List.mem_of_getElem? (i := 35) rfl)) (hw _ (List.mem_of_getElem? (i := 36) rfl)) (hw _ (List.mem_of_getElem? (i := 37) rfl)) (hw _ (List.mem_of_getElem? (i := 38) rfl)) (rm6 l Z a0 hw n0 [] (r324) ((1 : Int32)) (ii) ((0 : Int32)) (b24) (doc) ((upd (upd (upd (upd (upd (upd (upd (upd (fun _ => (.int (0 : Int32))) 0 (.int d0)) 1 (.int d1)) 2 (.int d2)) 3 (.int d3)) 4 (.int d4)) 5 (.int d5)) 6 (.int d6)) 7 (.int d7))) (d1) h211 A333.size f267 (by first | (constructor <;> decide) | rfl) (by first | (constructor <;> decide) | rfl)) rfl rfl pd_4 rfl rfl (by decide) (by decide) (Nat.le_of_ble_eq_true rfl) (by decide) (by decide) rfl rfl rfl)
        have pk1 : own_from g ii.toInt 0 doc.toInt 1 r335.toInt := own_step g ii.toInt 0 doc.toInt 1 r335.toInt (r324).toInt d1.toInt (by decide) (by rw [e_g]; rfl) pk2 q336
        have A338 := A334.istore (Ls' := #[.val (.int xx), .val (.int xy), .val (.int xc), .val (.int xq), .val (.int xz), .val (.int (0 : Int32)), .val (.int v19), .val (.ref b24), .val (.int doc), .val (.int ii), .val (.ref b196), .val (.int r335), .unset]) (pc' := 428) at_426 rfl rfl
        have A339 := A338.iload (v := r335) (pc' := 430) at_428 rfl rfl
        have A340 := A339.iconst (z := (0 : Int32)) (pc' := 431) at_430 rfl rfl
        have A341 := A340.iload (v := ii) (pc' := 433) at_431 rfl rfl
        have A342 := A341.iload (v := (0 : Int32)) (pc' := 435) at_433 rfl rfl
        have A343 := A342.aload (v := (.ref b24)) (pc' := 437) at_435 rfl rfl rfl
        have A344 := A343.iload (v := doc) (pc' := 439) at_437 rfl rfl
        obtain ⟨r346, _, ⟨rfl, q347⟩, A345⟩ := W.kI (A344.callS (argsL := [(.int r335), (.int (0 : Int32)), (.int ii), (.int (0 : Int32)), (.ref b24), (.int doc)]) (rest := []) (C' := 4) (S' := 13) (pc' := 442) at_439 (hw _ (List.mem_of_getElem? (i := 35) rfl)) (hw _ (List.mem_of_getElem? (i := 36) rfl)) (hw _ (List.mem_of_getElem? (i := 37) rfl)) (hw _ (List.mem_of_getElem? (i := 38) rfl)) (rm6 l Z a0 hw n0 [] (r335) ((0 : Int32)) (ii) ((0 : Int32)) (b24) (doc) ((upd (upd (upd (upd (upd (upd (upd (upd (fun _ => (.int (0 : Int32))) 0 (.int d0)) 1 (.int d1)) 2 (.int d2)) 3 (.int d3)) 4 (.int d4)) 5 (.int d5)) 6 (.int d6)) 7 (.int d7))) (d0) h211 A344.size f267 (by first | (constructor <;> decide) | rfl) (by first | (constructor <;> decide) | rfl)) rfl rfl pd_4 rfl rfl (by decide) (by decide) (Nat.le_of_ble_eq_true rfl) (by decide) (by decide) rfl rfl rfl)
        have pk0 : own_from g ii.toInt 0 doc.toInt 0 r346.toInt := own_step g ii.toInt 0 doc.toInt 0 r346.toInt (r335).toInt d0.toInt (by decide) (by rw [e_g]; rfl) pk1 q347
        have A349 := A345.istore (Ls' := #[.val (.int xx), .val (.int xy), .val (.int xc), .val (.int xq), .val (.int xz), .val (.int (0 : Int32)), .val (.int v19), .val (.ref b24), .val (.int doc), .val (.int ii), .val (.ref b196), .val (.int r346), .unset]) (pc' := 444) at_442 rfl rfl
        have A350 := A349.aload (v := (.ref b196)) (pc' := 446) at_444 rfl rfl rfl
        have A351 := A350.iload (v := ii) (pc' := 448) at_446 rfl rfl
        have A352 := A351.iload (v := doc) (pc' := 450) at_448 rfl rfl
        have f355 := (X200.keep K212)
        obtain ⟨r354, _, ⟨rfl, q356⟩, A353⟩ := W.kI (A352.callV (a := b196) (argsL := [(.int ii), (.int doc)]) (rest := []) (C' := 4) (S' := 13) (pc' := 453) at_450 f355 (hw _ (List.mem_of_getElem? (i := 39) rfl)) (hw _ (List.mem_of_getElem? (i := 40) rfl)) (fun hZ => notFace_of_selects (args := #[]) (mvT hZ (hw _ (List.mem_of_getElem? (i := 42) rfl)))) (hw _ (List.mem_of_getElem? (i := 42) rfl)) (hw _ (List.mem_of_getElem? (i := 41) rfl)) (hw _ (List.mem_of_getElem? (i := 5) rfl)) (hw _ (List.mem_of_getElem? (i := 43) rfl)) (rm7 l Z a0 hw n0 [] (b196) (ii) (doc) (b213) (1) ((0 : Int32)) ((fun _ => (.int (0 : Int32)))) (g) h211 A352.size f219 f221 f222 (by exact ⟨ki.1, by rw [hnt] at ki; exact ki.2, by decide, by decide, fun j k h1 h2 => hinc j k h1 (Int.lt_of_lt_of_le h2 (by decide))⟩) (by intro j hj; exact absurd hj (by have : (0 : Int32).toInt = 0 := rfl; omega))) rfl rfl pd_0 rfl rfl (by decide) (by decide) (Nat.le_of_ble_eq_true rfl) (by decide) (by decide) rfl rfl rfl)
        have A358 := A353.istore (Ls' := #[.val (.int xx), .val (.int xy), .val (.int xc), .val (.int xq), .val (.int xz), .val (.int (0 : Int32)), .val (.int v19), .val (.ref b24), .val (.int doc), .val (.int ii), .val (.ref b196), .val (.int r346), .val (.int r354)]) (pc' := 455) at_453 rfl rfl
        have A359 := A358.iload (v := r354) (pc' := 457) at_455 rfl rfl
        have A360 := A359.iload (v := r346) (pc' := 459) at_457 rfl rfl
        by_cases c361 : r354.toInt = r346.toInt
        · have A362 := A360.icmpNo (pc' := 462) at_459 (teq (ieq (x := r354) (y := r346) rfl rfl c361)).2 rfl
          have A363 := A362.iconst (z := (1 : Int32)) (pc' := 463) at_462 rfl rfl
          have A364 := A363.goto (pc' := 467) at_463 (by decide) (by decide)
          refine A364.retN (t := .boolean) (z' := (1 : Int32)) at_467 (by decide) (by decide) (by simp) rfl ⟨_, rfl, ⟨trivial, ?_⟩⟩
          have elit : (1 : Int32).toInt = 1 := rfl
          rfl
        · have A365 := A360.icmpYes (pc' := 466) at_459 (feq (ine (x := r354) (y := r346) rfl rfl c361)).2 (by decide) (by decide)
          have A366 := A365.iconst (z := (0 : Int32)) (pc' := 467) at_466 rfl rfl
          refine A366.retN (t := .boolean) (z' := (0 : Int32)) at_467 (by decide) (by decide) (by simp) rfl ⟨_, rfl, ⟨trivial, ?_⟩⟩
          have elit : (0 : Int32).toInt = 0 := rfl
          exfalso
          exact c361 (own_uniq g ii.toInt 0 doc.toInt _ _ (by rw [hnt] at ki; exact ki.2) ki.1 q356 pk0)
      · have A367 := A230.cast (Ls' := #[.val (.int xx), .val (.int xy), .val (.int xc), .val (.int xq), .val (.int xz), .val (.int (1 : Int32)), .val (.int v19), .val (.ref b24), .val (.int doc), .val (.int ii), .val (.ref b196), .unset, .unset]) rfl (by rw [hn]) rfl
        have hnt : n.toInt = 1 := by rw [hn]; rfl
        have A368 := A367.iload (v := (1 : Int32)) (pc' := 199) at_197 rfl rfl
        have A370 := A368.ifNo (pc' := 202) at_199 (tlt (igt (x := (1 : Int32)) (y := (0 : Int32)) rfl rfl (by decide : (0 : Int) < 1))).2.2.2 rfl
        have A371 := A370.aload (v := (.ref b196)) (pc' := 204) at_202 rfl rfl rfl
        have A372 := A371.aload (v := (.ref b24)) (pc' := 206) at_204 rfl rfl rfl
        have A373 := A372.iconst (z := (0 : Int32)) (pc' := 207) at_206 rfl rfl
        have f374 := (f225.keep K212 (ninS ne203 nin0))
        have A375 := A373.iaload (i := 0) (v := (.int d0)) (pc' := 208) at_207 f374 rfl (by decide) rfl rfl
        have A376 := A375.iconst (z := (1 : Int32)) (pc' := 209) at_208 rfl rfl
        have f377 := (X200.keep K212)
        obtain ⟨h381, ⟨K382, f383, f384, f385, f386, f387, q380⟩, A378⟩ := W.kV (A376.callV (a := b196) (argsL := [(.int d0), (.int (1 : Int32))]) (rest := []) (C' := 4) (S' := 13) (pc' := 212) at_209 f377 (hw _ (List.mem_of_getElem? (i := 16) rfl)) (hw _ (List.mem_of_getElem? (i := 17) rfl)) (fun hZ => notFace_of_selects (args := #[]) (mvT hZ (hw _ (List.mem_of_getElem? (i := 19) rfl)))) (hw _ (List.mem_of_getElem? (i := 19) rfl)) (hw _ (List.mem_of_getElem? (i := 18) rfl)) (hw _ (List.mem_of_getElem? (i := 5) rfl)) (hw _ (List.mem_of_getElem? (i := 20) rfl)) (rm3_0 l Z a0 hw n0 [] (b196) (d0) ((1 : Int32)) (b213) (b214) ((fun _ => (.int (0 : Int32)))) ((fun _ => (.int (0 : Int32)))) h211 A376.size f377 g198 f219 f220 f221 f222 f223 g215 g217 f224 ne227 ne229) rfl rfl pd_5 rfl rfl (by decide) (by decide) (Nat.le_of_ble_eq_true rfl) (by decide) (by decide) rfl rfl rfl)
        have A388 := A378.iload (v := (1 : Int32)) (pc' := 214) at_212 rfl rfl
        have A389 := A388.iconst (z := (1 : Int32)) (pc' := 215) at_214 rfl rfl
        have A391 := A389.icmpYes (pc' := 228) at_215 (flt (ingt (x := (1 : Int32)) (y := (1 : Int32)) rfl rfl (by decide : ¬ ((1 : Int) < 1)))).2.2.2 (by decide) (by decide)
        have A392 := A391.iload (v := (1 : Int32)) (pc' := 230) at_228 rfl rfl
        have A393 := A392.iconst (z := (2 : Int32)) (pc' := 231) at_230 rfl rfl
        have A395 := A393.icmpYes (pc' := 244) at_231 (flt (ingt (x := (1 : Int32)) (y := (2 : Int32)) rfl rfl (by decide : ¬ ((2 : Int) < 1)))).2.2.2 (by decide) (by decide)
        have A396 := A395.iload (v := (1 : Int32)) (pc' := 246) at_244 rfl rfl
        have A397 := A396.iconst (z := (3 : Int32)) (pc' := 247) at_246 rfl rfl
        have A399 := A397.icmpYes (pc' := 260) at_247 (flt (ingt (x := (1 : Int32)) (y := (3 : Int32)) rfl rfl (by decide : ¬ ((3 : Int) < 1)))).2.2.2 (by decide) (by decide)
        have A400 := A399.iload (v := (1 : Int32)) (pc' := 262) at_260 rfl rfl
        have A401 := A400.iconst (z := (4 : Int32)) (pc' := 263) at_262 rfl rfl
        have A403 := A401.icmpYes (pc' := 276) at_263 (flt (ingt (x := (1 : Int32)) (y := (4 : Int32)) rfl rfl (by decide : ¬ ((4 : Int) < 1)))).2.2.2 (by decide) (by decide)
        have A404 := A403.iload (v := (1 : Int32)) (pc' := 278) at_276 rfl rfl
        have A405 := A404.iconst (z := (5 : Int32)) (pc' := 279) at_278 rfl rfl
        have A407 := A405.icmpYes (pc' := 292) at_279 (flt (ingt (x := (1 : Int32)) (y := (5 : Int32)) rfl rfl (by decide : ¬ ((5 : Int) < 1)))).2.2.2 (by decide) (by decide)
        have A408 := A407.iload (v := (1 : Int32)) (pc' := 294) at_292 rfl rfl
        have A409 := A408.bipush (z := (6 : Int32)) (pc' := 296) at_294 rfl rfl
        have A411 := A409.icmpYes (pc' := 310) at_296 (flt (ingt (x := (1 : Int32)) (y := (6 : Int32)) rfl rfl (by decide : ¬ ((6 : Int) < 1)))).2.2.2 (by decide) (by decide)
        have A412 := A411.iload (v := (1 : Int32)) (pc' := 312) at_310 rfl rfl
        have A413 := A412.istore (Ls' := #[.val (.int xx), .val (.int xy), .val (.int xc), .val (.int xq), .val (.int xz), .val (.int (1 : Int32)), .val (.int v19), .val (.ref b24), .val (.int doc), .val (.int ii), .val (.ref b196), .val (.int (1 : Int32)), .unset]) (pc' := 314) at_312 rfl rfl
        have A414 := A413.iload (v := (1 : Int32)) (pc' := 316) at_314 rfl rfl
        have A415 := A414.bipush (z := (7 : Int32)) (pc' := 318) at_316 rfl rfl
        have A416 := A415.iload (v := ii) (pc' := 320) at_318 rfl rfl
        have A417 := A416.iload (v := (1 : Int32)) (pc' := 322) at_320 rfl rfl
        have A418 := A417.aload (v := (.ref b24)) (pc' := 324) at_322 rfl rfl rfl
        have A419 := A418.iload (v := doc) (pc' := 326) at_324 rfl rfl
        have f420 := (f374.keep K382 (ninS ne203 (ninS ne226 (ninS ne228 nin0))))
        obtain ⟨r422, _, ⟨rfl, q423⟩, A421⟩ := W.kI (A419.callS (argsL := [(.int (1 : Int32)), (.int (7 : Int32)), (.int ii), (.int (1 : Int32)), (.ref b24), (.int doc)]) (rest := []) (C' := 4) (S' := 13) (pc' := 329) at_326 (hw _ (List.mem_of_getElem? (i := 35) rfl)) (hw _ (List.mem_of_getElem? (i := 36) rfl)) (hw _ (List.mem_of_getElem? (i := 37) rfl)) (hw _ (List.mem_of_getElem? (i := 38) rfl)) (rm6 l Z a0 hw n0 [] ((1 : Int32)) ((7 : Int32)) (ii) ((1 : Int32)) (b24) (doc) ((upd (upd (upd (upd (upd (upd (upd (upd (fun _ => (.int (0 : Int32))) 0 (.int d0)) 1 (.int d1)) 2 (.int d2)) 3 (.int d3)) 4 (.int d4)) 5 (.int d5)) 6 (.int d6)) 7 (.int d7))) (d7) h381 A419.size f420 (by first | (constructor <;> decide) | rfl) (by first | (constructor <;> decide) | rfl)) rfl rfl pd_4 rfl rfl (by decide) (by decide) (Nat.le_of_ble_eq_true rfl) (by decide) (by decide) rfl rfl rfl)
        have pk8 : own_from g ii.toInt 1 doc.toInt 8 ((1 : Int32)).toInt := own_from0 g ii.toInt 1 doc.toInt (by decide)
        have pk7 : own_from g ii.toInt 1 doc.toInt 7 r422.toInt := own_step g ii.toInt 1 doc.toInt 7 r422.toInt ((1 : Int32)).toInt d7.toInt (by decide) (by rw [e_g]; rfl) pk8 q423
        have A425 := A421.istore (Ls' := #[.val (.int xx), .val (.int xy), .val (.int xc), .val (.int xq), .val (.int xz), .val (.int (1 : Int32)), .val (.int v19), .val (.ref b24), .val (.int doc), .val (.int ii), .val (.ref b196), .val (.int r422), .unset]) (pc' := 331) at_329 rfl rfl
        have A426 := A425.iload (v := r422) (pc' := 333) at_331 rfl rfl
        have A427 := A426.bipush (z := (6 : Int32)) (pc' := 335) at_333 rfl rfl
        have A428 := A427.iload (v := ii) (pc' := 337) at_335 rfl rfl
        have A429 := A428.iload (v := (1 : Int32)) (pc' := 339) at_337 rfl rfl
        have A430 := A429.aload (v := (.ref b24)) (pc' := 341) at_339 rfl rfl rfl
        have A431 := A430.iload (v := doc) (pc' := 343) at_341 rfl rfl
        obtain ⟨r433, _, ⟨rfl, q434⟩, A432⟩ := W.kI (A431.callS (argsL := [(.int r422), (.int (6 : Int32)), (.int ii), (.int (1 : Int32)), (.ref b24), (.int doc)]) (rest := []) (C' := 4) (S' := 13) (pc' := 346) at_343 (hw _ (List.mem_of_getElem? (i := 35) rfl)) (hw _ (List.mem_of_getElem? (i := 36) rfl)) (hw _ (List.mem_of_getElem? (i := 37) rfl)) (hw _ (List.mem_of_getElem? (i := 38) rfl)) (rm6 l Z a0 hw n0 [] (r422) ((6 : Int32)) (ii) ((1 : Int32)) (b24) (doc) ((upd (upd (upd (upd (upd (upd (upd (upd (fun _ => (.int (0 : Int32))) 0 (.int d0)) 1 (.int d1)) 2 (.int d2)) 3 (.int d3)) 4 (.int d4)) 5 (.int d5)) 6 (.int d6)) 7 (.int d7))) (d6) h381 A431.size f420 (by first | (constructor <;> decide) | rfl) (by first | (constructor <;> decide) | rfl)) rfl rfl pd_4 rfl rfl (by decide) (by decide) (Nat.le_of_ble_eq_true rfl) (by decide) (by decide) rfl rfl rfl)
        have pk6 : own_from g ii.toInt 1 doc.toInt 6 r433.toInt := own_step g ii.toInt 1 doc.toInt 6 r433.toInt (r422).toInt d6.toInt (by decide) (by rw [e_g]; rfl) pk7 q434
        have A436 := A432.istore (Ls' := #[.val (.int xx), .val (.int xy), .val (.int xc), .val (.int xq), .val (.int xz), .val (.int (1 : Int32)), .val (.int v19), .val (.ref b24), .val (.int doc), .val (.int ii), .val (.ref b196), .val (.int r433), .unset]) (pc' := 348) at_346 rfl rfl
        have A437 := A436.iload (v := r433) (pc' := 350) at_348 rfl rfl
        have A438 := A437.iconst (z := (5 : Int32)) (pc' := 351) at_350 rfl rfl
        have A439 := A438.iload (v := ii) (pc' := 353) at_351 rfl rfl
        have A440 := A439.iload (v := (1 : Int32)) (pc' := 355) at_353 rfl rfl
        have A441 := A440.aload (v := (.ref b24)) (pc' := 357) at_355 rfl rfl rfl
        have A442 := A441.iload (v := doc) (pc' := 359) at_357 rfl rfl
        obtain ⟨r444, _, ⟨rfl, q445⟩, A443⟩ := W.kI (A442.callS (argsL := [(.int r433), (.int (5 : Int32)), (.int ii), (.int (1 : Int32)), (.ref b24), (.int doc)]) (rest := []) (C' := 4) (S' := 13) (pc' := 362) at_359 (hw _ (List.mem_of_getElem? (i := 35) rfl)) (hw _ (List.mem_of_getElem? (i := 36) rfl)) (hw _ (List.mem_of_getElem? (i := 37) rfl)) (hw _ (List.mem_of_getElem? (i := 38) rfl)) (rm6 l Z a0 hw n0 [] (r433) ((5 : Int32)) (ii) ((1 : Int32)) (b24) (doc) ((upd (upd (upd (upd (upd (upd (upd (upd (fun _ => (.int (0 : Int32))) 0 (.int d0)) 1 (.int d1)) 2 (.int d2)) 3 (.int d3)) 4 (.int d4)) 5 (.int d5)) 6 (.int d6)) 7 (.int d7))) (d5) h381 A442.size f420 (by first | (constructor <;> decide) | rfl) (by first | (constructor <;> decide) | rfl)) rfl rfl pd_4 rfl rfl (by decide) (by decide) (Nat.le_of_ble_eq_true rfl) (by decide) (by decide) rfl rfl rfl)
        have pk5 : own_from g ii.toInt 1 doc.toInt 5 r444.toInt := own_step g ii.toInt 1 doc.toInt 5 r444.toInt (r433).toInt d5.toInt (by decide) (by rw [e_g]; rfl) pk6 q445
        have A447 := A443.istore (Ls' := #[.val (.int xx), .val (.int xy), .val (.int xc), .val (.int xq), .val (.int xz), .val (.int (1 : Int32)), .val (.int v19), .val (.ref b24), .val (.int doc), .val (.int ii), .val (.ref b196), .val (.int r444), .unset]) (pc' := 364) at_362 rfl rfl
        have A448 := A447.iload (v := r444) (pc' := 366) at_364 rfl rfl
        have A449 := A448.iconst (z := (4 : Int32)) (pc' := 367) at_366 rfl rfl
        have A450 := A449.iload (v := ii) (pc' := 369) at_367 rfl rfl
        have A451 := A450.iload (v := (1 : Int32)) (pc' := 371) at_369 rfl rfl
        have A452 := A451.aload (v := (.ref b24)) (pc' := 373) at_371 rfl rfl rfl
        have A453 := A452.iload (v := doc) (pc' := 375) at_373 rfl rfl
        obtain ⟨r455, _, ⟨rfl, q456⟩, A454⟩ := W.kI (A453.callS (argsL := [(.int r444), (.int (4 : Int32)), (.int ii), (.int (1 : Int32)), (.ref b24), (.int doc)]) (rest := []) (C' := 4) (S' := 13) (pc' := 378) at_375 (hw _ (List.mem_of_getElem? (i := 35) rfl)) (hw _ (List.mem_of_getElem? (i := 36) rfl)) (hw _ (List.mem_of_getElem? (i := 37) rfl)) (hw _ (List.mem_of_getElem? (i := 38) rfl)) (rm6 l Z a0 hw n0 [] (r444) ((4 : Int32)) (ii) ((1 : Int32)) (b24) (doc) ((upd (upd (upd (upd (upd (upd (upd (upd (fun _ => (.int (0 : Int32))) 0 (.int d0)) 1 (.int d1)) 2 (.int d2)) 3 (.int d3)) 4 (.int d4)) 5 (.int d5)) 6 (.int d6)) 7 (.int d7))) (d4) h381 A453.size f420 (by first | (constructor <;> decide) | rfl) (by first | (constructor <;> decide) | rfl)) rfl rfl pd_4 rfl rfl (by decide) (by decide) (Nat.le_of_ble_eq_true rfl) (by decide) (by decide) rfl rfl rfl)
        have pk4 : own_from g ii.toInt 1 doc.toInt 4 r455.toInt := own_step g ii.toInt 1 doc.toInt 4 r455.toInt (r444).toInt d4.toInt (by decide) (by rw [e_g]; rfl) pk5 q456
        have A458 := A454.istore (Ls' := #[.val (.int xx), .val (.int xy), .val (.int xc), .val (.int xq), .val (.int xz), .val (.int (1 : Int32)), .val (.int v19), .val (.ref b24), .val (.int doc), .val (.int ii), .val (.ref b196), .val (.int r455), .unset]) (pc' := 380) at_378 rfl rfl
        have A459 := A458.iload (v := r455) (pc' := 382) at_380 rfl rfl
        have A460 := A459.iconst (z := (3 : Int32)) (pc' := 383) at_382 rfl rfl
        have A461 := A460.iload (v := ii) (pc' := 385) at_383 rfl rfl
        have A462 := A461.iload (v := (1 : Int32)) (pc' := 387) at_385 rfl rfl
        have A463 := A462.aload (v := (.ref b24)) (pc' := 389) at_387 rfl rfl rfl
        have A464 := A463.iload (v := doc) (pc' := 391) at_389 rfl rfl
        obtain ⟨r466, _, ⟨rfl, q467⟩, A465⟩ := W.kI (A464.callS (argsL := [(.int r455), (.int (3 : Int32)), (.int ii), (.int (1 : Int32)), (.ref b24), (.int doc)]) (rest := []) (C' := 4) (S' := 13) (pc' := 394) at_391 (hw _ (List.mem_of_getElem? (i := 35) rfl)) (hw _ (List.mem_of_getElem? (i := 36) rfl)) (hw _ (List.mem_of_getElem? (i := 37) rfl)) (hw _ (List.mem_of_getElem? (i := 38) rfl)) (rm6 l Z a0 hw n0 [] (r455) ((3 : Int32)) (ii) ((1 : Int32)) (b24) (doc) ((upd (upd (upd (upd (upd (upd (upd (upd (fun _ => (.int (0 : Int32))) 0 (.int d0)) 1 (.int d1)) 2 (.int d2)) 3 (.int d3)) 4 (.int d4)) 5 (.int d5)) 6 (.int d6)) 7 (.int d7))) (d3) h381 A464.size f420 (by first | (constructor <;> decide) | rfl) (by first | (constructor <;> decide) | rfl)) rfl rfl pd_4 rfl rfl (by decide) (by decide) (Nat.le_of_ble_eq_true rfl) (by decide) (by decide) rfl rfl rfl)
        have pk3 : own_from g ii.toInt 1 doc.toInt 3 r466.toInt := own_step g ii.toInt 1 doc.toInt 3 r466.toInt (r455).toInt d3.toInt (by decide) (by rw [e_g]; rfl) pk4 q467
        have A469 := A465.istore (Ls' := #[.val (.int xx), .val (.int xy), .val (.int xc), .val (.int xq), .val (.int xz), .val (.int (1 : Int32)), .val (.int v19), .val (.ref b24), .val (.int doc), .val (.int ii), .val (.ref b196), .val (.int r466), .unset]) (pc' := 396) at_394 rfl rfl
        have A470 := A469.iload (v := r466) (pc' := 398) at_396 rfl rfl
        have A471 := A470.iconst (z := (2 : Int32)) (pc' := 399) at_398 rfl rfl
        have A472 := A471.iload (v := ii) (pc' := 401) at_399 rfl rfl
        have A473 := A472.iload (v := (1 : Int32)) (pc' := 403) at_401 rfl rfl
        have A474 := A473.aload (v := (.ref b24)) (pc' := 405) at_403 rfl rfl rfl
        have A475 := A474.iload (v := doc) (pc' := 407) at_405 rfl rfl
        obtain ⟨r477, _, ⟨rfl, q478⟩, A476⟩ := W.kI (A475.callS (argsL := [(.int r466), (.int (2 : Int32)), (.int ii), (.int (1 : Int32)), (.ref b24), (.int doc)]) (rest := []) (C' := 4) (S' := 13) (pc' := 410) at_407 (hw _ (List.mem_of_getElem? (i := 35) rfl)) (hw _ (List.mem_of_getElem? (i := 36) rfl)) (hw _ (List.mem_of_getElem? (i := 37) rfl)) (hw _ (List.mem_of_getElem? (i := 38) rfl)) (rm6 l Z a0 hw n0 [] (r466) ((2 : Int32)) (ii) ((1 : Int32)) (b24) (doc) ((upd (upd (upd (upd (upd (upd (upd (upd (fun _ => (.int (0 : Int32))) 0 (.int d0)) 1 (.int d1)) 2 (.int d2)) 3 (.int d3)) 4 (.int d4)) 5 (.int d5)) 6 (.int d6)) 7 (.int d7))) (d2) h381 A475.size f420 (by first | (constructor <;> decide) | rfl) (by first | (constructor <;> decide) | rfl)) rfl rfl pd_4 rfl rfl (by decide) (by decide) (Nat.le_of_ble_eq_true rfl) (by decide) (by decide) rfl rfl rfl)
        have pk2 : own_from g ii.toInt 1 doc.toInt 2 r477.toInt := own_step g ii.toInt 1 doc.toInt 2 r477.toInt (r466).toInt d2.toInt (by decide) (by rw [e_g]; rfl) pk3 q478
        have A480 := A476.istore (Ls' := #[.val (.int xx), .val (.int xy), .val (.int xc), .val (.int xq), .val (.int xz), .val (.int (1 : Int32)), .val (.int v19), .val (.ref b24), .val (.int doc), .val (.int ii), .val (.ref b196), .val (.int r477), .unset]) (pc' := 412) at_410 rfl rfl
        have A481 := A480.iload (v := r477) (pc' := 414) at_412 rfl rfl
        have A482 := A481.iconst (z := (1 : Int32)) (pc' := 415) at_414 rfl rfl
        have A483 := A482.iload (v := ii) (pc' := 417) at_415 rfl rfl
        have A484 := A483.iload (v := (1 : Int32)) (pc' := 419) at_417 rfl rfl
        have A485 := A484.aload (v := (.ref b24)) (pc' := 421) at_419 rfl rfl rfl
        have A486 := A485.iload (v := doc) (pc' := 423) at_421 rfl rfl
        obtain ⟨r488, _, ⟨rfl, q489⟩, A487⟩ := W.kI (A486.callS (argsL := [(.int r477), (.int (1 : Int32)), (.int ii), (.int (1 : Int32)), (.ref b24), (.int doc)]) (rest := []) (C' := 4) (S' := 13) (pc' := 426) at_423 (hw _ (List.mem_of_getElem? (i := 35) rfl)) (hw _ (List.mem_of_getElem? (i := 36) rfl)) (hw _ (List.mem_of_getElem? (i := 37) rfl)) (hw _ (List.mem_of_getElem? (i := 38) rfl)) (rm6 l Z a0 hw n0 [] (r477) ((1 : Int32)) (ii) ((1 : Int32)) (b24) (doc) ((upd (upd (upd (upd (upd (upd (upd (upd (fun _ => (.int (0 : Int32))) 0 (.int d0)) 1 (.int d1)) 2 (.int d2)) 3 (.int d3)) 4 (.int d4)) 5 (.int d5)) 6 (.int d6)) 7 (.int d7))) (d1) h381 A486.size f420 (by first | (constructor <;> decide) | rfl) (by first | (constructor <;> decide) | rfl)) rfl rfl pd_4 rfl rfl (by decide) (by decide) (Nat.le_of_ble_eq_true rfl) (by decide) (by decide) rfl rfl rfl)
        have pk1 : own_from g ii.toInt 1 doc.toInt 1 r488.toInt := own_step g ii.toInt 1 doc.toInt 1 r488.toInt (r477).toInt d1.toInt (by decide) (by rw [e_g]; rfl) pk2 q489
        have A491 := A487.istore (Ls' := #[.val (.int xx), .val (.int xy), .val (.int xc), .val (.int xq), .val (.int xz), .val (.int (1 : Int32)), .val (.int v19), .val (.ref b24), .val (.int doc), .val (.int ii), .val (.ref b196), .val (.int r488), .unset]) (pc' := 428) at_426 rfl rfl
        have A492 := A491.iload (v := r488) (pc' := 430) at_428 rfl rfl
        have A493 := A492.iconst (z := (0 : Int32)) (pc' := 431) at_430 rfl rfl
        have A494 := A493.iload (v := ii) (pc' := 433) at_431 rfl rfl
        have A495 := A494.iload (v := (1 : Int32)) (pc' := 435) at_433 rfl rfl
        have A496 := A495.aload (v := (.ref b24)) (pc' := 437) at_435 rfl rfl rfl
        have A497 := A496.iload (v := doc) (pc' := 439) at_437 rfl rfl
        obtain ⟨r499, _, ⟨rfl, q500⟩, A498⟩ := W.kI (A497.callS (argsL := [(.int r488), (.int (0 : Int32)), (.int ii), (.int (1 : Int32)), (.ref b24), (.int doc)]) (rest := []) (C' := 4) (S' := 13) (pc' := 442) at_439 (hw _ (List.mem_of_getElem? (i := 35) rfl)) (hw _ (List.mem_of_getElem? (i := 36) rfl)) (hw _ (List.mem_of_getElem? (i := 37) rfl)) (hw _ (List.mem_of_getElem? (i := 38) rfl)) (rm6 l Z a0 hw n0 [] (r488) ((0 : Int32)) (ii) ((1 : Int32)) (b24) (doc) ((upd (upd (upd (upd (upd (upd (upd (upd (fun _ => (.int (0 : Int32))) 0 (.int d0)) 1 (.int d1)) 2 (.int d2)) 3 (.int d3)) 4 (.int d4)) 5 (.int d5)) 6 (.int d6)) 7 (.int d7))) (d0) h381 A497.size f420 (by first | (constructor <;> decide) | rfl) (by first | (constructor <;> decide) | rfl)) rfl rfl pd_4 rfl rfl (by decide) (by decide) (Nat.le_of_ble_eq_true rfl) (by decide) (by decide) rfl rfl rfl)
        have pk0 : own_from g ii.toInt 1 doc.toInt 0 r499.toInt := own_step g ii.toInt 1 doc.toInt 0 r499.toInt (r488).toInt d0.toInt (by decide) (by rw [e_g]; rfl) pk1 q500
        have A502 := A498.istore (Ls' := #[.val (.int xx), .val (.int xy), .val (.int xc), .val (.int xq), .val (.int xz), .val (.int (1 : Int32)), .val (.int v19), .val (.ref b24), .val (.int doc), .val (.int ii), .val (.ref b196), .val (.int r499), .unset]) (pc' := 444) at_442 rfl rfl
        have A503 := A502.aload (v := (.ref b196)) (pc' := 446) at_444 rfl rfl rfl
        have A504 := A503.iload (v := ii) (pc' := 448) at_446 rfl rfl
        have A505 := A504.iload (v := doc) (pc' := 450) at_448 rfl rfl
        have f508 := (f377.keep K382)
        obtain ⟨r507, _, ⟨rfl, q509⟩, A506⟩ := W.kI (A505.callV (a := b196) (argsL := [(.int ii), (.int doc)]) (rest := []) (C' := 4) (S' := 13) (pc' := 453) at_450 f508 (hw _ (List.mem_of_getElem? (i := 39) rfl)) (hw _ (List.mem_of_getElem? (i := 40) rfl)) (fun hZ => notFace_of_selects (args := #[]) (mvT hZ (hw _ (List.mem_of_getElem? (i := 42) rfl)))) (hw _ (List.mem_of_getElem? (i := 42) rfl)) (hw _ (List.mem_of_getElem? (i := 41) rfl)) (hw _ (List.mem_of_getElem? (i := 5) rfl)) (hw _ (List.mem_of_getElem? (i := 43) rfl)) (rm7 l Z a0 hw n0 [] (b196) (ii) (doc) (b213) (1) ((1 : Int32)) ((upd (fun _ => (.int (0 : Int32))) 0 (.int d0))) (g) h381 A505.size f383 f385 f386 (by exact ⟨ki.1, by rw [hnt] at ki; exact ki.2, by decide, by decide, fun j k h1 h2 => hinc j k h1 (Int.lt_of_lt_of_le h2 (by decide))⟩) (by intro j hj; have lz : (1 : Int32).toInt = 1 := rfl; have hj' : j = 0 := (by omega); rw [e_g]; subst hj'; rfl)) rfl rfl pd_0 rfl rfl (by decide) (by decide) (Nat.le_of_ble_eq_true rfl) (by decide) (by decide) rfl rfl rfl)
        have A511 := A506.istore (Ls' := #[.val (.int xx), .val (.int xy), .val (.int xc), .val (.int xq), .val (.int xz), .val (.int (1 : Int32)), .val (.int v19), .val (.ref b24), .val (.int doc), .val (.int ii), .val (.ref b196), .val (.int r499), .val (.int r507)]) (pc' := 455) at_453 rfl rfl
        have A512 := A511.iload (v := r507) (pc' := 457) at_455 rfl rfl
        have A513 := A512.iload (v := r499) (pc' := 459) at_457 rfl rfl
        by_cases c514 : r507.toInt = r499.toInt
        · have A515 := A513.icmpNo (pc' := 462) at_459 (teq (ieq (x := r507) (y := r499) rfl rfl c514)).2 rfl
          have A516 := A515.iconst (z := (1 : Int32)) (pc' := 463) at_462 rfl rfl
          have A517 := A516.goto (pc' := 467) at_463 (by decide) (by decide)
          refine A517.retN (t := .boolean) (z' := (1 : Int32)) at_467 (by decide) (by decide) (by simp) rfl ⟨_, rfl, ⟨trivial, ?_⟩⟩
          have elit : (1 : Int32).toInt = 1 := rfl
          rfl
        · have A518 := A513.icmpYes (pc' := 466) at_459 (feq (ine (x := r507) (y := r499) rfl rfl c514)).2 (by decide) (by decide)
          have A519 := A518.iconst (z := (0 : Int32)) (pc' := 467) at_466 rfl rfl
          refine A519.retN (t := .boolean) (z' := (0 : Int32)) at_467 (by decide) (by decide) (by simp) rfl ⟨_, rfl, ⟨trivial, ?_⟩⟩
          have elit : (0 : Int32).toInt = 0 := rfl
          exfalso
          exact c514 (own_uniq g ii.toInt 1 doc.toInt _ _ (by rw [hnt] at ki; exact ki.2) ki.1 q509 pk0)
      · have A520 := A230.cast (Ls' := #[.val (.int xx), .val (.int xy), .val (.int xc), .val (.int xq), .val (.int xz), .val (.int (2 : Int32)), .val (.int v19), .val (.ref b24), .val (.int doc), .val (.int ii), .val (.ref b196), .unset, .unset]) rfl (by rw [hn]) rfl
        have hnt : n.toInt = 2 := by rw [hn]; rfl
        have A521 := A520.iload (v := (2 : Int32)) (pc' := 199) at_197 rfl rfl
        have A523 := A521.ifNo (pc' := 202) at_199 (tlt (igt (x := (2 : Int32)) (y := (0 : Int32)) rfl rfl (by decide : (0 : Int) < 2))).2.2.2 rfl
        have A524 := A523.aload (v := (.ref b196)) (pc' := 204) at_202 rfl rfl rfl
        have A525 := A524.aload (v := (.ref b24)) (pc' := 206) at_204 rfl rfl rfl
        have A526 := A525.iconst (z := (0 : Int32)) (pc' := 207) at_206 rfl rfl
        have f527 := (f225.keep K212 (ninS ne203 nin0))
        have A528 := A526.iaload (i := 0) (v := (.int d0)) (pc' := 208) at_207 f527 rfl (by decide) rfl rfl
        have A529 := A528.iconst (z := (1 : Int32)) (pc' := 209) at_208 rfl rfl
        have f530 := (X200.keep K212)
        obtain ⟨h534, ⟨K535, f536, f537, f538, f539, f540, q533⟩, A531⟩ := W.kV (A529.callV (a := b196) (argsL := [(.int d0), (.int (1 : Int32))]) (rest := []) (C' := 4) (S' := 13) (pc' := 212) at_209 f530 (hw _ (List.mem_of_getElem? (i := 16) rfl)) (hw _ (List.mem_of_getElem? (i := 17) rfl)) (fun hZ => notFace_of_selects (args := #[]) (mvT hZ (hw _ (List.mem_of_getElem? (i := 19) rfl)))) (hw _ (List.mem_of_getElem? (i := 19) rfl)) (hw _ (List.mem_of_getElem? (i := 18) rfl)) (hw _ (List.mem_of_getElem? (i := 5) rfl)) (hw _ (List.mem_of_getElem? (i := 20) rfl)) (rm3_0 l Z a0 hw n0 [] (b196) (d0) ((1 : Int32)) (b213) (b214) ((fun _ => (.int (0 : Int32)))) ((fun _ => (.int (0 : Int32)))) h211 A529.size f530 g198 f219 f220 f221 f222 f223 g215 g217 f224 ne227 ne229) rfl rfl pd_5 rfl rfl (by decide) (by decide) (Nat.le_of_ble_eq_true rfl) (by decide) (by decide) rfl rfl rfl)
        have A541 := A531.iload (v := (2 : Int32)) (pc' := 214) at_212 rfl rfl
        have A542 := A541.iconst (z := (1 : Int32)) (pc' := 215) at_214 rfl rfl
        have A544 := A542.icmpNo (pc' := 218) at_215 (tlt (igt (x := (2 : Int32)) (y := (1 : Int32)) rfl rfl (by decide : (1 : Int) < 2))).2.2.2 rfl
        have A545 := A544.aload (v := (.ref b196)) (pc' := 220) at_218 rfl rfl rfl
        have A546 := A545.aload (v := (.ref b24)) (pc' := 222) at_220 rfl rfl rfl
        have A547 := A546.iconst (z := (1 : Int32)) (pc' := 223) at_222 rfl rfl
        have f548 := (f527.keep K535 (ninS ne203 (ninS ne226 (ninS ne228 nin0))))
        have A549 := A547.iaload (i := 1) (v := (.int d1)) (pc' := 224) at_223 f548 rfl (by decide) rfl rfl
        have A550 := A549.iconst (z := (1 : Int32)) (pc' := 225) at_224 rfl rfl
        have f551 := (f530.keep K535)
        obtain ⟨h555, ⟨b557, b558, K556, g559, z560, g561, z562, f563, f564, f565, f566, f567, f568, q554⟩, A552⟩ := W.kV (A550.callV (a := b196) (argsL := [(.int d1), (.int (1 : Int32))]) (rest := []) (C' := 6) (S' := 17) (pc' := 228) at_225 f551 (hw _ (List.mem_of_getElem? (i := 16) rfl)) (hw _ (List.mem_of_getElem? (i := 17) rfl)) (fun hZ => notFace_of_selects (args := #[]) (mvT hZ (hw _ (List.mem_of_getElem? (i := 19) rfl)))) (hw _ (List.mem_of_getElem? (i := 19) rfl)) (hw _ (List.mem_of_getElem? (i := 18) rfl)) (hw _ (List.mem_of_getElem? (i := 5) rfl)) (hw _ (List.mem_of_getElem? (i := 20) rfl)) (rm3_1 l Z a0 hw n0 [] (b196) (d1) ((1 : Int32)) (b213) (b214) ((upd (fun _ => (.int (0 : Int32))) 0 (.int d0))) ((upd (fun _ => (.int (0 : Int32))) 0 (.int (1 : Int32)))) h534 A550.size f551 g198 f536 f537 f538 f539 f540 g215 g217 f224 ne227 ne229) rfl rfl pd_5 rfl rfl (by decide) (by decide) (Nat.le_of_ble_eq_true rfl) (by decide) (by decide) rfl rfl rfl)
        have ne569 : b24 ≠ b557 := Nat.ne_of_lt (Nat.lt_of_lt_of_le f548.lt z560)
        have ne570 : b196 ≠ b557 := Nat.ne_of_lt (Nat.lt_of_lt_of_le f551.lt z560)
        have ne571 : b213 ≠ b557 := Nat.ne_of_lt (Nat.lt_of_lt_of_le f539.lt z560)
        have ne572 : b214 ≠ b557 := Nat.ne_of_lt (Nat.lt_of_lt_of_le f540.lt z560)
        have ne573 : b24 ≠ b558 := Nat.ne_of_lt (Nat.lt_of_lt_of_le f548.lt z562)
        have ne574 : b196 ≠ b558 := Nat.ne_of_lt (Nat.lt_of_lt_of_le f551.lt z562)
        have ne575 : b213 ≠ b558 := Nat.ne_of_lt (Nat.lt_of_lt_of_le f539.lt z562)
        have ne576 : b214 ≠ b558 := Nat.ne_of_lt (Nat.lt_of_lt_of_le f540.lt z562)
        have A577 := A552.iload (v := (2 : Int32)) (pc' := 230) at_228 rfl rfl
        have A578 := A577.iconst (z := (2 : Int32)) (pc' := 231) at_230 rfl rfl
        have A580 := A578.icmpYes (pc' := 244) at_231 (flt (ingt (x := (2 : Int32)) (y := (2 : Int32)) rfl rfl (by decide : ¬ ((2 : Int) < 2)))).2.2.2 (by decide) (by decide)
        have A581 := A580.iload (v := (2 : Int32)) (pc' := 246) at_244 rfl rfl
        have A582 := A581.iconst (z := (3 : Int32)) (pc' := 247) at_246 rfl rfl
        have A584 := A582.icmpYes (pc' := 260) at_247 (flt (ingt (x := (2 : Int32)) (y := (3 : Int32)) rfl rfl (by decide : ¬ ((3 : Int) < 2)))).2.2.2 (by decide) (by decide)
        have A585 := A584.iload (v := (2 : Int32)) (pc' := 262) at_260 rfl rfl
        have A586 := A585.iconst (z := (4 : Int32)) (pc' := 263) at_262 rfl rfl
        have A588 := A586.icmpYes (pc' := 276) at_263 (flt (ingt (x := (2 : Int32)) (y := (4 : Int32)) rfl rfl (by decide : ¬ ((4 : Int) < 2)))).2.2.2 (by decide) (by decide)
        have A589 := A588.iload (v := (2 : Int32)) (pc' := 278) at_276 rfl rfl
        have A590 := A589.iconst (z := (5 : Int32)) (pc' := 279) at_278 rfl rfl
        have A592 := A590.icmpYes (pc' := 292) at_279 (flt (ingt (x := (2 : Int32)) (y := (5 : Int32)) rfl rfl (by decide : ¬ ((5 : Int) < 2)))).2.2.2 (by decide) (by decide)
        have A593 := A592.iload (v := (2 : Int32)) (pc' := 294) at_292 rfl rfl
        have A594 := A593.bipush (z := (6 : Int32)) (pc' := 296) at_294 rfl rfl
        have A596 := A594.icmpYes (pc' := 310) at_296 (flt (ingt (x := (2 : Int32)) (y := (6 : Int32)) rfl rfl (by decide : ¬ ((6 : Int) < 2)))).2.2.2 (by decide) (by decide)
        have A597 := A596.iload (v := (2 : Int32)) (pc' := 312) at_310 rfl rfl
        have A598 := A597.istore (Ls' := #[.val (.int xx), .val (.int xy), .val (.int xc), .val (.int xq), .val (.int xz), .val (.int (2 : Int32)), .val (.int v19), .val (.ref b24), .val (.int doc), .val (.int ii), .val (.ref b196), .val (.int (2 : Int32)), .unset]) (pc' := 314) at_312 rfl rfl
        have A599 := A598.iload (v := (2 : Int32)) (pc' := 316) at_314 rfl rfl
        have A600 := A599.bipush (z := (7 : Int32)) (pc' := 318) at_316 rfl rfl
        have A601 := A600.iload (v := ii) (pc' := 320) at_318 rfl rfl
        have A602 := A601.iload (v := (2 : Int32)) (pc' := 322) at_320 rfl rfl
        have A603 := A602.aload (v := (.ref b24)) (pc' := 324) at_322 rfl rfl rfl
        have A604 := A603.iload (v := doc) (pc' := 326) at_324 rfl rfl
        have f605 := (f548.keep K556 (ninS ne203 nin0))
        obtain ⟨r607, _, ⟨rfl, q608⟩, A606⟩ := W.kI (A604.callS (argsL := [(.int (2 : Int32)), (.int (7 : Int32)), (.int ii), (.int (2 : Int32)), (.ref b24), (.int doc)]) (rest := []) (C' := 6) (S' := 17) (pc' := 329) at_326 (hw _ (List.mem_of_getElem? (i := 35) rfl)) (hw _ (List.mem_of_getElem? (i := 36) rfl)) (hw _ (List.mem_of_getElem? (i := 37) rfl)) (hw _ (List.mem_of_getElem? (i := 38) rfl)) (rm6 l Z a0 hw n0 [] ((2 : Int32)) ((7 : Int32)) (ii) ((2 : Int32)) (b24) (doc) ((upd (upd (upd (upd (upd (upd (upd (upd (fun _ => (.int (0 : Int32))) 0 (.int d0)) 1 (.int d1)) 2 (.int d2)) 3 (.int d3)) 4 (.int d4)) 5 (.int d5)) 6 (.int d6)) 7 (.int d7))) (d7) h555 A604.size f605 (by first | (constructor <;> decide) | rfl) (by first | (constructor <;> decide) | rfl)) rfl rfl pd_4 rfl rfl (by decide) (by decide) (Nat.le_of_ble_eq_true rfl) (by decide) (by decide) rfl rfl rfl)
        have pk8 : own_from g ii.toInt 2 doc.toInt 8 ((2 : Int32)).toInt := own_from0 g ii.toInt 2 doc.toInt (by decide)
        have pk7 : own_from g ii.toInt 2 doc.toInt 7 r607.toInt := own_step g ii.toInt 2 doc.toInt 7 r607.toInt ((2 : Int32)).toInt d7.toInt (by decide) (by rw [e_g]; rfl) pk8 q608
        have A610 := A606.istore (Ls' := #[.val (.int xx), .val (.int xy), .val (.int xc), .val (.int xq), .val (.int xz), .val (.int (2 : Int32)), .val (.int v19), .val (.ref b24), .val (.int doc), .val (.int ii), .val (.ref b196), .val (.int r607), .unset]) (pc' := 331) at_329 rfl rfl
        have A611 := A610.iload (v := r607) (pc' := 333) at_331 rfl rfl
        have A612 := A611.bipush (z := (6 : Int32)) (pc' := 335) at_333 rfl rfl
        have A613 := A612.iload (v := ii) (pc' := 337) at_335 rfl rfl
        have A614 := A613.iload (v := (2 : Int32)) (pc' := 339) at_337 rfl rfl
        have A615 := A614.aload (v := (.ref b24)) (pc' := 341) at_339 rfl rfl rfl
        have A616 := A615.iload (v := doc) (pc' := 343) at_341 rfl rfl
        obtain ⟨r618, _, ⟨rfl, q619⟩, A617⟩ := W.kI (A616.callS (argsL := [(.int r607), (.int (6 : Int32)), (.int ii), (.int (2 : Int32)), (.ref b24), (.int doc)]) (rest := []) (C' := 6) (S' := 17) (pc' := 346) at_343 (hw _ (List.mem_of_getElem? (i := 35) rfl)) (hw _ (List.mem_of_getElem? (i := 36) rfl)) (hw _ (List.mem_of_getElem? (i := 37) rfl)) (hw _ (List.mem_of_getElem? (i := 38) rfl)) (rm6 l Z a0 hw n0 [] (r607) ((6 : Int32)) (ii) ((2 : Int32)) (b24) (doc) ((upd (upd (upd (upd (upd (upd (upd (upd (fun _ => (.int (0 : Int32))) 0 (.int d0)) 1 (.int d1)) 2 (.int d2)) 3 (.int d3)) 4 (.int d4)) 5 (.int d5)) 6 (.int d6)) 7 (.int d7))) (d6) h555 A616.size f605 (by first | (constructor <;> decide) | rfl) (by first | (constructor <;> decide) | rfl)) rfl rfl pd_4 rfl rfl (by decide) (by decide) (Nat.le_of_ble_eq_true rfl) (by decide) (by decide) rfl rfl rfl)
        have pk6 : own_from g ii.toInt 2 doc.toInt 6 r618.toInt := own_step g ii.toInt 2 doc.toInt 6 r618.toInt (r607).toInt d6.toInt (by decide) (by rw [e_g]; rfl) pk7 q619
        have A621 := A617.istore (Ls' := #[.val (.int xx), .val (.int xy), .val (.int xc), .val (.int xq), .val (.int xz), .val (.int (2 : Int32)), .val (.int v19), .val (.ref b24), .val (.int doc), .val (.int ii), .val (.ref b196), .val (.int r618), .unset]) (pc' := 348) at_346 rfl rfl
        have A622 := A621.iload (v := r618) (pc' := 350) at_348 rfl rfl
        have A623 := A622.iconst (z := (5 : Int32)) (pc' := 351) at_350 rfl rfl
        have A624 := A623.iload (v := ii) (pc' := 353) at_351 rfl rfl
        have A625 := A624.iload (v := (2 : Int32)) (pc' := 355) at_353 rfl rfl
        have A626 := A625.aload (v := (.ref b24)) (pc' := 357) at_355 rfl rfl rfl
        have A627 := A626.iload (v := doc) (pc' := 359) at_357 rfl rfl
        obtain ⟨r629, _, ⟨rfl, q630⟩, A628⟩ := W.kI (A627.callS (argsL := [(.int r618), (.int (5 : Int32)), (.int ii), (.int (2 : Int32)), (.ref b24), (.int doc)]) (rest := []) (C' := 6) (S' := 17) (pc' := 362) at_359 (hw _ (List.mem_of_getElem? (i := 35) rfl)) (hw _ (List.mem_of_getElem? (i := 36) rfl)) (hw _ (List.mem_of_getElem? (i := 37) rfl)) (hw _ (List.mem_of_getElem? (i := 38) rfl)) (rm6 l Z a0 hw n0 [] (r618) ((5 : Int32)) (ii) ((2 : Int32)) (b24) (doc) ((upd (upd (upd (upd (upd (upd (upd (upd (fun _ => (.int (0 : Int32))) 0 (.int d0)) 1 (.int d1)) 2 (.int d2)) 3 (.int d3)) 4 (.int d4)) 5 (.int d5)) 6 (.int d6)) 7 (.int d7))) (d5) h555 A627.size f605 (by first | (constructor <;> decide) | rfl) (by first | (constructor <;> decide) | rfl)) rfl rfl pd_4 rfl rfl (by decide) (by decide) (Nat.le_of_ble_eq_true rfl) (by decide) (by decide) rfl rfl rfl)
        have pk5 : own_from g ii.toInt 2 doc.toInt 5 r629.toInt := own_step g ii.toInt 2 doc.toInt 5 r629.toInt (r618).toInt d5.toInt (by decide) (by rw [e_g]; rfl) pk6 q630
        have A632 := A628.istore (Ls' := #[.val (.int xx), .val (.int xy), .val (.int xc), .val (.int xq), .val (.int xz), .val (.int (2 : Int32)), .val (.int v19), .val (.ref b24), .val (.int doc), .val (.int ii), .val (.ref b196), .val (.int r629), .unset]) (pc' := 364) at_362 rfl rfl
        have A633 := A632.iload (v := r629) (pc' := 366) at_364 rfl rfl
        have A634 := A633.iconst (z := (4 : Int32)) (pc' := 367) at_366 rfl rfl
        have A635 := A634.iload (v := ii) (pc' := 369) at_367 rfl rfl
        have A636 := A635.iload (v := (2 : Int32)) (pc' := 371) at_369 rfl rfl
        have A637 := A636.aload (v := (.ref b24)) (pc' := 373) at_371 rfl rfl rfl
        have A638 := A637.iload (v := doc) (pc' := 375) at_373 rfl rfl
        obtain ⟨r640, _, ⟨rfl, q641⟩, A639⟩ := W.kI (A638.callS (argsL := [(.int r629), (.int (4 : Int32)), (.int ii), (.int (2 : Int32)), (.ref b24), (.int doc)]) (rest := []) (C' := 6) (S' := 17) (pc' := 378) at_375 (hw _ (List.mem_of_getElem? (i := 35) rfl)) (hw _ (List.mem_of_getElem? (i := 36) rfl)) (hw _ (List.mem_of_getElem? (i := 37) rfl)) (hw _ (List.mem_of_getElem? (i := 38) rfl)) (rm6 l Z a0 hw n0 [] (r629) ((4 : Int32)) (ii) ((2 : Int32)) (b24) (doc) ((upd (upd (upd (upd (upd (upd (upd (upd (fun _ => (.int (0 : Int32))) 0 (.int d0)) 1 (.int d1)) 2 (.int d2)) 3 (.int d3)) 4 (.int d4)) 5 (.int d5)) 6 (.int d6)) 7 (.int d7))) (d4) h555 A638.size f605 (by first | (constructor <;> decide) | rfl) (by first | (constructor <;> decide) | rfl)) rfl rfl pd_4 rfl rfl (by decide) (by decide) (Nat.le_of_ble_eq_true rfl) (by decide) (by decide) rfl rfl rfl)
        have pk4 : own_from g ii.toInt 2 doc.toInt 4 r640.toInt := own_step g ii.toInt 2 doc.toInt 4 r640.toInt (r629).toInt d4.toInt (by decide) (by rw [e_g]; rfl) pk5 q641
        have A643 := A639.istore (Ls' := #[.val (.int xx), .val (.int xy), .val (.int xc), .val (.int xq), .val (.int xz), .val (.int (2 : Int32)), .val (.int v19), .val (.ref b24), .val (.int doc), .val (.int ii), .val (.ref b196), .val (.int r640), .unset]) (pc' := 380) at_378 rfl rfl
        have A644 := A643.iload (v := r640) (pc' := 382) at_380 rfl rfl
        have A645 := A644.iconst (z := (3 : Int32)) (pc' := 383) at_382 rfl rfl
        have A646 := A645.iload (v := ii) (pc' := 385) at_383 rfl rfl
        have A647 := A646.iload (v := (2 : Int32)) (pc' := 387) at_385 rfl rfl
        have A648 := A647.aload (v := (.ref b24)) (pc' := 389) at_387 rfl rfl rfl
        have A649 := A648.iload (v := doc) (pc' := 391) at_389 rfl rfl
        obtain ⟨r651, _, ⟨rfl, q652⟩, A650⟩ := W.kI (A649.callS (argsL := [(.int r640), (.int (3 : Int32)), (.int ii), (.int (2 : Int32)), (.ref b24), (.int doc)]) (rest := []) (C' := 6) (S' := 17) (pc' := 394) at_391 (hw _ (List.mem_of_getElem? (i := 35) rfl)) (hw _ (List.mem_of_getElem? (i := 36) rfl)) (hw _ (List.mem_of_getElem? (i := 37) rfl)) (hw _ (List.mem_of_getElem? (i := 38) rfl)) (rm6 l Z a0 hw n0 [] (r640) ((3 : Int32)) (ii) ((2 : Int32)) (b24) (doc) ((upd (upd (upd (upd (upd (upd (upd (upd (fun _ => (.int (0 : Int32))) 0 (.int d0)) 1 (.int d1)) 2 (.int d2)) 3 (.int d3)) 4 (.int d4)) 5 (.int d5)) 6 (.int d6)) 7 (.int d7))) (d3) h555 A649.size f605 (by first | (constructor <;> decide) | rfl) (by first | (constructor <;> decide) | rfl)) rfl rfl pd_4 rfl rfl (by decide) (by decide) (Nat.le_of_ble_eq_true rfl) (by decide) (by decide) rfl rfl rfl)
        have pk3 : own_from g ii.toInt 2 doc.toInt 3 r651.toInt := own_step g ii.toInt 2 doc.toInt 3 r651.toInt (r640).toInt d3.toInt (by decide) (by rw [e_g]; rfl) pk4 q652
        have A654 := A650.istore (Ls' := #[.val (.int xx), .val (.int xy), .val (.int xc), .val (.int xq), .val (.int xz), .val (.int (2 : Int32)), .val (.int v19), .val (.ref b24), .val (.int doc), .val (.int ii), .val (.ref b196), .val (.int r651), .unset]) (pc' := 396) at_394 rfl rfl
        have A655 := A654.iload (v := r651) (pc' := 398) at_396 rfl rfl
        have A656 := A655.iconst (z := (2 : Int32)) (pc' := 399) at_398 rfl rfl
        have A657 := A656.iload (v := ii) (pc' := 401) at_399 rfl rfl
        have A658 := A657.iload (v := (2 : Int32)) (pc' := 403) at_401 rfl rfl
        have A659 := A658.aload (v := (.ref b24)) (pc' := 405) at_403 rfl rfl rfl
        have A660 := A659.iload (v := doc) (pc' := 407) at_405 rfl rfl
        obtain ⟨r662, _, ⟨rfl, q663⟩, A661⟩ := W.kI (A660.callS (argsL := [(.int r651), (.int (2 : Int32)), (.int ii), (.int (2 : Int32)), (.ref b24), (.int doc)]) (rest := []) (C' := 6) (S' := 17) (pc' := 410) at_407 (hw _ (List.mem_of_getElem? (i := 35) rfl)) (hw _ (List.mem_of_getElem? (i := 36) rfl)) (hw _ (List.mem_of_getElem? (i := 37) rfl)) (hw _ (List.mem_of_getElem? (i := 38) rfl)) (rm6 l Z a0 hw n0 [] (r651) ((2 : Int32)) (ii) ((2 : Int32)) (b24) (doc) ((upd (upd (upd (upd (upd (upd (upd (upd (fun _ => (.int (0 : Int32))) 0 (.int d0)) 1 (.int d1)) 2 (.int d2)) 3 (.int d3)) 4 (.int d4)) 5 (.int d5)) 6 (.int d6)) 7 (.int d7))) (d2) h555 A660.size f605 (by first | (constructor <;> decide) | rfl) (by first | (constructor <;> decide) | rfl)) rfl rfl pd_4 rfl rfl (by decide) (by decide) (Nat.le_of_ble_eq_true rfl) (by decide) (by decide) rfl rfl rfl)
        have pk2 : own_from g ii.toInt 2 doc.toInt 2 r662.toInt := own_step g ii.toInt 2 doc.toInt 2 r662.toInt (r651).toInt d2.toInt (by decide) (by rw [e_g]; rfl) pk3 q663
        have A665 := A661.istore (Ls' := #[.val (.int xx), .val (.int xy), .val (.int xc), .val (.int xq), .val (.int xz), .val (.int (2 : Int32)), .val (.int v19), .val (.ref b24), .val (.int doc), .val (.int ii), .val (.ref b196), .val (.int r662), .unset]) (pc' := 412) at_410 rfl rfl
        have A666 := A665.iload (v := r662) (pc' := 414) at_412 rfl rfl
        have A667 := A666.iconst (z := (1 : Int32)) (pc' := 415) at_414 rfl rfl
        have A668 := A667.iload (v := ii) (pc' := 417) at_415 rfl rfl
        have A669 := A668.iload (v := (2 : Int32)) (pc' := 419) at_417 rfl rfl
        have A670 := A669.aload (v := (.ref b24)) (pc' := 421) at_419 rfl rfl rfl
        have A671 := A670.iload (v := doc) (pc' := 423) at_421 rfl rfl
        obtain ⟨r673, _, ⟨rfl, q674⟩, A672⟩ := W.kI (A671.callS (argsL := [(.int r662), (.int (1 : Int32)), (.int ii), (.int (2 : Int32)), (.ref b24), (.int doc)]) (rest := []) (C' := 6) (S' := 17) (pc' := 426) at_423 (hw _ (List.mem_of_getElem? (i := 35) rfl)) (hw _ (List.mem_of_getElem? (i := 36) rfl)) (hw _ (List.mem_of_getElem? (i := 37) rfl)) (hw _ (List.mem_of_getElem? (i := 38) rfl)) (rm6 l Z a0 hw n0 [] (r662) ((1 : Int32)) (ii) ((2 : Int32)) (b24) (doc) ((upd (upd (upd (upd (upd (upd (upd (upd (fun _ => (.int (0 : Int32))) 0 (.int d0)) 1 (.int d1)) 2 (.int d2)) 3 (.int d3)) 4 (.int d4)) 5 (.int d5)) 6 (.int d6)) 7 (.int d7))) (d1) h555 A671.size f605 (by first | (constructor <;> decide) | rfl) (by first | (constructor <;> decide) | rfl)) rfl rfl pd_4 rfl rfl (by decide) (by decide) (Nat.le_of_ble_eq_true rfl) (by decide) (by decide) rfl rfl rfl)
        have pk1 : own_from g ii.toInt 2 doc.toInt 1 r673.toInt := own_step g ii.toInt 2 doc.toInt 1 r673.toInt (r662).toInt d1.toInt (by decide) (by rw [e_g]; rfl) pk2 q674
        have A676 := A672.istore (Ls' := #[.val (.int xx), .val (.int xy), .val (.int xc), .val (.int xq), .val (.int xz), .val (.int (2 : Int32)), .val (.int v19), .val (.ref b24), .val (.int doc), .val (.int ii), .val (.ref b196), .val (.int r673), .unset]) (pc' := 428) at_426 rfl rfl
        have A677 := A676.iload (v := r673) (pc' := 430) at_428 rfl rfl
        have A678 := A677.iconst (z := (0 : Int32)) (pc' := 431) at_430 rfl rfl
        have A679 := A678.iload (v := ii) (pc' := 433) at_431 rfl rfl
        have A680 := A679.iload (v := (2 : Int32)) (pc' := 435) at_433 rfl rfl
        have A681 := A680.aload (v := (.ref b24)) (pc' := 437) at_435 rfl rfl rfl
        have A682 := A681.iload (v := doc) (pc' := 439) at_437 rfl rfl
        obtain ⟨r684, _, ⟨rfl, q685⟩, A683⟩ := W.kI (A682.callS (argsL := [(.int r673), (.int (0 : Int32)), (.int ii), (.int (2 : Int32)), (.ref b24), (.int doc)]) (rest := []) (C' := 6) (S' := 17) (pc' := 442) at_439 (hw _ (List.mem_of_getElem? (i := 35) rfl)) (hw _ (List.mem_of_getElem? (i := 36) rfl)) (hw _ (List.mem_of_getElem? (i := 37) rfl)) (hw _ (List.mem_of_getElem? (i := 38) rfl)) (rm6 l Z a0 hw n0 [] (r673) ((0 : Int32)) (ii) ((2 : Int32)) (b24) (doc) ((upd (upd (upd (upd (upd (upd (upd (upd (fun _ => (.int (0 : Int32))) 0 (.int d0)) 1 (.int d1)) 2 (.int d2)) 3 (.int d3)) 4 (.int d4)) 5 (.int d5)) 6 (.int d6)) 7 (.int d7))) (d0) h555 A682.size f605 (by first | (constructor <;> decide) | rfl) (by first | (constructor <;> decide) | rfl)) rfl rfl pd_4 rfl rfl (by decide) (by decide) (Nat.le_of_ble_eq_true rfl) (by decide) (by decide) rfl rfl rfl)
        have pk0 : own_from g ii.toInt 2 doc.toInt 0 r684.toInt := own_step g ii.toInt 2 doc.toInt 0 r684.toInt (r673).toInt d0.toInt (by decide) (by rw [e_g]; rfl) pk1 q685
        have A687 := A683.istore (Ls' := #[.val (.int xx), .val (.int xy), .val (.int xc), .val (.int xq), .val (.int xz), .val (.int (2 : Int32)), .val (.int v19), .val (.ref b24), .val (.int doc), .val (.int ii), .val (.ref b196), .val (.int r684), .unset]) (pc' := 444) at_442 rfl rfl
        have A688 := A687.aload (v := (.ref b196)) (pc' := 446) at_444 rfl rfl rfl
        have A689 := A688.iload (v := ii) (pc' := 448) at_446 rfl rfl
        have A690 := A689.iload (v := doc) (pc' := 450) at_448 rfl rfl
        have f693 := (f551.keep K556)
        obtain ⟨r692, _, ⟨rfl, q694⟩, A691⟩ := W.kI (A690.callV (a := b196) (argsL := [(.int ii), (.int doc)]) (rest := []) (C' := 6) (S' := 17) (pc' := 453) at_450 f693 (hw _ (List.mem_of_getElem? (i := 39) rfl)) (hw _ (List.mem_of_getElem? (i := 40) rfl)) (fun hZ => notFace_of_selects (args := #[]) (mvT hZ (hw _ (List.mem_of_getElem? (i := 42) rfl)))) (hw _ (List.mem_of_getElem? (i := 42) rfl)) (hw _ (List.mem_of_getElem? (i := 41) rfl)) (hw _ (List.mem_of_getElem? (i := 5) rfl)) (hw _ (List.mem_of_getElem? (i := 43) rfl)) (rm7 l Z a0 hw n0 [] (b196) (ii) (doc) (b557) (2) ((2 : Int32)) ((upd (cpy (upd (fun _ => (.int (0 : Int32))) 0 (.int d0)) 0 (fun _ => (.int (0 : Int32))) 0 1) 1 (.int d1))) (g) h555 A690.size f563 f565 f566 (by exact ⟨ki.1, by rw [hnt] at ki; exact ki.2, by decide, by decide, fun j k h1 h2 => hinc j k h1 (Int.lt_of_lt_of_le h2 (by decide))⟩) (by intro j hj; have lz : (2 : Int32).toInt = 2 := rfl; have hj' : j = 0 ∨ j = 1 := (by omega); rw [e_g]; rcases hj' with rfl | rfl <;> rfl)) rfl rfl pd_0 rfl rfl (by decide) (by decide) (Nat.le_of_ble_eq_true rfl) (by decide) (by decide) rfl rfl rfl)
        have A696 := A691.istore (Ls' := #[.val (.int xx), .val (.int xy), .val (.int xc), .val (.int xq), .val (.int xz), .val (.int (2 : Int32)), .val (.int v19), .val (.ref b24), .val (.int doc), .val (.int ii), .val (.ref b196), .val (.int r684), .val (.int r692)]) (pc' := 455) at_453 rfl rfl
        have A697 := A696.iload (v := r692) (pc' := 457) at_455 rfl rfl
        have A698 := A697.iload (v := r684) (pc' := 459) at_457 rfl rfl
        by_cases c699 : r692.toInt = r684.toInt
        · have A700 := A698.icmpNo (pc' := 462) at_459 (teq (ieq (x := r692) (y := r684) rfl rfl c699)).2 rfl
          have A701 := A700.iconst (z := (1 : Int32)) (pc' := 463) at_462 rfl rfl
          have A702 := A701.goto (pc' := 467) at_463 (by decide) (by decide)
          refine A702.retN (t := .boolean) (z' := (1 : Int32)) at_467 (by decide) (by decide) (by simp) rfl ⟨_, rfl, ⟨trivial, ?_⟩⟩
          have elit : (1 : Int32).toInt = 1 := rfl
          rfl
        · have A703 := A698.icmpYes (pc' := 466) at_459 (feq (ine (x := r692) (y := r684) rfl rfl c699)).2 (by decide) (by decide)
          have A704 := A703.iconst (z := (0 : Int32)) (pc' := 467) at_466 rfl rfl
          refine A704.retN (t := .boolean) (z' := (0 : Int32)) at_467 (by decide) (by decide) (by simp) rfl ⟨_, rfl, ⟨trivial, ?_⟩⟩
          have elit : (0 : Int32).toInt = 0 := rfl
          exfalso
          exact c699 (own_uniq g ii.toInt 2 doc.toInt _ _ (by rw [hnt] at ki; exact ki.2) ki.1 q694 pk0)
      · have A705 := A230.cast (Ls' := #[.val (.int xx), .val (.int xy), .val (.int xc), .val (.int xq), .val (.int xz), .val (.int (3 : Int32)), .val (.int v19), .val (.ref b24), .val (.int doc), .val (.int ii), .val (.ref b196), .unset, .unset]) rfl (by rw [hn]) rfl
        have hnt : n.toInt = 3 := by rw [hn]; rfl
        have A706 := A705.iload (v := (3 : Int32)) (pc' := 199) at_197 rfl rfl
        have A708 := A706.ifNo (pc' := 202) at_199 (tlt (igt (x := (3 : Int32)) (y := (0 : Int32)) rfl rfl (by decide : (0 : Int) < 3))).2.2.2 rfl
        have A709 := A708.aload (v := (.ref b196)) (pc' := 204) at_202 rfl rfl rfl
        have A710 := A709.aload (v := (.ref b24)) (pc' := 206) at_204 rfl rfl rfl
        have A711 := A710.iconst (z := (0 : Int32)) (pc' := 207) at_206 rfl rfl
        have f712 := (f225.keep K212 (ninS ne203 nin0))
        have A713 := A711.iaload (i := 0) (v := (.int d0)) (pc' := 208) at_207 f712 rfl (by decide) rfl rfl
        have A714 := A713.iconst (z := (1 : Int32)) (pc' := 209) at_208 rfl rfl
        have f715 := (X200.keep K212)
        obtain ⟨h719, ⟨K720, f721, f722, f723, f724, f725, q718⟩, A716⟩ := W.kV (A714.callV (a := b196) (argsL := [(.int d0), (.int (1 : Int32))]) (rest := []) (C' := 4) (S' := 13) (pc' := 212) at_209 f715 (hw _ (List.mem_of_getElem? (i := 16) rfl)) (hw _ (List.mem_of_getElem? (i := 17) rfl)) (fun hZ => notFace_of_selects (args := #[]) (mvT hZ (hw _ (List.mem_of_getElem? (i := 19) rfl)))) (hw _ (List.mem_of_getElem? (i := 19) rfl)) (hw _ (List.mem_of_getElem? (i := 18) rfl)) (hw _ (List.mem_of_getElem? (i := 5) rfl)) (hw _ (List.mem_of_getElem? (i := 20) rfl)) (rm3_0 l Z a0 hw n0 [] (b196) (d0) ((1 : Int32)) (b213) (b214) ((fun _ => (.int (0 : Int32)))) ((fun _ => (.int (0 : Int32)))) h211 A714.size f715 g198 f219 f220 f221 f222 f223 g215 g217 f224 ne227 ne229) rfl rfl pd_5 rfl rfl (by decide) (by decide) (Nat.le_of_ble_eq_true rfl) (by decide) (by decide) rfl rfl rfl)
        have A726 := A716.iload (v := (3 : Int32)) (pc' := 214) at_212 rfl rfl
        have A727 := A726.iconst (z := (1 : Int32)) (pc' := 215) at_214 rfl rfl
        have A729 := A727.icmpNo (pc' := 218) at_215 (tlt (igt (x := (3 : Int32)) (y := (1 : Int32)) rfl rfl (by decide : (1 : Int) < 3))).2.2.2 rfl
        have A730 := A729.aload (v := (.ref b196)) (pc' := 220) at_218 rfl rfl rfl
        have A731 := A730.aload (v := (.ref b24)) (pc' := 222) at_220 rfl rfl rfl
        have A732 := A731.iconst (z := (1 : Int32)) (pc' := 223) at_222 rfl rfl
        have f733 := (f712.keep K720 (ninS ne203 (ninS ne226 (ninS ne228 nin0))))
        have A734 := A732.iaload (i := 1) (v := (.int d1)) (pc' := 224) at_223 f733 rfl (by decide) rfl rfl
        have A735 := A734.iconst (z := (1 : Int32)) (pc' := 225) at_224 rfl rfl
        have f736 := (f715.keep K720)
        obtain ⟨h740, ⟨b742, b743, K741, g744, z745, g746, z747, f748, f749, f750, f751, f752, f753, q739⟩, A737⟩ := W.kV (A735.callV (a := b196) (argsL := [(.int d1), (.int (1 : Int32))]) (rest := []) (C' := 6) (S' := 17) (pc' := 228) at_225 f736 (hw _ (List.mem_of_getElem? (i := 16) rfl)) (hw _ (List.mem_of_getElem? (i := 17) rfl)) (fun hZ => notFace_of_selects (args := #[]) (mvT hZ (hw _ (List.mem_of_getElem? (i := 19) rfl)))) (hw _ (List.mem_of_getElem? (i := 19) rfl)) (hw _ (List.mem_of_getElem? (i := 18) rfl)) (hw _ (List.mem_of_getElem? (i := 5) rfl)) (hw _ (List.mem_of_getElem? (i := 20) rfl)) (rm3_1 l Z a0 hw n0 [] (b196) (d1) ((1 : Int32)) (b213) (b214) ((upd (fun _ => (.int (0 : Int32))) 0 (.int d0))) ((upd (fun _ => (.int (0 : Int32))) 0 (.int (1 : Int32)))) h719 A735.size f736 g198 f721 f722 f723 f724 f725 g215 g217 f224 ne227 ne229) rfl rfl pd_5 rfl rfl (by decide) (by decide) (Nat.le_of_ble_eq_true rfl) (by decide) (by decide) rfl rfl rfl)
        have ne754 : b24 ≠ b742 := Nat.ne_of_lt (Nat.lt_of_lt_of_le f733.lt z745)
        have ne755 : b196 ≠ b742 := Nat.ne_of_lt (Nat.lt_of_lt_of_le f736.lt z745)
        have ne756 : b213 ≠ b742 := Nat.ne_of_lt (Nat.lt_of_lt_of_le f724.lt z745)
        have ne757 : b214 ≠ b742 := Nat.ne_of_lt (Nat.lt_of_lt_of_le f725.lt z745)
        have ne758 : b24 ≠ b743 := Nat.ne_of_lt (Nat.lt_of_lt_of_le f733.lt z747)
        have ne759 : b196 ≠ b743 := Nat.ne_of_lt (Nat.lt_of_lt_of_le f736.lt z747)
        have ne760 : b213 ≠ b743 := Nat.ne_of_lt (Nat.lt_of_lt_of_le f724.lt z747)
        have ne761 : b214 ≠ b743 := Nat.ne_of_lt (Nat.lt_of_lt_of_le f725.lt z747)
        have A762 := A737.iload (v := (3 : Int32)) (pc' := 230) at_228 rfl rfl
        have A763 := A762.iconst (z := (2 : Int32)) (pc' := 231) at_230 rfl rfl
        have A765 := A763.icmpNo (pc' := 234) at_231 (tlt (igt (x := (3 : Int32)) (y := (2 : Int32)) rfl rfl (by decide : (2 : Int) < 3))).2.2.2 rfl
        have A766 := A765.aload (v := (.ref b196)) (pc' := 236) at_234 rfl rfl rfl
        have A767 := A766.aload (v := (.ref b24)) (pc' := 238) at_236 rfl rfl rfl
        have A768 := A767.iconst (z := (2 : Int32)) (pc' := 239) at_238 rfl rfl
        have f769 := (f733.keep K741 (ninS ne203 nin0))
        have A770 := A768.iaload (i := 2) (v := (.int d2)) (pc' := 240) at_239 f769 rfl (by decide) rfl rfl
        have A771 := A770.iconst (z := (1 : Int32)) (pc' := 241) at_240 rfl rfl
        have f772 := (f736.keep K741)
        obtain ⟨h776, ⟨b778, b779, K777, g780, z781, g782, z783, f784, f785, f786, f787, f788, f789, q775⟩, A773⟩ := W.kV (A771.callV (a := b196) (argsL := [(.int d2), (.int (1 : Int32))]) (rest := []) (C' := 8) (S' := 25) (pc' := 244) at_241 f772 (hw _ (List.mem_of_getElem? (i := 16) rfl)) (hw _ (List.mem_of_getElem? (i := 17) rfl)) (fun hZ => notFace_of_selects (args := #[]) (mvT hZ (hw _ (List.mem_of_getElem? (i := 19) rfl)))) (hw _ (List.mem_of_getElem? (i := 19) rfl)) (hw _ (List.mem_of_getElem? (i := 18) rfl)) (hw _ (List.mem_of_getElem? (i := 5) rfl)) (hw _ (List.mem_of_getElem? (i := 20) rfl)) (rm3_2 l Z a0 hw n0 [] (b196) (d2) ((1 : Int32)) (b742) (b743) ((upd (cpy (upd (fun _ => (.int (0 : Int32))) 0 (.int d0)) 0 (fun _ => (.int (0 : Int32))) 0 1) 1 (.int d1))) ((upd (cpy (upd (fun _ => (.int (0 : Int32))) 0 (.int (1 : Int32))) 0 (fun _ => (.int (0 : Int32))) 0 1) 1 (.int (1 : Int32)))) h740 A771.size f772 g198 f748 f749 f750 f751 f752 g744 g746 f753 ne755 ne759) rfl rfl pd_5 rfl rfl (by decide) (by decide) (Nat.le_of_ble_eq_true rfl) (by decide) (by decide) rfl rfl rfl)
        have ne790 : b24 ≠ b778 := Nat.ne_of_lt (Nat.lt_of_lt_of_le f769.lt z781)
        have ne791 : b196 ≠ b778 := Nat.ne_of_lt (Nat.lt_of_lt_of_le f772.lt z781)
        have f792 := (f724.keep K741 (ninS (Ne.symm ne227) nin0))
        have ne793 : b213 ≠ b778 := Nat.ne_of_lt (Nat.lt_of_lt_of_le f792.lt z781)
        have f794 := (f725.keep K741 (ninS (Ne.symm ne229) nin0))
        have ne795 : b214 ≠ b778 := Nat.ne_of_lt (Nat.lt_of_lt_of_le f794.lt z781)
        have ne796 : b742 ≠ b778 := Nat.ne_of_lt (Nat.lt_of_lt_of_le f751.lt z781)
        have ne797 : b743 ≠ b778 := Nat.ne_of_lt (Nat.lt_of_lt_of_le f752.lt z781)
        have ne798 : b24 ≠ b779 := Nat.ne_of_lt (Nat.lt_of_lt_of_le f769.lt z783)
        have ne799 : b196 ≠ b779 := Nat.ne_of_lt (Nat.lt_of_lt_of_le f772.lt z783)
        have ne800 : b213 ≠ b779 := Nat.ne_of_lt (Nat.lt_of_lt_of_le f792.lt z783)
        have ne801 : b214 ≠ b779 := Nat.ne_of_lt (Nat.lt_of_lt_of_le f794.lt z783)
        have ne802 : b742 ≠ b779 := Nat.ne_of_lt (Nat.lt_of_lt_of_le f751.lt z783)
        have ne803 : b743 ≠ b779 := Nat.ne_of_lt (Nat.lt_of_lt_of_le f752.lt z783)
        have A804 := A773.iload (v := (3 : Int32)) (pc' := 246) at_244 rfl rfl
        have A805 := A804.iconst (z := (3 : Int32)) (pc' := 247) at_246 rfl rfl
        have A807 := A805.icmpYes (pc' := 260) at_247 (flt (ingt (x := (3 : Int32)) (y := (3 : Int32)) rfl rfl (by decide : ¬ ((3 : Int) < 3)))).2.2.2 (by decide) (by decide)
        have A808 := A807.iload (v := (3 : Int32)) (pc' := 262) at_260 rfl rfl
        have A809 := A808.iconst (z := (4 : Int32)) (pc' := 263) at_262 rfl rfl
        have A811 := A809.icmpYes (pc' := 276) at_263 (flt (ingt (x := (3 : Int32)) (y := (4 : Int32)) rfl rfl (by decide : ¬ ((4 : Int) < 3)))).2.2.2 (by decide) (by decide)
        have A812 := A811.iload (v := (3 : Int32)) (pc' := 278) at_276 rfl rfl
        have A813 := A812.iconst (z := (5 : Int32)) (pc' := 279) at_278 rfl rfl
        have A815 := A813.icmpYes (pc' := 292) at_279 (flt (ingt (x := (3 : Int32)) (y := (5 : Int32)) rfl rfl (by decide : ¬ ((5 : Int) < 3)))).2.2.2 (by decide) (by decide)
        have A816 := A815.iload (v := (3 : Int32)) (pc' := 294) at_292 rfl rfl
        have A817 := A816.bipush (z := (6 : Int32)) (pc' := 296) at_294 rfl rfl
        have A819 := A817.icmpYes (pc' := 310) at_296 (flt (ingt (x := (3 : Int32)) (y := (6 : Int32)) rfl rfl (by decide : ¬ ((6 : Int) < 3)))).2.2.2 (by decide) (by decide)
        have A820 := A819.iload (v := (3 : Int32)) (pc' := 312) at_310 rfl rfl
        have A821 := A820.istore (Ls' := #[.val (.int xx), .val (.int xy), .val (.int xc), .val (.int xq), .val (.int xz), .val (.int (3 : Int32)), .val (.int v19), .val (.ref b24), .val (.int doc), .val (.int ii), .val (.ref b196), .val (.int (3 : Int32)), .unset]) (pc' := 314) at_312 rfl rfl
        have A822 := A821.iload (v := (3 : Int32)) (pc' := 316) at_314 rfl rfl
        have A823 := A822.bipush (z := (7 : Int32)) (pc' := 318) at_316 rfl rfl
        have A824 := A823.iload (v := ii) (pc' := 320) at_318 rfl rfl
        have A825 := A824.iload (v := (3 : Int32)) (pc' := 322) at_320 rfl rfl
        have A826 := A825.aload (v := (.ref b24)) (pc' := 324) at_322 rfl rfl rfl
        have A827 := A826.iload (v := doc) (pc' := 326) at_324 rfl rfl
        have f828 := (f769.keep K777 (ninS ne203 nin0))
        obtain ⟨r830, _, ⟨rfl, q831⟩, A829⟩ := W.kI (A827.callS (argsL := [(.int (3 : Int32)), (.int (7 : Int32)), (.int ii), (.int (3 : Int32)), (.ref b24), (.int doc)]) (rest := []) (C' := 8) (S' := 25) (pc' := 329) at_326 (hw _ (List.mem_of_getElem? (i := 35) rfl)) (hw _ (List.mem_of_getElem? (i := 36) rfl)) (hw _ (List.mem_of_getElem? (i := 37) rfl)) (hw _ (List.mem_of_getElem? (i := 38) rfl)) (rm6 l Z a0 hw n0 [] ((3 : Int32)) ((7 : Int32)) (ii) ((3 : Int32)) (b24) (doc) ((upd (upd (upd (upd (upd (upd (upd (upd (fun _ => (.int (0 : Int32))) 0 (.int d0)) 1 (.int d1)) 2 (.int d2)) 3 (.int d3)) 4 (.int d4)) 5 (.int d5)) 6 (.int d6)) 7 (.int d7))) (d7) h776 A827.size f828 (by first | (constructor <;> decide) | rfl) (by first | (constructor <;> decide) | rfl)) rfl rfl pd_4 rfl rfl (by decide) (by decide) (Nat.le_of_ble_eq_true rfl) (by decide) (by decide) rfl rfl rfl)
        have pk8 : own_from g ii.toInt 3 doc.toInt 8 ((3 : Int32)).toInt := own_from0 g ii.toInt 3 doc.toInt (by decide)
        have pk7 : own_from g ii.toInt 3 doc.toInt 7 r830.toInt := own_step g ii.toInt 3 doc.toInt 7 r830.toInt ((3 : Int32)).toInt d7.toInt (by decide) (by rw [e_g]; rfl) pk8 q831
        have A833 := A829.istore (Ls' := #[.val (.int xx), .val (.int xy), .val (.int xc), .val (.int xq), .val (.int xz), .val (.int (3 : Int32)), .val (.int v19), .val (.ref b24), .val (.int doc), .val (.int ii), .val (.ref b196), .val (.int r830), .unset]) (pc' := 331) at_329 rfl rfl
        have A834 := A833.iload (v := r830) (pc' := 333) at_331 rfl rfl
        have A835 := A834.bipush (z := (6 : Int32)) (pc' := 335) at_333 rfl rfl
        have A836 := A835.iload (v := ii) (pc' := 337) at_335 rfl rfl
        have A837 := A836.iload (v := (3 : Int32)) (pc' := 339) at_337 rfl rfl
        have A838 := A837.aload (v := (.ref b24)) (pc' := 341) at_339 rfl rfl rfl
        have A839 := A838.iload (v := doc) (pc' := 343) at_341 rfl rfl
        obtain ⟨r841, _, ⟨rfl, q842⟩, A840⟩ := W.kI (A839.callS (argsL := [(.int r830), (.int (6 : Int32)), (.int ii), (.int (3 : Int32)), (.ref b24), (.int doc)]) (rest := []) (C' := 8) (S' := 25) (pc' := 346) at_343 (hw _ (List.mem_of_getElem? (i := 35) rfl)) (hw _ (List.mem_of_getElem? (i := 36) rfl)) (hw _ (List.mem_of_getElem? (i := 37) rfl)) (hw _ (List.mem_of_getElem? (i := 38) rfl)) (rm6 l Z a0 hw n0 [] (r830) ((6 : Int32)) (ii) ((3 : Int32)) (b24) (doc) ((upd (upd (upd (upd (upd (upd (upd (upd (fun _ => (.int (0 : Int32))) 0 (.int d0)) 1 (.int d1)) 2 (.int d2)) 3 (.int d3)) 4 (.int d4)) 5 (.int d5)) 6 (.int d6)) 7 (.int d7))) (d6) h776 A839.size f828 (by first | (constructor <;> decide) | rfl) (by first | (constructor <;> decide) | rfl)) rfl rfl pd_4 rfl rfl (by decide) (by decide) (Nat.le_of_ble_eq_true rfl) (by decide) (by decide) rfl rfl rfl)
        have pk6 : own_from g ii.toInt 3 doc.toInt 6 r841.toInt := own_step g ii.toInt 3 doc.toInt 6 r841.toInt (r830).toInt d6.toInt (by decide) (by rw [e_g]; rfl) pk7 q842
        have A844 := A840.istore (Ls' := #[.val (.int xx), .val (.int xy), .val (.int xc), .val (.int xq), .val (.int xz), .val (.int (3 : Int32)), .val (.int v19), .val (.ref b24), .val (.int doc), .val (.int ii), .val (.ref b196), .val (.int r841), .unset]) (pc' := 348) at_346 rfl rfl
        have A845 := A844.iload (v := r841) (pc' := 350) at_348 rfl rfl
        have A846 := A845.iconst (z := (5 : Int32)) (pc' := 351) at_350 rfl rfl
        have A847 := A846.iload (v := ii) (pc' := 353) at_351 rfl rfl
        have A848 := A847.iload (v := (3 : Int32)) (pc' := 355) at_353 rfl rfl
        have A849 := A848.aload (v := (.ref b24)) (pc' := 357) at_355 rfl rfl rfl
        have A850 := A849.iload (v := doc) (pc' := 359) at_357 rfl rfl
        obtain ⟨r852, _, ⟨rfl, q853⟩, A851⟩ := W.kI (A850.callS (argsL := [(.int r841), (.int (5 : Int32)), (.int ii), (.int (3 : Int32)), (.ref b24), (.int doc)]) (rest := []) (C' := 8) (S' := 25) (pc' := 362) at_359 (hw _ (List.mem_of_getElem? (i := 35) rfl)) (hw _ (List.mem_of_getElem? (i := 36) rfl)) (hw _ (List.mem_of_getElem? (i := 37) rfl)) (hw _ (List.mem_of_getElem? (i := 38) rfl)) (rm6 l Z a0 hw n0 [] (r841) ((5 : Int32)) (ii) ((3 : Int32)) (b24) (doc) ((upd (upd (upd (upd (upd (upd (upd (upd (fun _ => (.int (0 : Int32))) 0 (.int d0)) 1 (.int d1)) 2 (.int d2)) 3 (.int d3)) 4 (.int d4)) 5 (.int d5)) 6 (.int d6)) 7 (.int d7))) (d5) h776 A850.size f828 (by first | (constructor <;> decide) | rfl) (by first | (constructor <;> decide) | rfl)) rfl rfl pd_4 rfl rfl (by decide) (by decide) (Nat.le_of_ble_eq_true rfl) (by decide) (by decide) rfl rfl rfl)
        have pk5 : own_from g ii.toInt 3 doc.toInt 5 r852.toInt := own_step g ii.toInt 3 doc.toInt 5 r852.toInt (r841).toInt d5.toInt (by decide) (by rw [e_g]; rfl) pk6 q853
        have A855 := A851.istore (Ls' := #[.val (.int xx), .val (.int xy), .val (.int xc), .val (.int xq), .val (.int xz), .val (.int (3 : Int32)), .val (.int v19), .val (.ref b24), .val (.int doc), .val (.int ii), .val (.ref b196), .val (.int r852), .unset]) (pc' := 364) at_362 rfl rfl
        have A856 := A855.iload (v := r852) (pc' := 366) at_364 rfl rfl
        have A857 := A856.iconst (z := (4 : Int32)) (pc' := 367) at_366 rfl rfl
        have A858 := A857.iload (v := ii) (pc' := 369) at_367 rfl rfl
        have A859 := A858.iload (v := (3 : Int32)) (pc' := 371) at_369 rfl rfl
        have A860 := A859.aload (v := (.ref b24)) (pc' := 373) at_371 rfl rfl rfl
        have A861 := A860.iload (v := doc) (pc' := 375) at_373 rfl rfl
        obtain ⟨r863, _, ⟨rfl, q864⟩, A862⟩ := W.kI (A861.callS (argsL := [(.int r852), (.int (4 : Int32)), (.int ii), (.int (3 : Int32)), (.ref b24), (.int doc)]) (rest := []) (C' := 8) (S' := 25) (pc' := 378) at_375 (hw _ (List.mem_of_getElem? (i := 35) rfl)) (hw _ (List.mem_of_getElem? (i := 36) rfl)) (hw _ (List.mem_of_getElem? (i := 37) rfl)) (hw _ (List.mem_of_getElem? (i := 38) rfl)) (rm6 l Z a0 hw n0 [] (r852) ((4 : Int32)) (ii) ((3 : Int32)) (b24) (doc) ((upd (upd (upd (upd (upd (upd (upd (upd (fun _ => (.int (0 : Int32))) 0 (.int d0)) 1 (.int d1)) 2 (.int d2)) 3 (.int d3)) 4 (.int d4)) 5 (.int d5)) 6 (.int d6)) 7 (.int d7))) (d4) h776 A861.size f828 (by first | (constructor <;> decide) | rfl) (by first | (constructor <;> decide) | rfl)) rfl rfl pd_4 rfl rfl (by decide) (by decide) (Nat.le_of_ble_eq_true rfl) (by decide) (by decide) rfl rfl rfl)
        have pk4 : own_from g ii.toInt 3 doc.toInt 4 r863.toInt := own_step g ii.toInt 3 doc.toInt 4 r863.toInt (r852).toInt d4.toInt (by decide) (by rw [e_g]; rfl) pk5 q864
        have A866 := A862.istore (Ls' := #[.val (.int xx), .val (.int xy), .val (.int xc), .val (.int xq), .val (.int xz), .val (.int (3 : Int32)), .val (.int v19), .val (.ref b24), .val (.int doc), .val (.int ii), .val (.ref b196), .val (.int r863), .unset]) (pc' := 380) at_378 rfl rfl
        have A867 := A866.iload (v := r863) (pc' := 382) at_380 rfl rfl
        have A868 := A867.iconst (z := (3 : Int32)) (pc' := 383) at_382 rfl rfl
        have A869 := A868.iload (v := ii) (pc' := 385) at_383 rfl rfl
        have A870 := A869.iload (v := (3 : Int32)) (pc' := 387) at_385 rfl rfl
        have A871 := A870.aload (v := (.ref b24)) (pc' := 389) at_387 rfl rfl rfl
        have A872 := A871.iload (v := doc) (pc' := 391) at_389 rfl rfl
        obtain ⟨r874, _, ⟨rfl, q875⟩, A873⟩ := W.kI (A872.callS (argsL := [(.int r863), (.int (3 : Int32)), (.int ii), (.int (3 : Int32)), (.ref b24), (.int doc)]) (rest := []) (C' := 8) (S' := 25) (pc' := 394) at_391 (hw _ (List.mem_of_getElem? (i := 35) rfl)) (hw _ (List.mem_of_getElem? (i := 36) rfl)) (hw _ (List.mem_of_getElem? (i := 37) rfl)) (hw _ (List.mem_of_getElem? (i := 38) rfl)) (rm6 l Z a0 hw n0 [] (r863) ((3 : Int32)) (ii) ((3 : Int32)) (b24) (doc) ((upd (upd (upd (upd (upd (upd (upd (upd (fun _ => (.int (0 : Int32))) 0 (.int d0)) 1 (.int d1)) 2 (.int d2)) 3 (.int d3)) 4 (.int d4)) 5 (.int d5)) 6 (.int d6)) 7 (.int d7))) (d3) h776 A872.size f828 (by first | (constructor <;> decide) | rfl) (by first | (constructor <;> decide) | rfl)) rfl rfl pd_4 rfl rfl (by decide) (by decide) (Nat.le_of_ble_eq_true rfl) (by decide) (by decide) rfl rfl rfl)
        have pk3 : own_from g ii.toInt 3 doc.toInt 3 r874.toInt := own_step g ii.toInt 3 doc.toInt 3 r874.toInt (r863).toInt d3.toInt (by decide) (by rw [e_g]; rfl) pk4 q875
        have A877 := A873.istore (Ls' := #[.val (.int xx), .val (.int xy), .val (.int xc), .val (.int xq), .val (.int xz), .val (.int (3 : Int32)), .val (.int v19), .val (.ref b24), .val (.int doc), .val (.int ii), .val (.ref b196), .val (.int r874), .unset]) (pc' := 396) at_394 rfl rfl
        have A878 := A877.iload (v := r874) (pc' := 398) at_396 rfl rfl
        have A879 := A878.iconst (z := (2 : Int32)) (pc' := 399) at_398 rfl rfl
        have A880 := A879.iload (v := ii) (pc' := 401) at_399 rfl rfl
        have A881 := A880.iload (v := (3 : Int32)) (pc' := 403) at_401 rfl rfl
        have A882 := A881.aload (v := (.ref b24)) (pc' := 405) at_403 rfl rfl rfl
        have A883 := A882.iload (v := doc) (pc' := 407) at_405 rfl rfl
        obtain ⟨r885, _, ⟨rfl, q886⟩, A884⟩ := W.kI (A883.callS (argsL := [(.int r874), (.int (2 : Int32)), (.int ii), (.int (3 : Int32)), (.ref b24), (.int doc)]) (rest := []) (C' := 8) (S' := 25) (pc' := 410) at_407 (hw _ (List.mem_of_getElem? (i := 35) rfl)) (hw _ (List.mem_of_getElem? (i := 36) rfl)) (hw _ (List.mem_of_getElem? (i := 37) rfl)) (hw _ (List.mem_of_getElem? (i := 38) rfl)) (rm6 l Z a0 hw n0 [] (r874) ((2 : Int32)) (ii) ((3 : Int32)) (b24) (doc) ((upd (upd (upd (upd (upd (upd (upd (upd (fun _ => (.int (0 : Int32))) 0 (.int d0)) 1 (.int d1)) 2 (.int d2)) 3 (.int d3)) 4 (.int d4)) 5 (.int d5)) 6 (.int d6)) 7 (.int d7))) (d2) h776 A883.size f828 (by first | (constructor <;> decide) | rfl) (by first | (constructor <;> decide) | rfl)) rfl rfl pd_4 rfl rfl (by decide) (by decide) (Nat.le_of_ble_eq_true rfl) (by decide) (by decide) rfl rfl rfl)
        have pk2 : own_from g ii.toInt 3 doc.toInt 2 r885.toInt := own_step g ii.toInt 3 doc.toInt 2 r885.toInt (r874).toInt d2.toInt (by decide) (by rw [e_g]; rfl) pk3 q886
        have A888 := A884.istore (Ls' := #[.val (.int xx), .val (.int xy), .val (.int xc), .val (.int xq), .val (.int xz), .val (.int (3 : Int32)), .val (.int v19), .val (.ref b24), .val (.int doc), .val (.int ii), .val (.ref b196), .val (.int r885), .unset]) (pc' := 412) at_410 rfl rfl
        have A889 := A888.iload (v := r885) (pc' := 414) at_412 rfl rfl
        have A890 := A889.iconst (z := (1 : Int32)) (pc' := 415) at_414 rfl rfl
        have A891 := A890.iload (v := ii) (pc' := 417) at_415 rfl rfl
        have A892 := A891.iload (v := (3 : Int32)) (pc' := 419) at_417 rfl rfl
        have A893 := A892.aload (v := (.ref b24)) (pc' := 421) at_419 rfl rfl rfl
        have A894 := A893.iload (v := doc) (pc' := 423) at_421 rfl rfl
        obtain ⟨r896, _, ⟨rfl, q897⟩, A895⟩ := W.kI (A894.callS (argsL := [(.int r885), (.int (1 : Int32)), (.int ii), (.int (3 : Int32)), (.ref b24), (.int doc)]) (rest := []) (C' := 8) (S' := 25) (pc' := 426) at_423 (hw _ (List.mem_of_getElem? (i := 35) rfl)) (hw _ (List.mem_of_getElem? (i := 36) rfl)) (hw _ (List.mem_of_getElem? (i := 37) rfl)) (hw _ (List.mem_of_getElem? (i := 38) rfl)) (rm6 l Z a0 hw n0 [] (r885) ((1 : Int32)) (ii) ((3 : Int32)) (b24) (doc) ((upd (upd (upd (upd (upd (upd (upd (upd (fun _ => (.int (0 : Int32))) 0 (.int d0)) 1 (.int d1)) 2 (.int d2)) 3 (.int d3)) 4 (.int d4)) 5 (.int d5)) 6 (.int d6)) 7 (.int d7))) (d1) h776 A894.size f828 (by first | (constructor <;> decide) | rfl) (by first | (constructor <;> decide) | rfl)) rfl rfl pd_4 rfl rfl (by decide) (by decide) (Nat.le_of_ble_eq_true rfl) (by decide) (by decide) rfl rfl rfl)
        have pk1 : own_from g ii.toInt 3 doc.toInt 1 r896.toInt := own_step g ii.toInt 3 doc.toInt 1 r896.toInt (r885).toInt d1.toInt (by decide) (by rw [e_g]; rfl) pk2 q897
        have A899 := A895.istore (Ls' := #[.val (.int xx), .val (.int xy), .val (.int xc), .val (.int xq), .val (.int xz), .val (.int (3 : Int32)), .val (.int v19), .val (.ref b24), .val (.int doc), .val (.int ii), .val (.ref b196), .val (.int r896), .unset]) (pc' := 428) at_426 rfl rfl
        have A900 := A899.iload (v := r896) (pc' := 430) at_428 rfl rfl
        have A901 := A900.iconst (z := (0 : Int32)) (pc' := 431) at_430 rfl rfl
        have A902 := A901.iload (v := ii) (pc' := 433) at_431 rfl rfl
        have A903 := A902.iload (v := (3 : Int32)) (pc' := 435) at_433 rfl rfl
        have A904 := A903.aload (v := (.ref b24)) (pc' := 437) at_435 rfl rfl rfl
        have A905 := A904.iload (v := doc) (pc' := 439) at_437 rfl rfl
        obtain ⟨r907, _, ⟨rfl, q908⟩, A906⟩ := W.kI (A905.callS (argsL := [(.int r896), (.int (0 : Int32)), (.int ii), (.int (3 : Int32)), (.ref b24), (.int doc)]) (rest := []) (C' := 8) (S' := 25) (pc' := 442) at_439 (hw _ (List.mem_of_getElem? (i := 35) rfl)) (hw _ (List.mem_of_getElem? (i := 36) rfl)) (hw _ (List.mem_of_getElem? (i := 37) rfl)) (hw _ (List.mem_of_getElem? (i := 38) rfl)) (rm6 l Z a0 hw n0 [] (r896) ((0 : Int32)) (ii) ((3 : Int32)) (b24) (doc) ((upd (upd (upd (upd (upd (upd (upd (upd (fun _ => (.int (0 : Int32))) 0 (.int d0)) 1 (.int d1)) 2 (.int d2)) 3 (.int d3)) 4 (.int d4)) 5 (.int d5)) 6 (.int d6)) 7 (.int d7))) (d0) h776 A905.size f828 (by first | (constructor <;> decide) | rfl) (by first | (constructor <;> decide) | rfl)) rfl rfl pd_4 rfl rfl (by decide) (by decide) (Nat.le_of_ble_eq_true rfl) (by decide) (by decide) rfl rfl rfl)
        have pk0 : own_from g ii.toInt 3 doc.toInt 0 r907.toInt := own_step g ii.toInt 3 doc.toInt 0 r907.toInt (r896).toInt d0.toInt (by decide) (by rw [e_g]; rfl) pk1 q908
        have A910 := A906.istore (Ls' := #[.val (.int xx), .val (.int xy), .val (.int xc), .val (.int xq), .val (.int xz), .val (.int (3 : Int32)), .val (.int v19), .val (.ref b24), .val (.int doc), .val (.int ii), .val (.ref b196), .val (.int r907), .unset]) (pc' := 444) at_442 rfl rfl
        have A911 := A910.aload (v := (.ref b196)) (pc' := 446) at_444 rfl rfl rfl
        have A912 := A911.iload (v := ii) (pc' := 448) at_446 rfl rfl
        have A913 := A912.iload (v := doc) (pc' := 450) at_448 rfl rfl
        have f916 := (f772.keep K777)
        obtain ⟨r915, _, ⟨rfl, q917⟩, A914⟩ := W.kI (A913.callV (a := b196) (argsL := [(.int ii), (.int doc)]) (rest := []) (C' := 8) (S' := 25) (pc' := 453) at_450 f916 (hw _ (List.mem_of_getElem? (i := 39) rfl)) (hw _ (List.mem_of_getElem? (i := 40) rfl)) (fun hZ => notFace_of_selects (args := #[]) (mvT hZ (hw _ (List.mem_of_getElem? (i := 42) rfl)))) (hw _ (List.mem_of_getElem? (i := 42) rfl)) (hw _ (List.mem_of_getElem? (i := 41) rfl)) (hw _ (List.mem_of_getElem? (i := 5) rfl)) (hw _ (List.mem_of_getElem? (i := 43) rfl)) (rm7 l Z a0 hw n0 [] (b196) (ii) (doc) (b778) (4) ((3 : Int32)) ((upd (cpy (upd (cpy (upd (fun _ => (.int (0 : Int32))) 0 (.int d0)) 0 (fun _ => (.int (0 : Int32))) 0 1) 1 (.int d1)) 0 (fun _ => (.int (0 : Int32))) 0 2) 2 (.int d2))) (g) h776 A913.size f784 f786 f787 (by exact ⟨ki.1, by rw [hnt] at ki; exact ki.2, by decide, by decide, fun j k h1 h2 => hinc j k h1 (Int.lt_of_lt_of_le h2 (by decide))⟩) (by intro j hj; have lz : (3 : Int32).toInt = 3 := rfl; have hj' : j = 0 ∨ j = 1 ∨ j = 2 := (by omega); rw [e_g]; rcases hj' with rfl | rfl | rfl <;> rfl)) rfl rfl pd_0 rfl rfl (by decide) (by decide) (Nat.le_of_ble_eq_true rfl) (by decide) (by decide) rfl rfl rfl)
        have A919 := A914.istore (Ls' := #[.val (.int xx), .val (.int xy), .val (.int xc), .val (.int xq), .val (.int xz), .val (.int (3 : Int32)), .val (.int v19), .val (.ref b24), .val (.int doc), .val (.int ii), .val (.ref b196), .val (.int r907), .val (.int r915)]) (pc' := 455) at_453 rfl rfl
        have A920 := A919.iload (v := r915) (pc' := 457) at_455 rfl rfl
        have A921 := A920.iload (v := r907) (pc' := 459) at_457 rfl rfl
        by_cases c922 : r915.toInt = r907.toInt
        · have A923 := A921.icmpNo (pc' := 462) at_459 (teq (ieq (x := r915) (y := r907) rfl rfl c922)).2 rfl
          have A924 := A923.iconst (z := (1 : Int32)) (pc' := 463) at_462 rfl rfl
          have A925 := A924.goto (pc' := 467) at_463 (by decide) (by decide)
          refine A925.retN (t := .boolean) (z' := (1 : Int32)) at_467 (by decide) (by decide) (by simp) rfl ⟨_, rfl, ⟨trivial, ?_⟩⟩
          have elit : (1 : Int32).toInt = 1 := rfl
          rfl
        · have A926 := A921.icmpYes (pc' := 466) at_459 (feq (ine (x := r915) (y := r907) rfl rfl c922)).2 (by decide) (by decide)
          have A927 := A926.iconst (z := (0 : Int32)) (pc' := 467) at_466 rfl rfl
          refine A927.retN (t := .boolean) (z' := (0 : Int32)) at_467 (by decide) (by decide) (by simp) rfl ⟨_, rfl, ⟨trivial, ?_⟩⟩
          have elit : (0 : Int32).toInt = 0 := rfl
          exfalso
          exact c922 (own_uniq g ii.toInt 3 doc.toInt _ _ (by rw [hnt] at ki; exact ki.2) ki.1 q917 pk0)
      · have A928 := A230.cast (Ls' := #[.val (.int xx), .val (.int xy), .val (.int xc), .val (.int xq), .val (.int xz), .val (.int (4 : Int32)), .val (.int v19), .val (.ref b24), .val (.int doc), .val (.int ii), .val (.ref b196), .unset, .unset]) rfl (by rw [hn]) rfl
        have hnt : n.toInt = 4 := by rw [hn]; rfl
        have A929 := A928.iload (v := (4 : Int32)) (pc' := 199) at_197 rfl rfl
        have A931 := A929.ifNo (pc' := 202) at_199 (tlt (igt (x := (4 : Int32)) (y := (0 : Int32)) rfl rfl (by decide : (0 : Int) < 4))).2.2.2 rfl
        have A932 := A931.aload (v := (.ref b196)) (pc' := 204) at_202 rfl rfl rfl
        have A933 := A932.aload (v := (.ref b24)) (pc' := 206) at_204 rfl rfl rfl
        have A934 := A933.iconst (z := (0 : Int32)) (pc' := 207) at_206 rfl rfl
        have f935 := (f225.keep K212 (ninS ne203 nin0))
        have A936 := A934.iaload (i := 0) (v := (.int d0)) (pc' := 208) at_207 f935 rfl (by decide) rfl rfl
        have A937 := A936.iconst (z := (1 : Int32)) (pc' := 209) at_208 rfl rfl
        have f938 := (X200.keep K212)
        obtain ⟨h942, ⟨K943, f944, f945, f946, f947, f948, q941⟩, A939⟩ := W.kV (A937.callV (a := b196) (argsL := [(.int d0), (.int (1 : Int32))]) (rest := []) (C' := 4) (S' := 13) (pc' := 212) at_209 f938 (hw _ (List.mem_of_getElem? (i := 16) rfl)) (hw _ (List.mem_of_getElem? (i := 17) rfl)) (fun hZ => notFace_of_selects (args := #[]) (mvT hZ (hw _ (List.mem_of_getElem? (i := 19) rfl)))) (hw _ (List.mem_of_getElem? (i := 19) rfl)) (hw _ (List.mem_of_getElem? (i := 18) rfl)) (hw _ (List.mem_of_getElem? (i := 5) rfl)) (hw _ (List.mem_of_getElem? (i := 20) rfl)) (rm3_0 l Z a0 hw n0 [] (b196) (d0) ((1 : Int32)) (b213) (b214) ((fun _ => (.int (0 : Int32)))) ((fun _ => (.int (0 : Int32)))) h211 A937.size f938 g198 f219 f220 f221 f222 f223 g215 g217 f224 ne227 ne229) rfl rfl pd_5 rfl rfl (by decide) (by decide) (Nat.le_of_ble_eq_true rfl) (by decide) (by decide) rfl rfl rfl)
        have A949 := A939.iload (v := (4 : Int32)) (pc' := 214) at_212 rfl rfl
        have A950 := A949.iconst (z := (1 : Int32)) (pc' := 215) at_214 rfl rfl
        have A952 := A950.icmpNo (pc' := 218) at_215 (tlt (igt (x := (4 : Int32)) (y := (1 : Int32)) rfl rfl (by decide : (1 : Int) < 4))).2.2.2 rfl
        have A953 := A952.aload (v := (.ref b196)) (pc' := 220) at_218 rfl rfl rfl
        have A954 := A953.aload (v := (.ref b24)) (pc' := 222) at_220 rfl rfl rfl
        have A955 := A954.iconst (z := (1 : Int32)) (pc' := 223) at_222 rfl rfl
        have f956 := (f935.keep K943 (ninS ne203 (ninS ne226 (ninS ne228 nin0))))
        have A957 := A955.iaload (i := 1) (v := (.int d1)) (pc' := 224) at_223 f956 rfl (by decide) rfl rfl
        have A958 := A957.iconst (z := (1 : Int32)) (pc' := 225) at_224 rfl rfl
        have f959 := (f938.keep K943)
        obtain ⟨h963, ⟨b965, b966, K964, g967, z968, g969, z970, f971, f972, f973, f974, f975, f976, q962⟩, A960⟩ := W.kV (A958.callV (a := b196) (argsL := [(.int d1), (.int (1 : Int32))]) (rest := []) (C' := 6) (S' := 17) (pc' := 228) at_225 f959 (hw _ (List.mem_of_getElem? (i := 16) rfl)) (hw _ (List.mem_of_getElem? (i := 17) rfl)) (fun hZ => notFace_of_selects (args := #[]) (mvT hZ (hw _ (List.mem_of_getElem? (i := 19) rfl)))) (hw _ (List.mem_of_getElem? (i := 19) rfl)) (hw _ (List.mem_of_getElem? (i := 18) rfl)) (hw _ (List.mem_of_getElem? (i := 5) rfl)) (hw _ (List.mem_of_getElem? (i := 20) rfl)) (rm3_1 l Z a0 hw n0 [] (b196) (d1) ((1 : Int32)) (b213) (b214) ((upd (fun _ => (.int (0 : Int32))) 0 (.int d0))) ((upd (fun _ => (.int (0 : Int32))) 0 (.int (1 : Int32)))) h942 A958.size f959 g198 f944 f945 f946 f947 f948 g215 g217 f224 ne227 ne229) rfl rfl pd_5 rfl rfl (by decide) (by decide) (Nat.le_of_ble_eq_true rfl) (by decide) (by decide) rfl rfl rfl)
        have ne977 : b24 ≠ b965 := Nat.ne_of_lt (Nat.lt_of_lt_of_le f956.lt z968)
        have ne978 : b196 ≠ b965 := Nat.ne_of_lt (Nat.lt_of_lt_of_le f959.lt z968)
        have ne979 : b213 ≠ b965 := Nat.ne_of_lt (Nat.lt_of_lt_of_le f947.lt z968)
        have ne980 : b214 ≠ b965 := Nat.ne_of_lt (Nat.lt_of_lt_of_le f948.lt z968)
        have ne981 : b24 ≠ b966 := Nat.ne_of_lt (Nat.lt_of_lt_of_le f956.lt z970)
        have ne982 : b196 ≠ b966 := Nat.ne_of_lt (Nat.lt_of_lt_of_le f959.lt z970)
        have ne983 : b213 ≠ b966 := Nat.ne_of_lt (Nat.lt_of_lt_of_le f947.lt z970)
        have ne984 : b214 ≠ b966 := Nat.ne_of_lt (Nat.lt_of_lt_of_le f948.lt z970)
        have A985 := A960.iload (v := (4 : Int32)) (pc' := 230) at_228 rfl rfl
        have A986 := A985.iconst (z := (2 : Int32)) (pc' := 231) at_230 rfl rfl
        have A988 := A986.icmpNo (pc' := 234) at_231 (tlt (igt (x := (4 : Int32)) (y := (2 : Int32)) rfl rfl (by decide : (2 : Int) < 4))).2.2.2 rfl
        have A989 := A988.aload (v := (.ref b196)) (pc' := 236) at_234 rfl rfl rfl
        have A990 := A989.aload (v := (.ref b24)) (pc' := 238) at_236 rfl rfl rfl
        have A991 := A990.iconst (z := (2 : Int32)) (pc' := 239) at_238 rfl rfl
        have f992 := (f956.keep K964 (ninS ne203 nin0))
        have A993 := A991.iaload (i := 2) (v := (.int d2)) (pc' := 240) at_239 f992 rfl (by decide) rfl rfl
        have A994 := A993.iconst (z := (1 : Int32)) (pc' := 241) at_240 rfl rfl
        have f995 := (f959.keep K964)
        obtain ⟨h999, ⟨b1001, b1002, K1000, g1003, z1004, g1005, z1006, f1007, f1008, f1009, f1010, f1011, f1012, q998⟩, A996⟩ := W.kV (A994.callV (a := b196) (argsL := [(.int d2), (.int (1 : Int32))]) (rest := []) (C' := 8) (S' := 25) (pc' := 244) at_241 f995 (hw _ (List.mem_of_getElem? (i := 16) rfl)) (hw _ (List.mem_of_getElem? (i := 17) rfl)) (fun hZ => notFace_of_selects (args := #[]) (mvT hZ (hw _ (List.mem_of_getElem? (i := 19) rfl)))) (hw _ (List.mem_of_getElem? (i := 19) rfl)) (hw _ (List.mem_of_getElem? (i := 18) rfl)) (hw _ (List.mem_of_getElem? (i := 5) rfl)) (hw _ (List.mem_of_getElem? (i := 20) rfl)) (rm3_2 l Z a0 hw n0 [] (b196) (d2) ((1 : Int32)) (b965) (b966) ((upd (cpy (upd (fun _ => (.int (0 : Int32))) 0 (.int d0)) 0 (fun _ => (.int (0 : Int32))) 0 1) 1 (.int d1))) ((upd (cpy (upd (fun _ => (.int (0 : Int32))) 0 (.int (1 : Int32))) 0 (fun _ => (.int (0 : Int32))) 0 1) 1 (.int (1 : Int32)))) h963 A994.size f995 g198 f971 f972 f973 f974 f975 g967 g969 f976 ne978 ne982) rfl rfl pd_5 rfl rfl (by decide) (by decide) (Nat.le_of_ble_eq_true rfl) (by decide) (by decide) rfl rfl rfl)
        have ne1013 : b24 ≠ b1001 := Nat.ne_of_lt (Nat.lt_of_lt_of_le f992.lt z1004)
        have ne1014 : b196 ≠ b1001 := Nat.ne_of_lt (Nat.lt_of_lt_of_le f995.lt z1004)
        have f1015 := (f947.keep K964 (ninS (Ne.symm ne227) nin0))
        have ne1016 : b213 ≠ b1001 := Nat.ne_of_lt (Nat.lt_of_lt_of_le f1015.lt z1004)
        have f1017 := (f948.keep K964 (ninS (Ne.symm ne229) nin0))
        have ne1018 : b214 ≠ b1001 := Nat.ne_of_lt (Nat.lt_of_lt_of_le f1017.lt z1004)
        have ne1019 : b965 ≠ b1001 := Nat.ne_of_lt (Nat.lt_of_lt_of_le f974.lt z1004)
        have ne1020 : b966 ≠ b1001 := Nat.ne_of_lt (Nat.lt_of_lt_of_le f975.lt z1004)
        have ne1021 : b24 ≠ b1002 := Nat.ne_of_lt (Nat.lt_of_lt_of_le f992.lt z1006)
        have ne1022 : b196 ≠ b1002 := Nat.ne_of_lt (Nat.lt_of_lt_of_le f995.lt z1006)
        have ne1023 : b213 ≠ b1002 := Nat.ne_of_lt (Nat.lt_of_lt_of_le f1015.lt z1006)
        have ne1024 : b214 ≠ b1002 := Nat.ne_of_lt (Nat.lt_of_lt_of_le f1017.lt z1006)
        have ne1025 : b965 ≠ b1002 := Nat.ne_of_lt (Nat.lt_of_lt_of_le f974.lt z1006)
        have ne1026 : b966 ≠ b1002 := Nat.ne_of_lt (Nat.lt_of_lt_of_le f975.lt z1006)
        have A1027 := A996.iload (v := (4 : Int32)) (pc' := 246) at_244 rfl rfl
        have A1028 := A1027.iconst (z := (3 : Int32)) (pc' := 247) at_246 rfl rfl
        have A1030 := A1028.icmpNo (pc' := 250) at_247 (tlt (igt (x := (4 : Int32)) (y := (3 : Int32)) rfl rfl (by decide : (3 : Int) < 4))).2.2.2 rfl
        have A1031 := A1030.aload (v := (.ref b196)) (pc' := 252) at_250 rfl rfl rfl
        have A1032 := A1031.aload (v := (.ref b24)) (pc' := 254) at_252 rfl rfl rfl
        have A1033 := A1032.iconst (z := (3 : Int32)) (pc' := 255) at_254 rfl rfl
        have f1034 := (f992.keep K1000 (ninS ne203 nin0))
        have A1035 := A1033.iaload (i := 3) (v := (.int d3)) (pc' := 256) at_255 f1034 rfl (by decide) rfl rfl
        have A1036 := A1035.iconst (z := (1 : Int32)) (pc' := 257) at_256 rfl rfl
        have f1037 := (f995.keep K1000)
        obtain ⟨h1041, ⟨K1042, f1043, f1044, f1045, f1046, f1047, q1040⟩, A1038⟩ := W.kV (A1036.callV (a := b196) (argsL := [(.int d3), (.int (1 : Int32))]) (rest := []) (C' := 8) (S' := 25) (pc' := 260) at_257 f1037 (hw _ (List.mem_of_getElem? (i := 16) rfl)) (hw _ (List.mem_of_getElem? (i := 17) rfl)) (fun hZ => notFace_of_selects (args := #[]) (mvT hZ (hw _ (List.mem_of_getElem? (i := 19) rfl)))) (hw _ (List.mem_of_getElem? (i := 19) rfl)) (hw _ (List.mem_of_getElem? (i := 18) rfl)) (hw _ (List.mem_of_getElem? (i := 5) rfl)) (hw _ (List.mem_of_getElem? (i := 20) rfl)) (rm3_3 l Z a0 hw n0 [] (b196) (d3) ((1 : Int32)) (b1001) (b1002) ((upd (cpy (upd (cpy (upd (fun _ => (.int (0 : Int32))) 0 (.int d0)) 0 (fun _ => (.int (0 : Int32))) 0 1) 1 (.int d1)) 0 (fun _ => (.int (0 : Int32))) 0 2) 2 (.int d2))) ((upd (cpy (upd (cpy (upd (fun _ => (.int (0 : Int32))) 0 (.int (1 : Int32))) 0 (fun _ => (.int (0 : Int32))) 0 1) 1 (.int (1 : Int32))) 0 (fun _ => (.int (0 : Int32))) 0 2) 2 (.int (1 : Int32)))) h999 A1036.size f1037 g198 f1007 f1008 f1009 f1010 f1011 g1003 g1005 f1012 ne1014 ne1022) rfl rfl pd_5 rfl rfl (by decide) (by decide) (Nat.le_of_ble_eq_true rfl) (by decide) (by decide) rfl rfl rfl)
        have A1048 := A1038.iload (v := (4 : Int32)) (pc' := 262) at_260 rfl rfl
        have A1049 := A1048.iconst (z := (4 : Int32)) (pc' := 263) at_262 rfl rfl
        have A1051 := A1049.icmpYes (pc' := 276) at_263 (flt (ingt (x := (4 : Int32)) (y := (4 : Int32)) rfl rfl (by decide : ¬ ((4 : Int) < 4)))).2.2.2 (by decide) (by decide)
        have A1052 := A1051.iload (v := (4 : Int32)) (pc' := 278) at_276 rfl rfl
        have A1053 := A1052.iconst (z := (5 : Int32)) (pc' := 279) at_278 rfl rfl
        have A1055 := A1053.icmpYes (pc' := 292) at_279 (flt (ingt (x := (4 : Int32)) (y := (5 : Int32)) rfl rfl (by decide : ¬ ((5 : Int) < 4)))).2.2.2 (by decide) (by decide)
        have A1056 := A1055.iload (v := (4 : Int32)) (pc' := 294) at_292 rfl rfl
        have A1057 := A1056.bipush (z := (6 : Int32)) (pc' := 296) at_294 rfl rfl
        have A1059 := A1057.icmpYes (pc' := 310) at_296 (flt (ingt (x := (4 : Int32)) (y := (6 : Int32)) rfl rfl (by decide : ¬ ((6 : Int) < 4)))).2.2.2 (by decide) (by decide)
        have A1060 := A1059.iload (v := (4 : Int32)) (pc' := 312) at_310 rfl rfl
        have A1061 := A1060.istore (Ls' := #[.val (.int xx), .val (.int xy), .val (.int xc), .val (.int xq), .val (.int xz), .val (.int (4 : Int32)), .val (.int v19), .val (.ref b24), .val (.int doc), .val (.int ii), .val (.ref b196), .val (.int (4 : Int32)), .unset]) (pc' := 314) at_312 rfl rfl
        have A1062 := A1061.iload (v := (4 : Int32)) (pc' := 316) at_314 rfl rfl
        have A1063 := A1062.bipush (z := (7 : Int32)) (pc' := 318) at_316 rfl rfl
        have A1064 := A1063.iload (v := ii) (pc' := 320) at_318 rfl rfl
        have A1065 := A1064.iload (v := (4 : Int32)) (pc' := 322) at_320 rfl rfl
        have A1066 := A1065.aload (v := (.ref b24)) (pc' := 324) at_322 rfl rfl rfl
        have A1067 := A1066.iload (v := doc) (pc' := 326) at_324 rfl rfl
        have f1068 := (f1034.keep K1042 (ninS ne203 (ninS ne1013 (ninS ne1021 nin0))))
        obtain ⟨r1070, _, ⟨rfl, q1071⟩, A1069⟩ := W.kI (A1067.callS (argsL := [(.int (4 : Int32)), (.int (7 : Int32)), (.int ii), (.int (4 : Int32)), (.ref b24), (.int doc)]) (rest := []) (C' := 8) (S' := 25) (pc' := 329) at_326 (hw _ (List.mem_of_getElem? (i := 35) rfl)) (hw _ (List.mem_of_getElem? (i := 36) rfl)) (hw _ (List.mem_of_getElem? (i := 37) rfl)) (hw _ (List.mem_of_getElem? (i := 38) rfl)) (rm6 l Z a0 hw n0 [] ((4 : Int32)) ((7 : Int32)) (ii) ((4 : Int32)) (b24) (doc) ((upd (upd (upd (upd (upd (upd (upd (upd (fun _ => (.int (0 : Int32))) 0 (.int d0)) 1 (.int d1)) 2 (.int d2)) 3 (.int d3)) 4 (.int d4)) 5 (.int d5)) 6 (.int d6)) 7 (.int d7))) (d7) h1041 A1067.size f1068 (by first | (constructor <;> decide) | rfl) (by first | (constructor <;> decide) | rfl)) rfl rfl pd_4 rfl rfl (by decide) (by decide) (Nat.le_of_ble_eq_true rfl) (by decide) (by decide) rfl rfl rfl)
        have pk8 : own_from g ii.toInt 4 doc.toInt 8 ((4 : Int32)).toInt := own_from0 g ii.toInt 4 doc.toInt (by decide)
        have pk7 : own_from g ii.toInt 4 doc.toInt 7 r1070.toInt := own_step g ii.toInt 4 doc.toInt 7 r1070.toInt ((4 : Int32)).toInt d7.toInt (by decide) (by rw [e_g]; rfl) pk8 q1071
        have A1073 := A1069.istore (Ls' := #[.val (.int xx), .val (.int xy), .val (.int xc), .val (.int xq), .val (.int xz), .val (.int (4 : Int32)), .val (.int v19), .val (.ref b24), .val (.int doc), .val (.int ii), .val (.ref b196), .val (.int r1070), .unset]) (pc' := 331) at_329 rfl rfl
        have A1074 := A1073.iload (v := r1070) (pc' := 333) at_331 rfl rfl
        have A1075 := A1074.bipush (z := (6 : Int32)) (pc' := 335) at_333 rfl rfl
        have A1076 := A1075.iload (v := ii) (pc' := 337) at_335 rfl rfl
        have A1077 := A1076.iload (v := (4 : Int32)) (pc' := 339) at_337 rfl rfl
        have A1078 := A1077.aload (v := (.ref b24)) (pc' := 341) at_339 rfl rfl rfl
        have A1079 := A1078.iload (v := doc) (pc' := 343) at_341 rfl rfl
        obtain ⟨r1081, _, ⟨rfl, q1082⟩, A1080⟩ := W.kI (A1079.callS (argsL := [(.int r1070), (.int (6 : Int32)), (.int ii), (.int (4 : Int32)), (.ref b24), (.int doc)]) (rest := []) (C' := 8) (S' := 25) (pc' := 346) at_343 (hw _ (List.mem_of_getElem? (i := 35) rfl)) (hw _ (List.mem_of_getElem? (i := 36) rfl)) (hw _ (List.mem_of_getElem? (i := 37) rfl)) (hw _ (List.mem_of_getElem? (i := 38) rfl)) (rm6 l Z a0 hw n0 [] (r1070) ((6 : Int32)) (ii) ((4 : Int32)) (b24) (doc) ((upd (upd (upd (upd (upd (upd (upd (upd (fun _ => (.int (0 : Int32))) 0 (.int d0)) 1 (.int d1)) 2 (.int d2)) 3 (.int d3)) 4 (.int d4)) 5 (.int d5)) 6 (.int d6)) 7 (.int d7))) (d6) h1041 A1079.size f1068 (by first | (constructor <;> decide) | rfl) (by first | (constructor <;> decide) | rfl)) rfl rfl pd_4 rfl rfl (by decide) (by decide) (Nat.le_of_ble_eq_true rfl) (by decide) (by decide) rfl rfl rfl)
        have pk6 : own_from g ii.toInt 4 doc.toInt 6 r1081.toInt := own_step g ii.toInt 4 doc.toInt 6 r1081.toInt (r1070).toInt d6.toInt (by decide) (by rw [e_g]; rfl) pk7 q1082
        have A1084 := A1080.istore (Ls' := #[.val (.int xx), .val (.int xy), .val (.int xc), .val (.int xq), .val (.int xz), .val (.int (4 : Int32)), .val (.int v19), .val (.ref b24), .val (.int doc), .val (.int ii), .val (.ref b196), .val (.int r1081), .unset]) (pc' := 348) at_346 rfl rfl
        have A1085 := A1084.iload (v := r1081) (pc' := 350) at_348 rfl rfl
        have A1086 := A1085.iconst (z := (5 : Int32)) (pc' := 351) at_350 rfl rfl
        have A1087 := A1086.iload (v := ii) (pc' := 353) at_351 rfl rfl
        have A1088 := A1087.iload (v := (4 : Int32)) (pc' := 355) at_353 rfl rfl
        have A1089 := A1088.aload (v := (.ref b24)) (pc' := 357) at_355 rfl rfl rfl
        have A1090 := A1089.iload (v := doc) (pc' := 359) at_357 rfl rfl
        obtain ⟨r1092, _, ⟨rfl, q1093⟩, A1091⟩ := W.kI (A1090.callS (argsL := [(.int r1081), (.int (5 : Int32)), (.int ii), (.int (4 : Int32)), (.ref b24), (.int doc)]) (rest := []) (C' := 8) (S' := 25) (pc' := 362) at_359 (hw _ (List.mem_of_getElem? (i := 35) rfl)) (hw _ (List.mem_of_getElem? (i := 36) rfl)) (hw _ (List.mem_of_getElem? (i := 37) rfl)) (hw _ (List.mem_of_getElem? (i := 38) rfl)) (rm6 l Z a0 hw n0 [] (r1081) ((5 : Int32)) (ii) ((4 : Int32)) (b24) (doc) ((upd (upd (upd (upd (upd (upd (upd (upd (fun _ => (.int (0 : Int32))) 0 (.int d0)) 1 (.int d1)) 2 (.int d2)) 3 (.int d3)) 4 (.int d4)) 5 (.int d5)) 6 (.int d6)) 7 (.int d7))) (d5) h1041 A1090.size f1068 (by first | (constructor <;> decide) | rfl) (by first | (constructor <;> decide) | rfl)) rfl rfl pd_4 rfl rfl (by decide) (by decide) (Nat.le_of_ble_eq_true rfl) (by decide) (by decide) rfl rfl rfl)
        have pk5 : own_from g ii.toInt 4 doc.toInt 5 r1092.toInt := own_step g ii.toInt 4 doc.toInt 5 r1092.toInt (r1081).toInt d5.toInt (by decide) (by rw [e_g]; rfl) pk6 q1093
        have A1095 := A1091.istore (Ls' := #[.val (.int xx), .val (.int xy), .val (.int xc), .val (.int xq), .val (.int xz), .val (.int (4 : Int32)), .val (.int v19), .val (.ref b24), .val (.int doc), .val (.int ii), .val (.ref b196), .val (.int r1092), .unset]) (pc' := 364) at_362 rfl rfl
        have A1096 := A1095.iload (v := r1092) (pc' := 366) at_364 rfl rfl
        have A1097 := A1096.iconst (z := (4 : Int32)) (pc' := 367) at_366 rfl rfl
        have A1098 := A1097.iload (v := ii) (pc' := 369) at_367 rfl rfl
        have A1099 := A1098.iload (v := (4 : Int32)) (pc' := 371) at_369 rfl rfl
        have A1100 := A1099.aload (v := (.ref b24)) (pc' := 373) at_371 rfl rfl rfl
        have A1101 := A1100.iload (v := doc) (pc' := 375) at_373 rfl rfl
        obtain ⟨r1103, _, ⟨rfl, q1104⟩, A1102⟩ := W.kI (A1101.callS (argsL := [(.int r1092), (.int (4 : Int32)), (.int ii), (.int (4 : Int32)), (.ref b24), (.int doc)]) (rest := []) (C' := 8) (S' := 25) (pc' := 378) at_375 (hw _ (List.mem_of_getElem? (i := 35) rfl)) (hw _ (List.mem_of_getElem? (i := 36) rfl)) (hw _ (List.mem_of_getElem? (i := 37) rfl)) (hw _ (List.mem_of_getElem? (i := 38) rfl)) (rm6 l Z a0 hw n0 [] (r1092) ((4 : Int32)) (ii) ((4 : Int32)) (b24) (doc) ((upd (upd (upd (upd (upd (upd (upd (upd (fun _ => (.int (0 : Int32))) 0 (.int d0)) 1 (.int d1)) 2 (.int d2)) 3 (.int d3)) 4 (.int d4)) 5 (.int d5)) 6 (.int d6)) 7 (.int d7))) (d4) h1041 A1101.size f1068 (by first | (constructor <;> decide) | rfl) (by first | (constructor <;> decide) | rfl)) rfl rfl pd_4 rfl rfl (by decide) (by decide) (Nat.le_of_ble_eq_true rfl) (by decide) (by decide) rfl rfl rfl)
        have pk4 : own_from g ii.toInt 4 doc.toInt 4 r1103.toInt := own_step g ii.toInt 4 doc.toInt 4 r1103.toInt (r1092).toInt d4.toInt (by decide) (by rw [e_g]; rfl) pk5 q1104
        have A1106 := A1102.istore (Ls' := #[.val (.int xx), .val (.int xy), .val (.int xc), .val (.int xq), .val (.int xz), .val (.int (4 : Int32)), .val (.int v19), .val (.ref b24), .val (.int doc), .val (.int ii), .val (.ref b196), .val (.int r1103), .unset]) (pc' := 380) at_378 rfl rfl
        have A1107 := A1106.iload (v := r1103) (pc' := 382) at_380 rfl rfl
        have A1108 := A1107.iconst (z := (3 : Int32)) (pc' := 383) at_382 rfl rfl
        have A1109 := A1108.iload (v := ii) (pc' := 385) at_383 rfl rfl
        have A1110 := A1109.iload (v := (4 : Int32)) (pc' := 387) at_385 rfl rfl
        have A1111 := A1110.aload (v := (.ref b24)) (pc' := 389) at_387 rfl rfl rfl
        have A1112 := A1111.iload (v := doc) (pc' := 391) at_389 rfl rfl
        obtain ⟨r1114, _, ⟨rfl, q1115⟩, A1113⟩ := W.kI (A1112.callS (argsL := [(.int r1103), (.int (3 : Int32)), (.int ii), (.int (4 : Int32)), (.ref b24), (.int doc)]) (rest := []) (C' := 8) (S' := 25) (pc' := 394) at_391 (hw _ (List.mem_of_getElem? (i := 35) rfl)) (hw _ (List.mem_of_getElem? (i := 36) rfl)) (hw _ (List.mem_of_getElem? (i := 37) rfl)) (hw _ (List.mem_of_getElem? (i := 38) rfl)) (rm6 l Z a0 hw n0 [] (r1103) ((3 : Int32)) (ii) ((4 : Int32)) (b24) (doc) ((upd (upd (upd (upd (upd (upd (upd (upd (fun _ => (.int (0 : Int32))) 0 (.int d0)) 1 (.int d1)) 2 (.int d2)) 3 (.int d3)) 4 (.int d4)) 5 (.int d5)) 6 (.int d6)) 7 (.int d7))) (d3) h1041 A1112.size f1068 (by first | (constructor <;> decide) | rfl) (by first | (constructor <;> decide) | rfl)) rfl rfl pd_4 rfl rfl (by decide) (by decide) (Nat.le_of_ble_eq_true rfl) (by decide) (by decide) rfl rfl rfl)
        have pk3 : own_from g ii.toInt 4 doc.toInt 3 r1114.toInt := own_step g ii.toInt 4 doc.toInt 3 r1114.toInt (r1103).toInt d3.toInt (by decide) (by rw [e_g]; rfl) pk4 q1115
        have A1117 := A1113.istore (Ls' := #[.val (.int xx), .val (.int xy), .val (.int xc), .val (.int xq), .val (.int xz), .val (.int (4 : Int32)), .val (.int v19), .val (.ref b24), .val (.int doc), .val (.int ii), .val (.ref b196), .val (.int r1114), .unset]) (pc' := 396) at_394 rfl rfl
        have A1118 := A1117.iload (v := r1114) (pc' := 398) at_396 rfl rfl
        have A1119 := A1118.iconst (z := (2 : Int32)) (pc' := 399) at_398 rfl rfl
        have A1120 := A1119.iload (v := ii) (pc' := 401) at_399 rfl rfl
        have A1121 := A1120.iload (v := (4 : Int32)) (pc' := 403) at_401 rfl rfl
        have A1122 := A1121.aload (v := (.ref b24)) (pc' := 405) at_403 rfl rfl rfl
        have A1123 := A1122.iload (v := doc) (pc' := 407) at_405 rfl rfl
        obtain ⟨r1125, _, ⟨rfl, q1126⟩, A1124⟩ := W.kI (A1123.callS (argsL := [(.int r1114), (.int (2 : Int32)), (.int ii), (.int (4 : Int32)), (.ref b24), (.int doc)]) (rest := []) (C' := 8) (S' := 25) (pc' := 410) at_407 (hw _ (List.mem_of_getElem? (i := 35) rfl)) (hw _ (List.mem_of_getElem? (i := 36) rfl)) (hw _ (List.mem_of_getElem? (i := 37) rfl)) (hw _ (List.mem_of_getElem? (i := 38) rfl)) (rm6 l Z a0 hw n0 [] (r1114) ((2 : Int32)) (ii) ((4 : Int32)) (b24) (doc) ((upd (upd (upd (upd (upd (upd (upd (upd (fun _ => (.int (0 : Int32))) 0 (.int d0)) 1 (.int d1)) 2 (.int d2)) 3 (.int d3)) 4 (.int d4)) 5 (.int d5)) 6 (.int d6)) 7 (.int d7))) (d2) h1041 A1123.size f1068 (by first | (constructor <;> decide) | rfl) (by first | (constructor <;> decide) | rfl)) rfl rfl pd_4 rfl rfl (by decide) (by decide) (Nat.le_of_ble_eq_true rfl) (by decide) (by decide) rfl rfl rfl)
        have pk2 : own_from g ii.toInt 4 doc.toInt 2 r1125.toInt := own_step g ii.toInt 4 doc.toInt 2 r1125.toInt (r1114).toInt d2.toInt (by decide) (by rw [e_g]; rfl) pk3 q1126
        have A1128 := A1124.istore (Ls' := #[.val (.int xx), .val (.int xy), .val (.int xc), .val (.int xq), .val (.int xz), .val (.int (4 : Int32)), .val (.int v19), .val (.ref b24), .val (.int doc), .val (.int ii), .val (.ref b196), .val (.int r1125), .unset]) (pc' := 412) at_410 rfl rfl
        have A1129 := A1128.iload (v := r1125) (pc' := 414) at_412 rfl rfl
        have A1130 := A1129.iconst (z := (1 : Int32)) (pc' := 415) at_414 rfl rfl
        have A1131 := A1130.iload (v := ii) (pc' := 417) at_415 rfl rfl
        have A1132 := A1131.iload (v := (4 : Int32)) (pc' := 419) at_417 rfl rfl
        have A1133 := A1132.aload (v := (.ref b24)) (pc' := 421) at_419 rfl rfl rfl
        have A1134 := A1133.iload (v := doc) (pc' := 423) at_421 rfl rfl
        obtain ⟨r1136, _, ⟨rfl, q1137⟩, A1135⟩ := W.kI (A1134.callS (argsL := [(.int r1125), (.int (1 : Int32)), (.int ii), (.int (4 : Int32)), (.ref b24), (.int doc)]) (rest := []) (C' := 8) (S' := 25) (pc' := 426) at_423 (hw _ (List.mem_of_getElem? (i := 35) rfl)) (hw _ (List.mem_of_getElem? (i := 36) rfl)) (hw _ (List.mem_of_getElem? (i := 37) rfl)) (hw _ (List.mem_of_getElem? (i := 38) rfl)) (rm6 l Z a0 hw n0 [] (r1125) ((1 : Int32)) (ii) ((4 : Int32)) (b24) (doc) ((upd (upd (upd (upd (upd (upd (upd (upd (fun _ => (.int (0 : Int32))) 0 (.int d0)) 1 (.int d1)) 2 (.int d2)) 3 (.int d3)) 4 (.int d4)) 5 (.int d5)) 6 (.int d6)) 7 (.int d7))) (d1) h1041 A1134.size f1068 (by first | (constructor <;> decide) | rfl) (by first | (constructor <;> decide) | rfl)) rfl rfl pd_4 rfl rfl (by decide) (by decide) (Nat.le_of_ble_eq_true rfl) (by decide) (by decide) rfl rfl rfl)
        have pk1 : own_from g ii.toInt 4 doc.toInt 1 r1136.toInt := own_step g ii.toInt 4 doc.toInt 1 r1136.toInt (r1125).toInt d1.toInt (by decide) (by rw [e_g]; rfl) pk2 q1137
        have A1139 := A1135.istore (Ls' := #[.val (.int xx), .val (.int xy), .val (.int xc), .val (.int xq), .val (.int xz), .val (.int (4 : Int32)), .val (.int v19), .val (.ref b24), .val (.int doc), .val (.int ii), .val (.ref b196), .val (.int r1136), .unset]) (pc' := 428) at_426 rfl rfl
        have A1140 := A1139.iload (v := r1136) (pc' := 430) at_428 rfl rfl
        have A1141 := A1140.iconst (z := (0 : Int32)) (pc' := 431) at_430 rfl rfl
        have A1142 := A1141.iload (v := ii) (pc' := 433) at_431 rfl rfl
        have A1143 := A1142.iload (v := (4 : Int32)) (pc' := 435) at_433 rfl rfl
        have A1144 := A1143.aload (v := (.ref b24)) (pc' := 437) at_435 rfl rfl rfl
        have A1145 := A1144.iload (v := doc) (pc' := 439) at_437 rfl rfl
        obtain ⟨r1147, _, ⟨rfl, q1148⟩, A1146⟩ := W.kI (A1145.callS (argsL := [(.int r1136), (.int (0 : Int32)), (.int ii), (.int (4 : Int32)), (.ref b24), (.int doc)]) (rest := []) (C' := 8) (S' := 25) (pc' := 442) at_439 (hw _ (List.mem_of_getElem? (i := 35) rfl)) (hw _ (List.mem_of_getElem? (i := 36) rfl)) (hw _ (List.mem_of_getElem? (i := 37) rfl)) (hw _ (List.mem_of_getElem? (i := 38) rfl)) (rm6 l Z a0 hw n0 [] (r1136) ((0 : Int32)) (ii) ((4 : Int32)) (b24) (doc) ((upd (upd (upd (upd (upd (upd (upd (upd (fun _ => (.int (0 : Int32))) 0 (.int d0)) 1 (.int d1)) 2 (.int d2)) 3 (.int d3)) 4 (.int d4)) 5 (.int d5)) 6 (.int d6)) 7 (.int d7))) (d0) h1041 A1145.size f1068 (by first | (constructor <;> decide) | rfl) (by first | (constructor <;> decide) | rfl)) rfl rfl pd_4 rfl rfl (by decide) (by decide) (Nat.le_of_ble_eq_true rfl) (by decide) (by decide) rfl rfl rfl)
        have pk0 : own_from g ii.toInt 4 doc.toInt 0 r1147.toInt := own_step g ii.toInt 4 doc.toInt 0 r1147.toInt (r1136).toInt d0.toInt (by decide) (by rw [e_g]; rfl) pk1 q1148
        have A1150 := A1146.istore (Ls' := #[.val (.int xx), .val (.int xy), .val (.int xc), .val (.int xq), .val (.int xz), .val (.int (4 : Int32)), .val (.int v19), .val (.ref b24), .val (.int doc), .val (.int ii), .val (.ref b196), .val (.int r1147), .unset]) (pc' := 444) at_442 rfl rfl
        have A1151 := A1150.aload (v := (.ref b196)) (pc' := 446) at_444 rfl rfl rfl
        have A1152 := A1151.iload (v := ii) (pc' := 448) at_446 rfl rfl
        have A1153 := A1152.iload (v := doc) (pc' := 450) at_448 rfl rfl
        have f1156 := (f1037.keep K1042)
        obtain ⟨r1155, _, ⟨rfl, q1157⟩, A1154⟩ := W.kI (A1153.callV (a := b196) (argsL := [(.int ii), (.int doc)]) (rest := []) (C' := 8) (S' := 25) (pc' := 453) at_450 f1156 (hw _ (List.mem_of_getElem? (i := 39) rfl)) (hw _ (List.mem_of_getElem? (i := 40) rfl)) (fun hZ => notFace_of_selects (args := #[]) (mvT hZ (hw _ (List.mem_of_getElem? (i := 42) rfl)))) (hw _ (List.mem_of_getElem? (i := 42) rfl)) (hw _ (List.mem_of_getElem? (i := 41) rfl)) (hw _ (List.mem_of_getElem? (i := 5) rfl)) (hw _ (List.mem_of_getElem? (i := 43) rfl)) (rm7 l Z a0 hw n0 [] (b196) (ii) (doc) (b1001) (4) ((4 : Int32)) ((upd (upd (cpy (upd (cpy (upd (fun _ => (.int (0 : Int32))) 0 (.int d0)) 0 (fun _ => (.int (0 : Int32))) 0 1) 1 (.int d1)) 0 (fun _ => (.int (0 : Int32))) 0 2) 2 (.int d2)) 3 (.int d3))) (g) h1041 A1153.size f1043 f1045 f1046 (by exact ⟨ki.1, by rw [hnt] at ki; exact ki.2, by decide, by decide, fun j k h1 h2 => hinc j k h1 (Int.lt_of_lt_of_le h2 (by decide))⟩) (by intro j hj; have lz : (4 : Int32).toInt = 4 := rfl; have hj' : j = 0 ∨ j = 1 ∨ j = 2 ∨ j = 3 := (by omega); rw [e_g]; rcases hj' with rfl | rfl | rfl | rfl <;> rfl)) rfl rfl pd_0 rfl rfl (by decide) (by decide) (Nat.le_of_ble_eq_true rfl) (by decide) (by decide) rfl rfl rfl)
        have A1159 := A1154.istore (Ls' := #[.val (.int xx), .val (.int xy), .val (.int xc), .val (.int xq), .val (.int xz), .val (.int (4 : Int32)), .val (.int v19), .val (.ref b24), .val (.int doc), .val (.int ii), .val (.ref b196), .val (.int r1147), .val (.int r1155)]) (pc' := 455) at_453 rfl rfl
        have A1160 := A1159.iload (v := r1155) (pc' := 457) at_455 rfl rfl
        have A1161 := A1160.iload (v := r1147) (pc' := 459) at_457 rfl rfl
        by_cases c1162 : r1155.toInt = r1147.toInt
        · have A1163 := A1161.icmpNo (pc' := 462) at_459 (teq (ieq (x := r1155) (y := r1147) rfl rfl c1162)).2 rfl
          have A1164 := A1163.iconst (z := (1 : Int32)) (pc' := 463) at_462 rfl rfl
          have A1165 := A1164.goto (pc' := 467) at_463 (by decide) (by decide)
          refine A1165.retN (t := .boolean) (z' := (1 : Int32)) at_467 (by decide) (by decide) (by simp) rfl ⟨_, rfl, ⟨trivial, ?_⟩⟩
          have elit : (1 : Int32).toInt = 1 := rfl
          rfl
        · have A1166 := A1161.icmpYes (pc' := 466) at_459 (feq (ine (x := r1155) (y := r1147) rfl rfl c1162)).2 (by decide) (by decide)
          have A1167 := A1166.iconst (z := (0 : Int32)) (pc' := 467) at_466 rfl rfl
          refine A1167.retN (t := .boolean) (z' := (0 : Int32)) at_467 (by decide) (by decide) (by simp) rfl ⟨_, rfl, ⟨trivial, ?_⟩⟩
          have elit : (0 : Int32).toInt = 0 := rfl
          exfalso
          exact c1162 (own_uniq g ii.toInt 4 doc.toInt _ _ (by rw [hnt] at ki; exact ki.2) ki.1 q1157 pk0)
      · have A1168 := A230.cast (Ls' := #[.val (.int xx), .val (.int xy), .val (.int xc), .val (.int xq), .val (.int xz), .val (.int (5 : Int32)), .val (.int v19), .val (.ref b24), .val (.int doc), .val (.int ii), .val (.ref b196), .unset, .unset]) rfl (by rw [hn]) rfl
        have hnt : n.toInt = 5 := by rw [hn]; rfl
        have A1169 := A1168.iload (v := (5 : Int32)) (pc' := 199) at_197 rfl rfl
        have A1171 := A1169.ifNo (pc' := 202) at_199 (tlt (igt (x := (5 : Int32)) (y := (0 : Int32)) rfl rfl (by decide : (0 : Int) < 5))).2.2.2 rfl
        have A1172 := A1171.aload (v := (.ref b196)) (pc' := 204) at_202 rfl rfl rfl
        have A1173 := A1172.aload (v := (.ref b24)) (pc' := 206) at_204 rfl rfl rfl
        have A1174 := A1173.iconst (z := (0 : Int32)) (pc' := 207) at_206 rfl rfl
        have f1175 := (f225.keep K212 (ninS ne203 nin0))
        have A1176 := A1174.iaload (i := 0) (v := (.int d0)) (pc' := 208) at_207 f1175 rfl (by decide) rfl rfl
        have A1177 := A1176.iconst (z := (1 : Int32)) (pc' := 209) at_208 rfl rfl
        have f1178 := (X200.keep K212)
        obtain ⟨h1182, ⟨K1183, f1184, f1185, f1186, f1187, f1188, q1181⟩, A1179⟩ := W.kV (A1177.callV (a := b196) (argsL := [(.int d0), (.int (1 : Int32))]) (rest := []) (C' := 4) (S' := 13) (pc' := 212) at_209 f1178 (hw _ (List.mem_of_getElem? (i := 16) rfl)) (hw _ (List.mem_of_getElem? (i := 17) rfl)) (fun hZ => notFace_of_selects (args := #[]) (mvT hZ (hw _ (List.mem_of_getElem? (i := 19) rfl)))) (hw _ (List.mem_of_getElem? (i := 19) rfl)) (hw _ (List.mem_of_getElem? (i := 18) rfl)) (hw _ (List.mem_of_getElem? (i := 5) rfl)) (hw _ (List.mem_of_getElem? (i := 20) rfl)) (rm3_0 l Z a0 hw n0 [] (b196) (d0) ((1 : Int32)) (b213) (b214) ((fun _ => (.int (0 : Int32)))) ((fun _ => (.int (0 : Int32)))) h211 A1177.size f1178 g198 f219 f220 f221 f222 f223 g215 g217 f224 ne227 ne229) rfl rfl pd_5 rfl rfl (by decide) (by decide) (Nat.le_of_ble_eq_true rfl) (by decide) (by decide) rfl rfl rfl)
        have A1189 := A1179.iload (v := (5 : Int32)) (pc' := 214) at_212 rfl rfl
        have A1190 := A1189.iconst (z := (1 : Int32)) (pc' := 215) at_214 rfl rfl
        have A1192 := A1190.icmpNo (pc' := 218) at_215 (tlt (igt (x := (5 : Int32)) (y := (1 : Int32)) rfl rfl (by decide : (1 : Int) < 5))).2.2.2 rfl
        have A1193 := A1192.aload (v := (.ref b196)) (pc' := 220) at_218 rfl rfl rfl
        have A1194 := A1193.aload (v := (.ref b24)) (pc' := 222) at_220 rfl rfl rfl
        have A1195 := A1194.iconst (z := (1 : Int32)) (pc' := 223) at_222 rfl rfl
        have f1196 := (f1175.keep K1183 (ninS ne203 (ninS ne226 (ninS ne228 nin0))))
        have A1197 := A1195.iaload (i := 1) (v := (.int d1)) (pc' := 224) at_223 f1196 rfl (by decide) rfl rfl
        have A1198 := A1197.iconst (z := (1 : Int32)) (pc' := 225) at_224 rfl rfl
        have f1199 := (f1178.keep K1183)
        obtain ⟨h1203, ⟨b1205, b1206, K1204, g1207, z1208, g1209, z1210, f1211, f1212, f1213, f1214, f1215, f1216, q1202⟩, A1200⟩ := W.kV (A1198.callV (a := b196) (argsL := [(.int d1), (.int (1 : Int32))]) (rest := []) (C' := 6) (S' := 17) (pc' := 228) at_225 f1199 (hw _ (List.mem_of_getElem? (i := 16) rfl)) (hw _ (List.mem_of_getElem? (i := 17) rfl)) (fun hZ => notFace_of_selects (args := #[]) (mvT hZ (hw _ (List.mem_of_getElem? (i := 19) rfl)))) (hw _ (List.mem_of_getElem? (i := 19) rfl)) (hw _ (List.mem_of_getElem? (i := 18) rfl)) (hw _ (List.mem_of_getElem? (i := 5) rfl)) (hw _ (List.mem_of_getElem? (i := 20) rfl)) (rm3_1 l Z a0 hw n0 [] (b196) (d1) ((1 : Int32)) (b213) (b214) ((upd (fun _ => (.int (0 : Int32))) 0 (.int d0))) ((upd (fun _ => (.int (0 : Int32))) 0 (.int (1 : Int32)))) h1182 A1198.size f1199 g198 f1184 f1185 f1186 f1187 f1188 g215 g217 f224 ne227 ne229) rfl rfl pd_5 rfl rfl (by decide) (by decide) (Nat.le_of_ble_eq_true rfl) (by decide) (by decide) rfl rfl rfl)
        have ne1217 : b24 ≠ b1205 := Nat.ne_of_lt (Nat.lt_of_lt_of_le f1196.lt z1208)
        have ne1218 : b196 ≠ b1205 := Nat.ne_of_lt (Nat.lt_of_lt_of_le f1199.lt z1208)
        have ne1219 : b213 ≠ b1205 := Nat.ne_of_lt (Nat.lt_of_lt_of_le f1187.lt z1208)
        have ne1220 : b214 ≠ b1205 := Nat.ne_of_lt (Nat.lt_of_lt_of_le f1188.lt z1208)
        have ne1221 : b24 ≠ b1206 := Nat.ne_of_lt (Nat.lt_of_lt_of_le f1196.lt z1210)
        have ne1222 : b196 ≠ b1206 := Nat.ne_of_lt (Nat.lt_of_lt_of_le f1199.lt z1210)
        have ne1223 : b213 ≠ b1206 := Nat.ne_of_lt (Nat.lt_of_lt_of_le f1187.lt z1210)
        have ne1224 : b214 ≠ b1206 := Nat.ne_of_lt (Nat.lt_of_lt_of_le f1188.lt z1210)
        have A1225 := A1200.iload (v := (5 : Int32)) (pc' := 230) at_228 rfl rfl
        have A1226 := A1225.iconst (z := (2 : Int32)) (pc' := 231) at_230 rfl rfl
        have A1228 := A1226.icmpNo (pc' := 234) at_231 (tlt (igt (x := (5 : Int32)) (y := (2 : Int32)) rfl rfl (by decide : (2 : Int) < 5))).2.2.2 rfl
        have A1229 := A1228.aload (v := (.ref b196)) (pc' := 236) at_234 rfl rfl rfl
        have A1230 := A1229.aload (v := (.ref b24)) (pc' := 238) at_236 rfl rfl rfl
        have A1231 := A1230.iconst (z := (2 : Int32)) (pc' := 239) at_238 rfl rfl
        have f1232 := (f1196.keep K1204 (ninS ne203 nin0))
        have A1233 := A1231.iaload (i := 2) (v := (.int d2)) (pc' := 240) at_239 f1232 rfl (by decide) rfl rfl
        have A1234 := A1233.iconst (z := (1 : Int32)) (pc' := 241) at_240 rfl rfl
        have f1235 := (f1199.keep K1204)
        obtain ⟨h1239, ⟨b1241, b1242, K1240, g1243, z1244, g1245, z1246, f1247, f1248, f1249, f1250, f1251, f1252, q1238⟩, A1236⟩ := W.kV (A1234.callV (a := b196) (argsL := [(.int d2), (.int (1 : Int32))]) (rest := []) (C' := 8) (S' := 25) (pc' := 244) at_241 f1235 (hw _ (List.mem_of_getElem? (i := 16) rfl)) (hw _ (List.mem_of_getElem? (i := 17) rfl)) (fun hZ => notFace_of_selects (args := #[]) (mvT hZ (hw _ (List.mem_of_getElem? (i := 19) rfl)))) (hw _ (List.mem_of_getElem? (i := 19) rfl)) (hw _ (List.mem_of_getElem? (i := 18) rfl)) (hw _ (List.mem_of_getElem? (i := 5) rfl)) (hw _ (List.mem_of_getElem? (i := 20) rfl)) (rm3_2 l Z a0 hw n0 [] (b196) (d2) ((1 : Int32)) (b1205) (b1206) ((upd (cpy (upd (fun _ => (.int (0 : Int32))) 0 (.int d0)) 0 (fun _ => (.int (0 : Int32))) 0 1) 1 (.int d1))) ((upd (cpy (upd (fun _ => (.int (0 : Int32))) 0 (.int (1 : Int32))) 0 (fun _ => (.int (0 : Int32))) 0 1) 1 (.int (1 : Int32)))) h1203 A1234.size f1235 g198 f1211 f1212 f1213 f1214 f1215 g1207 g1209 f1216 ne1218 ne1222) rfl rfl pd_5 rfl rfl (by decide) (by decide) (Nat.le_of_ble_eq_true rfl) (by decide) (by decide) rfl rfl rfl)
        have ne1253 : b24 ≠ b1241 := Nat.ne_of_lt (Nat.lt_of_lt_of_le f1232.lt z1244)
        have ne1254 : b196 ≠ b1241 := Nat.ne_of_lt (Nat.lt_of_lt_of_le f1235.lt z1244)
        have f1255 := (f1187.keep K1204 (ninS (Ne.symm ne227) nin0))
        have ne1256 : b213 ≠ b1241 := Nat.ne_of_lt (Nat.lt_of_lt_of_le f1255.lt z1244)
        have f1257 := (f1188.keep K1204 (ninS (Ne.symm ne229) nin0))
        have ne1258 : b214 ≠ b1241 := Nat.ne_of_lt (Nat.lt_of_lt_of_le f1257.lt z1244)
        have ne1259 : b1205 ≠ b1241 := Nat.ne_of_lt (Nat.lt_of_lt_of_le f1214.lt z1244)
        have ne1260 : b1206 ≠ b1241 := Nat.ne_of_lt (Nat.lt_of_lt_of_le f1215.lt z1244)
        have ne1261 : b24 ≠ b1242 := Nat.ne_of_lt (Nat.lt_of_lt_of_le f1232.lt z1246)
        have ne1262 : b196 ≠ b1242 := Nat.ne_of_lt (Nat.lt_of_lt_of_le f1235.lt z1246)
        have ne1263 : b213 ≠ b1242 := Nat.ne_of_lt (Nat.lt_of_lt_of_le f1255.lt z1246)
        have ne1264 : b214 ≠ b1242 := Nat.ne_of_lt (Nat.lt_of_lt_of_le f1257.lt z1246)
        have ne1265 : b1205 ≠ b1242 := Nat.ne_of_lt (Nat.lt_of_lt_of_le f1214.lt z1246)
        have ne1266 : b1206 ≠ b1242 := Nat.ne_of_lt (Nat.lt_of_lt_of_le f1215.lt z1246)
        have A1267 := A1236.iload (v := (5 : Int32)) (pc' := 246) at_244 rfl rfl
        have A1268 := A1267.iconst (z := (3 : Int32)) (pc' := 247) at_246 rfl rfl
        have A1270 := A1268.icmpNo (pc' := 250) at_247 (tlt (igt (x := (5 : Int32)) (y := (3 : Int32)) rfl rfl (by decide : (3 : Int) < 5))).2.2.2 rfl
        have A1271 := A1270.aload (v := (.ref b196)) (pc' := 252) at_250 rfl rfl rfl
        have A1272 := A1271.aload (v := (.ref b24)) (pc' := 254) at_252 rfl rfl rfl
        have A1273 := A1272.iconst (z := (3 : Int32)) (pc' := 255) at_254 rfl rfl
        have f1274 := (f1232.keep K1240 (ninS ne203 nin0))
        have A1275 := A1273.iaload (i := 3) (v := (.int d3)) (pc' := 256) at_255 f1274 rfl (by decide) rfl rfl
        have A1276 := A1275.iconst (z := (1 : Int32)) (pc' := 257) at_256 rfl rfl
        have f1277 := (f1235.keep K1240)
        obtain ⟨h1281, ⟨K1282, f1283, f1284, f1285, f1286, f1287, q1280⟩, A1278⟩ := W.kV (A1276.callV (a := b196) (argsL := [(.int d3), (.int (1 : Int32))]) (rest := []) (C' := 8) (S' := 25) (pc' := 260) at_257 f1277 (hw _ (List.mem_of_getElem? (i := 16) rfl)) (hw _ (List.mem_of_getElem? (i := 17) rfl)) (fun hZ => notFace_of_selects (args := #[]) (mvT hZ (hw _ (List.mem_of_getElem? (i := 19) rfl)))) (hw _ (List.mem_of_getElem? (i := 19) rfl)) (hw _ (List.mem_of_getElem? (i := 18) rfl)) (hw _ (List.mem_of_getElem? (i := 5) rfl)) (hw _ (List.mem_of_getElem? (i := 20) rfl)) (rm3_3 l Z a0 hw n0 [] (b196) (d3) ((1 : Int32)) (b1241) (b1242) ((upd (cpy (upd (cpy (upd (fun _ => (.int (0 : Int32))) 0 (.int d0)) 0 (fun _ => (.int (0 : Int32))) 0 1) 1 (.int d1)) 0 (fun _ => (.int (0 : Int32))) 0 2) 2 (.int d2))) ((upd (cpy (upd (cpy (upd (fun _ => (.int (0 : Int32))) 0 (.int (1 : Int32))) 0 (fun _ => (.int (0 : Int32))) 0 1) 1 (.int (1 : Int32))) 0 (fun _ => (.int (0 : Int32))) 0 2) 2 (.int (1 : Int32)))) h1239 A1276.size f1277 g198 f1247 f1248 f1249 f1250 f1251 g1243 g1245 f1252 ne1254 ne1262) rfl rfl pd_5 rfl rfl (by decide) (by decide) (Nat.le_of_ble_eq_true rfl) (by decide) (by decide) rfl rfl rfl)
        have A1288 := A1278.iload (v := (5 : Int32)) (pc' := 262) at_260 rfl rfl
        have A1289 := A1288.iconst (z := (4 : Int32)) (pc' := 263) at_262 rfl rfl
        have A1291 := A1289.icmpNo (pc' := 266) at_263 (tlt (igt (x := (5 : Int32)) (y := (4 : Int32)) rfl rfl (by decide : (4 : Int) < 5))).2.2.2 rfl
        have A1292 := A1291.aload (v := (.ref b196)) (pc' := 268) at_266 rfl rfl rfl
        have A1293 := A1292.aload (v := (.ref b24)) (pc' := 270) at_268 rfl rfl rfl
        have A1294 := A1293.iconst (z := (4 : Int32)) (pc' := 271) at_270 rfl rfl
        have f1295 := (f1274.keep K1282 (ninS ne203 (ninS ne1253 (ninS ne1261 nin0))))
        have A1296 := A1294.iaload (i := 4) (v := (.int d4)) (pc' := 272) at_271 f1295 rfl (by decide) rfl rfl
        have A1297 := A1296.iconst (z := (1 : Int32)) (pc' := 273) at_272 rfl rfl
        have f1298 := (f1277.keep K1282)
        obtain ⟨h1302, ⟨b1304, b1305, K1303, g1306, z1307, g1308, z1309, f1310, f1311, f1312, f1313, f1314, f1315, q1301⟩, A1299⟩ := W.kV (A1297.callV (a := b196) (argsL := [(.int d4), (.int (1 : Int32))]) (rest := []) (C' := 10) (S' := 39) (pc' := 276) at_273 f1298 (hw _ (List.mem_of_getElem? (i := 16) rfl)) (hw _ (List.mem_of_getElem? (i := 17) rfl)) (fun hZ => notFace_of_selects (args := #[]) (mvT hZ (hw _ (List.mem_of_getElem? (i := 19) rfl)))) (hw _ (List.mem_of_getElem? (i := 19) rfl)) (hw _ (List.mem_of_getElem? (i := 18) rfl)) (hw _ (List.mem_of_getElem? (i := 5) rfl)) (hw _ (List.mem_of_getElem? (i := 20) rfl)) (rm3_4 l Z a0 hw n0 [] (b196) (d4) ((1 : Int32)) (b1241) (b1242) ((upd (upd (cpy (upd (cpy (upd (fun _ => (.int (0 : Int32))) 0 (.int d0)) 0 (fun _ => (.int (0 : Int32))) 0 1) 1 (.int d1)) 0 (fun _ => (.int (0 : Int32))) 0 2) 2 (.int d2)) 3 (.int d3))) ((upd (upd (cpy (upd (cpy (upd (fun _ => (.int (0 : Int32))) 0 (.int (1 : Int32))) 0 (fun _ => (.int (0 : Int32))) 0 1) 1 (.int (1 : Int32))) 0 (fun _ => (.int (0 : Int32))) 0 2) 2 (.int (1 : Int32))) 3 (.int (1 : Int32)))) h1281 A1297.size f1298 g198 f1283 f1284 f1285 f1286 f1287 g1243 g1245 f1252 ne1254 ne1262) rfl rfl pd_5 rfl rfl (by decide) (by decide) (Nat.le_of_ble_eq_true rfl) (by decide) (by decide) rfl rfl rfl)
        have ne1316 : b24 ≠ b1304 := Nat.ne_of_lt (Nat.lt_of_lt_of_le f1295.lt z1307)
        have ne1317 : b196 ≠ b1304 := Nat.ne_of_lt (Nat.lt_of_lt_of_le f1298.lt z1307)
        have f1318 := ((f1255.keep K1240 (ninS (Ne.symm ne227) nin0)).keep K1282 (ninS (Ne.symm ne227) (ninS ne1256 (ninS ne1263 nin0))))
        have ne1319 : b213 ≠ b1304 := Nat.ne_of_lt (Nat.lt_of_lt_of_le f1318.lt z1307)
        have f1320 := ((f1257.keep K1240 (ninS (Ne.symm ne229) nin0)).keep K1282 (ninS (Ne.symm ne229) (ninS ne1258 (ninS ne1264 nin0))))
        have ne1321 : b214 ≠ b1304 := Nat.ne_of_lt (Nat.lt_of_lt_of_le f1320.lt z1307)
        have f1322 := ((f1214.keep K1240 (ninS (Ne.symm ne1218) nin0)).keep K1282 (ninS (Ne.symm ne1218) (ninS ne1259 (ninS ne1265 nin0))))
        have ne1323 : b1205 ≠ b1304 := Nat.ne_of_lt (Nat.lt_of_lt_of_le f1322.lt z1307)
        have f1324 := ((f1215.keep K1240 (ninS (Ne.symm ne1222) nin0)).keep K1282 (ninS (Ne.symm ne1222) (ninS ne1260 (ninS ne1266 nin0))))
        have ne1325 : b1206 ≠ b1304 := Nat.ne_of_lt (Nat.lt_of_lt_of_le f1324.lt z1307)
        have ne1326 : b1241 ≠ b1304 := Nat.ne_of_lt (Nat.lt_of_lt_of_le f1286.lt z1307)
        have ne1327 : b1242 ≠ b1304 := Nat.ne_of_lt (Nat.lt_of_lt_of_le f1287.lt z1307)
        have ne1328 : b24 ≠ b1305 := Nat.ne_of_lt (Nat.lt_of_lt_of_le f1295.lt z1309)
        have ne1329 : b196 ≠ b1305 := Nat.ne_of_lt (Nat.lt_of_lt_of_le f1298.lt z1309)
        have ne1330 : b213 ≠ b1305 := Nat.ne_of_lt (Nat.lt_of_lt_of_le f1318.lt z1309)
        have ne1331 : b214 ≠ b1305 := Nat.ne_of_lt (Nat.lt_of_lt_of_le f1320.lt z1309)
        have ne1332 : b1205 ≠ b1305 := Nat.ne_of_lt (Nat.lt_of_lt_of_le f1322.lt z1309)
        have ne1333 : b1206 ≠ b1305 := Nat.ne_of_lt (Nat.lt_of_lt_of_le f1324.lt z1309)
        have ne1334 : b1241 ≠ b1305 := Nat.ne_of_lt (Nat.lt_of_lt_of_le f1286.lt z1309)
        have ne1335 : b1242 ≠ b1305 := Nat.ne_of_lt (Nat.lt_of_lt_of_le f1287.lt z1309)
        have A1336 := A1299.iload (v := (5 : Int32)) (pc' := 278) at_276 rfl rfl
        have A1337 := A1336.iconst (z := (5 : Int32)) (pc' := 279) at_278 rfl rfl
        have A1339 := A1337.icmpYes (pc' := 292) at_279 (flt (ingt (x := (5 : Int32)) (y := (5 : Int32)) rfl rfl (by decide : ¬ ((5 : Int) < 5)))).2.2.2 (by decide) (by decide)
        have A1340 := A1339.iload (v := (5 : Int32)) (pc' := 294) at_292 rfl rfl
        have A1341 := A1340.bipush (z := (6 : Int32)) (pc' := 296) at_294 rfl rfl
        have A1343 := A1341.icmpYes (pc' := 310) at_296 (flt (ingt (x := (5 : Int32)) (y := (6 : Int32)) rfl rfl (by decide : ¬ ((6 : Int) < 5)))).2.2.2 (by decide) (by decide)
        have A1344 := A1343.iload (v := (5 : Int32)) (pc' := 312) at_310 rfl rfl
        have A1345 := A1344.istore (Ls' := #[.val (.int xx), .val (.int xy), .val (.int xc), .val (.int xq), .val (.int xz), .val (.int (5 : Int32)), .val (.int v19), .val (.ref b24), .val (.int doc), .val (.int ii), .val (.ref b196), .val (.int (5 : Int32)), .unset]) (pc' := 314) at_312 rfl rfl
        have A1346 := A1345.iload (v := (5 : Int32)) (pc' := 316) at_314 rfl rfl
        have A1347 := A1346.bipush (z := (7 : Int32)) (pc' := 318) at_316 rfl rfl
        have A1348 := A1347.iload (v := ii) (pc' := 320) at_318 rfl rfl
        have A1349 := A1348.iload (v := (5 : Int32)) (pc' := 322) at_320 rfl rfl
        have A1350 := A1349.aload (v := (.ref b24)) (pc' := 324) at_322 rfl rfl rfl
        have A1351 := A1350.iload (v := doc) (pc' := 326) at_324 rfl rfl
        have f1352 := (f1295.keep K1303 (ninS ne203 nin0))
        obtain ⟨r1354, _, ⟨rfl, q1355⟩, A1353⟩ := W.kI (A1351.callS (argsL := [(.int (5 : Int32)), (.int (7 : Int32)), (.int ii), (.int (5 : Int32)), (.ref b24), (.int doc)]) (rest := []) (C' := 10) (S' := 39) (pc' := 329) at_326 (hw _ (List.mem_of_getElem? (i := 35) rfl)) (hw _ (List.mem_of_getElem? (i := 36) rfl)) (hw _ (List.mem_of_getElem? (i := 37) rfl)) (hw _ (List.mem_of_getElem? (i := 38) rfl)) (rm6 l Z a0 hw n0 [] ((5 : Int32)) ((7 : Int32)) (ii) ((5 : Int32)) (b24) (doc) ((upd (upd (upd (upd (upd (upd (upd (upd (fun _ => (.int (0 : Int32))) 0 (.int d0)) 1 (.int d1)) 2 (.int d2)) 3 (.int d3)) 4 (.int d4)) 5 (.int d5)) 6 (.int d6)) 7 (.int d7))) (d7) h1302 A1351.size f1352 (by first | (constructor <;> decide) | rfl) (by first | (constructor <;> decide) | rfl)) rfl rfl pd_4 rfl rfl (by decide) (by decide) (Nat.le_of_ble_eq_true rfl) (by decide) (by decide) rfl rfl rfl)
        have pk8 : own_from g ii.toInt 5 doc.toInt 8 ((5 : Int32)).toInt := own_from0 g ii.toInt 5 doc.toInt (by decide)
        have pk7 : own_from g ii.toInt 5 doc.toInt 7 r1354.toInt := own_step g ii.toInt 5 doc.toInt 7 r1354.toInt ((5 : Int32)).toInt d7.toInt (by decide) (by rw [e_g]; rfl) pk8 q1355
        have A1357 := A1353.istore (Ls' := #[.val (.int xx), .val (.int xy), .val (.int xc), .val (.int xq), .val (.int xz), .val (.int (5 : Int32)), .val (.int v19), .val (.ref b24), .val (.int doc), .val (.int ii), .val (.ref b196), .val (.int r1354), .unset]) (pc' := 331) at_329 rfl rfl
        have A1358 := A1357.iload (v := r1354) (pc' := 333) at_331 rfl rfl
        have A1359 := A1358.bipush (z := (6 : Int32)) (pc' := 335) at_333 rfl rfl
        have A1360 := A1359.iload (v := ii) (pc' := 337) at_335 rfl rfl
        have A1361 := A1360.iload (v := (5 : Int32)) (pc' := 339) at_337 rfl rfl
        have A1362 := A1361.aload (v := (.ref b24)) (pc' := 341) at_339 rfl rfl rfl
        have A1363 := A1362.iload (v := doc) (pc' := 343) at_341 rfl rfl
        obtain ⟨r1365, _, ⟨rfl, q1366⟩, A1364⟩ := W.kI (A1363.callS (argsL := [(.int r1354), (.int (6 : Int32)), (.int ii), (.int (5 : Int32)), (.ref b24), (.int doc)]) (rest := []) (C' := 10) (S' := 39) (pc' := 346) at_343 (hw _ (List.mem_of_getElem? (i := 35) rfl)) (hw _ (List.mem_of_getElem? (i := 36) rfl)) (hw _ (List.mem_of_getElem? (i := 37) rfl)) (hw _ (List.mem_of_getElem? (i := 38) rfl)) (rm6 l Z a0 hw n0 [] (r1354) ((6 : Int32)) (ii) ((5 : Int32)) (b24) (doc) ((upd (upd (upd (upd (upd (upd (upd (upd (fun _ => (.int (0 : Int32))) 0 (.int d0)) 1 (.int d1)) 2 (.int d2)) 3 (.int d3)) 4 (.int d4)) 5 (.int d5)) 6 (.int d6)) 7 (.int d7))) (d6) h1302 A1363.size f1352 (by first | (constructor <;> decide) | rfl) (by first | (constructor <;> decide) | rfl)) rfl rfl pd_4 rfl rfl (by decide) (by decide) (Nat.le_of_ble_eq_true rfl) (by decide) (by decide) rfl rfl rfl)
        have pk6 : own_from g ii.toInt 5 doc.toInt 6 r1365.toInt := own_step g ii.toInt 5 doc.toInt 6 r1365.toInt (r1354).toInt d6.toInt (by decide) (by rw [e_g]; rfl) pk7 q1366
        have A1368 := A1364.istore (Ls' := #[.val (.int xx), .val (.int xy), .val (.int xc), .val (.int xq), .val (.int xz), .val (.int (5 : Int32)), .val (.int v19), .val (.ref b24), .val (.int doc), .val (.int ii), .val (.ref b196), .val (.int r1365), .unset]) (pc' := 348) at_346 rfl rfl
        have A1369 := A1368.iload (v := r1365) (pc' := 350) at_348 rfl rfl
        have A1370 := A1369.iconst (z := (5 : Int32)) (pc' := 351) at_350 rfl rfl
        have A1371 := A1370.iload (v := ii) (pc' := 353) at_351 rfl rfl
        have A1372 := A1371.iload (v := (5 : Int32)) (pc' := 355) at_353 rfl rfl
        have A1373 := A1372.aload (v := (.ref b24)) (pc' := 357) at_355 rfl rfl rfl
        have A1374 := A1373.iload (v := doc) (pc' := 359) at_357 rfl rfl
        obtain ⟨r1376, _, ⟨rfl, q1377⟩, A1375⟩ := W.kI (A1374.callS (argsL := [(.int r1365), (.int (5 : Int32)), (.int ii), (.int (5 : Int32)), (.ref b24), (.int doc)]) (rest := []) (C' := 10) (S' := 39) (pc' := 362) at_359 (hw _ (List.mem_of_getElem? (i := 35) rfl)) (hw _ (List.mem_of_getElem? (i := 36) rfl)) (hw _ (List.mem_of_getElem? (i := 37) rfl)) (hw _ (List.mem_of_getElem? (i := 38) rfl)) (rm6 l Z a0 hw n0 [] (r1365) ((5 : Int32)) (ii) ((5 : Int32)) (b24) (doc) ((upd (upd (upd (upd (upd (upd (upd (upd (fun _ => (.int (0 : Int32))) 0 (.int d0)) 1 (.int d1)) 2 (.int d2)) 3 (.int d3)) 4 (.int d4)) 5 (.int d5)) 6 (.int d6)) 7 (.int d7))) (d5) h1302 A1374.size f1352 (by first | (constructor <;> decide) | rfl) (by first | (constructor <;> decide) | rfl)) rfl rfl pd_4 rfl rfl (by decide) (by decide) (Nat.le_of_ble_eq_true rfl) (by decide) (by decide) rfl rfl rfl)
        have pk5 : own_from g ii.toInt 5 doc.toInt 5 r1376.toInt := own_step g ii.toInt 5 doc.toInt 5 r1376.toInt (r1365).toInt d5.toInt (by decide) (by rw [e_g]; rfl) pk6 q1377
        have A1379 := A1375.istore (Ls' := #[.val (.int xx), .val (.int xy), .val (.int xc), .val (.int xq), .val (.int xz), .val (.int (5 : Int32)), .val (.int v19), .val (.ref b24), .val (.int doc), .val (.int ii), .val (.ref b196), .val (.int r1376), .unset]) (pc' := 364) at_362 rfl rfl
        have A1380 := A1379.iload (v := r1376) (pc' := 366) at_364 rfl rfl
        have A1381 := A1380.iconst (z := (4 : Int32)) (pc' := 367) at_366 rfl rfl
        have A1382 := A1381.iload (v := ii) (pc' := 369) at_367 rfl rfl
        have A1383 := A1382.iload (v := (5 : Int32)) (pc' := 371) at_369 rfl rfl
        have A1384 := A1383.aload (v := (.ref b24)) (pc' := 373) at_371 rfl rfl rfl
        have A1385 := A1384.iload (v := doc) (pc' := 375) at_373 rfl rfl
        obtain ⟨r1387, _, ⟨rfl, q1388⟩, A1386⟩ := W.kI (A1385.callS (argsL := [(.int r1376), (.int (4 : Int32)), (.int ii), (.int (5 : Int32)), (.ref b24), (.int doc)]) (rest := []) (C' := 10) (S' := 39) (pc' := 378) at_375 (hw _ (List.mem_of_getElem? (i := 35) rfl)) (hw _ (List.mem_of_getElem? (i := 36) rfl)) (hw _ (List.mem_of_getElem? (i := 37) rfl)) (hw _ (List.mem_of_getElem? (i := 38) rfl)) (rm6 l Z a0 hw n0 [] (r1376) ((4 : Int32)) (ii) ((5 : Int32)) (b24) (doc) ((upd (upd (upd (upd (upd (upd (upd (upd (fun _ => (.int (0 : Int32))) 0 (.int d0)) 1 (.int d1)) 2 (.int d2)) 3 (.int d3)) 4 (.int d4)) 5 (.int d5)) 6 (.int d6)) 7 (.int d7))) (d4) h1302 A1385.size f1352 (by first | (constructor <;> decide) | rfl) (by first | (constructor <;> decide) | rfl)) rfl rfl pd_4 rfl rfl (by decide) (by decide) (Nat.le_of_ble_eq_true rfl) (by decide) (by decide) rfl rfl rfl)
        have pk4 : own_from g ii.toInt 5 doc.toInt 4 r1387.toInt := own_step g ii.toInt 5 doc.toInt 4 r1387.toInt (r1376).toInt d4.toInt (by decide) (by rw [e_g]; rfl) pk5 q1388
        have A1390 := A1386.istore (Ls' := #[.val (.int xx), .val (.int xy), .val (.int xc), .val (.int xq), .val (.int xz), .val (.int (5 : Int32)), .val (.int v19), .val (.ref b24), .val (.int doc), .val (.int ii), .val (.ref b196), .val (.int r1387), .unset]) (pc' := 380) at_378 rfl rfl
        have A1391 := A1390.iload (v := r1387) (pc' := 382) at_380 rfl rfl
        have A1392 := A1391.iconst (z := (3 : Int32)) (pc' := 383) at_382 rfl rfl
        have A1393 := A1392.iload (v := ii) (pc' := 385) at_383 rfl rfl
        have A1394 := A1393.iload (v := (5 : Int32)) (pc' := 387) at_385 rfl rfl
        have A1395 := A1394.aload (v := (.ref b24)) (pc' := 389) at_387 rfl rfl rfl
        have A1396 := A1395.iload (v := doc) (pc' := 391) at_389 rfl rfl
        obtain ⟨r1398, _, ⟨rfl, q1399⟩, A1397⟩ := W.kI (A1396.callS (argsL := [(.int r1387), (.int (3 : Int32)), (.int ii), (.int (5 : Int32)), (.ref b24), (.int doc)]) (rest := []) (C' := 10) (S' := 39) (pc' := 394) at_391 (hw _ (List.mem_of_getElem? (i := 35) rfl)) (hw _ (List.mem_of_getElem? (i := 36) rfl)) (hw _ (List.mem_of_getElem? (i := 37) rfl)) (hw _ (List.mem_of_getElem? (i := 38) rfl)) (rm6 l Z a0 hw n0 [] (r1387) ((3 : Int32)) (ii) ((5 : Int32)) (b24) (doc) ((upd (upd (upd (upd (upd (upd (upd (upd (fun _ => (.int (0 : Int32))) 0 (.int d0)) 1 (.int d1)) 2 (.int d2)) 3 (.int d3)) 4 (.int d4)) 5 (.int d5)) 6 (.int d6)) 7 (.int d7))) (d3) h1302 A1396.size f1352 (by first | (constructor <;> decide) | rfl) (by first | (constructor <;> decide) | rfl)) rfl rfl pd_4 rfl rfl (by decide) (by decide) (Nat.le_of_ble_eq_true rfl) (by decide) (by decide) rfl rfl rfl)
        have pk3 : own_from g ii.toInt 5 doc.toInt 3 r1398.toInt := own_step g ii.toInt 5 doc.toInt 3 r1398.toInt (r1387).toInt d3.toInt (by decide) (by rw [e_g]; rfl) pk4 q1399
        have A1401 := A1397.istore (Ls' := #[.val (.int xx), .val (.int xy), .val (.int xc), .val (.int xq), .val (.int xz), .val (.int (5 : Int32)), .val (.int v19), .val (.ref b24), .val (.int doc), .val (.int ii), .val (.ref b196), .val (.int r1398), .unset]) (pc' := 396) at_394 rfl rfl
        have A1402 := A1401.iload (v := r1398) (pc' := 398) at_396 rfl rfl
        have A1403 := A1402.iconst (z := (2 : Int32)) (pc' := 399) at_398 rfl rfl
        have A1404 := A1403.iload (v := ii) (pc' := 401) at_399 rfl rfl
        have A1405 := A1404.iload (v := (5 : Int32)) (pc' := 403) at_401 rfl rfl
        have A1406 := A1405.aload (v := (.ref b24)) (pc' := 405) at_403 rfl rfl rfl
        have A1407 := A1406.iload (v := doc) (pc' := 407) at_405 rfl rfl
        obtain ⟨r1409, _, ⟨rfl, q1410⟩, A1408⟩ := W.kI (A1407.callS (argsL := [(.int r1398), (.int (2 : Int32)), (.int ii), (.int (5 : Int32)), (.ref b24), (.int doc)]) (rest := []) (C' := 10) (S' := 39) (pc' := 410) at_407 (hw _ (List.mem_of_getElem? (i := 35) rfl)) (hw _ (List.mem_of_getElem? (i := 36) rfl)) (hw _ (List.mem_of_getElem? (i := 37) rfl)) (hw _ (List.mem_of_getElem? (i := 38) rfl)) (rm6 l Z a0 hw n0 [] (r1398) ((2 : Int32)) (ii) ((5 : Int32)) (b24) (doc) ((upd (upd (upd (upd (upd (upd (upd (upd (fun _ => (.int (0 : Int32))) 0 (.int d0)) 1 (.int d1)) 2 (.int d2)) 3 (.int d3)) 4 (.int d4)) 5 (.int d5)) 6 (.int d6)) 7 (.int d7))) (d2) h1302 A1407.size f1352 (by first | (constructor <;> decide) | rfl) (by first | (constructor <;> decide) | rfl)) rfl rfl pd_4 rfl rfl (by decide) (by decide) (Nat.le_of_ble_eq_true rfl) (by decide) (by decide) rfl rfl rfl)
        have pk2 : own_from g ii.toInt 5 doc.toInt 2 r1409.toInt := own_step g ii.toInt 5 doc.toInt 2 r1409.toInt (r1398).toInt d2.toInt (by decide) (by rw [e_g]; rfl) pk3 q1410
        have A1412 := A1408.istore (Ls' := #[.val (.int xx), .val (.int xy), .val (.int xc), .val (.int xq), .val (.int xz), .val (.int (5 : Int32)), .val (.int v19), .val (.ref b24), .val (.int doc), .val (.int ii), .val (.ref b196), .val (.int r1409), .unset]) (pc' := 412) at_410 rfl rfl
        have A1413 := A1412.iload (v := r1409) (pc' := 414) at_412 rfl rfl
        have A1414 := A1413.iconst (z := (1 : Int32)) (pc' := 415) at_414 rfl rfl
        have A1415 := A1414.iload (v := ii) (pc' := 417) at_415 rfl rfl
        have A1416 := A1415.iload (v := (5 : Int32)) (pc' := 419) at_417 rfl rfl
        have A1417 := A1416.aload (v := (.ref b24)) (pc' := 421) at_419 rfl rfl rfl
        have A1418 := A1417.iload (v := doc) (pc' := 423) at_421 rfl rfl
        obtain ⟨r1420, _, ⟨rfl, q1421⟩, A1419⟩ := W.kI (A1418.callS (argsL := [(.int r1409), (.int (1 : Int32)), (.int ii), (.int (5 : Int32)), (.ref b24), (.int doc)]) (rest := []) (C' := 10) (S' := 39) (pc' := 426) at_423 (hw _ (List.mem_of_getElem? (i := 35) rfl)) (hw _ (List.mem_of_getElem? (i := 36) rfl)) (hw _ (List.mem_of_getElem? (i := 37) rfl)) (hw _ (List.mem_of_getElem? (i := 38) rfl)) (rm6 l Z a0 hw n0 [] (r1409) ((1 : Int32)) (ii) ((5 : Int32)) (b24) (doc) ((upd (upd (upd (upd (upd (upd (upd (upd (fun _ => (.int (0 : Int32))) 0 (.int d0)) 1 (.int d1)) 2 (.int d2)) 3 (.int d3)) 4 (.int d4)) 5 (.int d5)) 6 (.int d6)) 7 (.int d7))) (d1) h1302 A1418.size f1352 (by first | (constructor <;> decide) | rfl) (by first | (constructor <;> decide) | rfl)) rfl rfl pd_4 rfl rfl (by decide) (by decide) (Nat.le_of_ble_eq_true rfl) (by decide) (by decide) rfl rfl rfl)
        have pk1 : own_from g ii.toInt 5 doc.toInt 1 r1420.toInt := own_step g ii.toInt 5 doc.toInt 1 r1420.toInt (r1409).toInt d1.toInt (by decide) (by rw [e_g]; rfl) pk2 q1421
        have A1423 := A1419.istore (Ls' := #[.val (.int xx), .val (.int xy), .val (.int xc), .val (.int xq), .val (.int xz), .val (.int (5 : Int32)), .val (.int v19), .val (.ref b24), .val (.int doc), .val (.int ii), .val (.ref b196), .val (.int r1420), .unset]) (pc' := 428) at_426 rfl rfl
        have A1424 := A1423.iload (v := r1420) (pc' := 430) at_428 rfl rfl
        have A1425 := A1424.iconst (z := (0 : Int32)) (pc' := 431) at_430 rfl rfl
        have A1426 := A1425.iload (v := ii) (pc' := 433) at_431 rfl rfl
        have A1427 := A1426.iload (v := (5 : Int32)) (pc' := 435) at_433 rfl rfl
        have A1428 := A1427.aload (v := (.ref b24)) (pc' := 437) at_435 rfl rfl rfl
        have A1429 := A1428.iload (v := doc) (pc' := 439) at_437 rfl rfl
        obtain ⟨r1431, _, ⟨rfl, q1432⟩, A1430⟩ := W.kI (A1429.callS (argsL := [(.int r1420), (.int (0 : Int32)), (.int ii), (.int (5 : Int32)), (.ref b24), (.int doc)]) (rest := []) (C' := 10) (S' := 39) (pc' := 442) at_439 (hw _ (List.mem_of_getElem? (i := 35) rfl)) (hw _ (List.mem_of_getElem? (i := 36) rfl)) (hw _ (List.mem_of_getElem? (i := 37) rfl)) (hw _ (List.mem_of_getElem? (i := 38) rfl)) (rm6 l Z a0 hw n0 [] (r1420) ((0 : Int32)) (ii) ((5 : Int32)) (b24) (doc) ((upd (upd (upd (upd (upd (upd (upd (upd (fun _ => (.int (0 : Int32))) 0 (.int d0)) 1 (.int d1)) 2 (.int d2)) 3 (.int d3)) 4 (.int d4)) 5 (.int d5)) 6 (.int d6)) 7 (.int d7))) (d0) h1302 A1429.size f1352 (by first | (constructor <;> decide) | rfl) (by first | (constructor <;> decide) | rfl)) rfl rfl pd_4 rfl rfl (by decide) (by decide) (Nat.le_of_ble_eq_true rfl) (by decide) (by decide) rfl rfl rfl)
        have pk0 : own_from g ii.toInt 5 doc.toInt 0 r1431.toInt := own_step g ii.toInt 5 doc.toInt 0 r1431.toInt (r1420).toInt d0.toInt (by decide) (by rw [e_g]; rfl) pk1 q1432
        have A1434 := A1430.istore (Ls' := #[.val (.int xx), .val (.int xy), .val (.int xc), .val (.int xq), .val (.int xz), .val (.int (5 : Int32)), .val (.int v19), .val (.ref b24), .val (.int doc), .val (.int ii), .val (.ref b196), .val (.int r1431), .unset]) (pc' := 444) at_442 rfl rfl
        have A1435 := A1434.aload (v := (.ref b196)) (pc' := 446) at_444 rfl rfl rfl
        have A1436 := A1435.iload (v := ii) (pc' := 448) at_446 rfl rfl
        have A1437 := A1436.iload (v := doc) (pc' := 450) at_448 rfl rfl
        have f1440 := (f1298.keep K1303)
        obtain ⟨r1439, _, ⟨rfl, q1441⟩, A1438⟩ := W.kI (A1437.callV (a := b196) (argsL := [(.int ii), (.int doc)]) (rest := []) (C' := 10) (S' := 39) (pc' := 453) at_450 f1440 (hw _ (List.mem_of_getElem? (i := 39) rfl)) (hw _ (List.mem_of_getElem? (i := 40) rfl)) (fun hZ => notFace_of_selects (args := #[]) (mvT hZ (hw _ (List.mem_of_getElem? (i := 42) rfl)))) (hw _ (List.mem_of_getElem? (i := 42) rfl)) (hw _ (List.mem_of_getElem? (i := 41) rfl)) (hw _ (List.mem_of_getElem? (i := 5) rfl)) (hw _ (List.mem_of_getElem? (i := 43) rfl)) (rm7 l Z a0 hw n0 [] (b196) (ii) (doc) (b1304) (7) ((5 : Int32)) ((upd (cpy (upd (upd (cpy (upd (cpy (upd (fun _ => (.int (0 : Int32))) 0 (.int d0)) 0 (fun _ => (.int (0 : Int32))) 0 1) 1 (.int d1)) 0 (fun _ => (.int (0 : Int32))) 0 2) 2 (.int d2)) 3 (.int d3)) 0 (fun _ => (.int (0 : Int32))) 0 4) 4 (.int d4))) (g) h1302 A1437.size f1310 f1312 f1313 (by exact ⟨ki.1, by rw [hnt] at ki; exact ki.2, by decide, by decide, fun j k h1 h2 => hinc j k h1 (Int.lt_of_lt_of_le h2 (by decide))⟩) (by intro j hj; have lz : (5 : Int32).toInt = 5 := rfl; have hj' : j = 0 ∨ j = 1 ∨ j = 2 ∨ j = 3 ∨ j = 4 := (by omega); rw [e_g]; rcases hj' with rfl | rfl | rfl | rfl | rfl <;> rfl)) rfl rfl pd_0 rfl rfl (by decide) (by decide) (Nat.le_of_ble_eq_true rfl) (by decide) (by decide) rfl rfl rfl)
        have A1443 := A1438.istore (Ls' := #[.val (.int xx), .val (.int xy), .val (.int xc), .val (.int xq), .val (.int xz), .val (.int (5 : Int32)), .val (.int v19), .val (.ref b24), .val (.int doc), .val (.int ii), .val (.ref b196), .val (.int r1431), .val (.int r1439)]) (pc' := 455) at_453 rfl rfl
        have A1444 := A1443.iload (v := r1439) (pc' := 457) at_455 rfl rfl
        have A1445 := A1444.iload (v := r1431) (pc' := 459) at_457 rfl rfl
        by_cases c1446 : r1439.toInt = r1431.toInt
        · have A1447 := A1445.icmpNo (pc' := 462) at_459 (teq (ieq (x := r1439) (y := r1431) rfl rfl c1446)).2 rfl
          have A1448 := A1447.iconst (z := (1 : Int32)) (pc' := 463) at_462 rfl rfl
          have A1449 := A1448.goto (pc' := 467) at_463 (by decide) (by decide)
          refine A1449.retN (t := .boolean) (z' := (1 : Int32)) at_467 (by decide) (by decide) (by simp) rfl ⟨_, rfl, ⟨trivial, ?_⟩⟩
          have elit : (1 : Int32).toInt = 1 := rfl
          rfl
        · have A1450 := A1445.icmpYes (pc' := 466) at_459 (feq (ine (x := r1439) (y := r1431) rfl rfl c1446)).2 (by decide) (by decide)
          have A1451 := A1450.iconst (z := (0 : Int32)) (pc' := 467) at_466 rfl rfl
          refine A1451.retN (t := .boolean) (z' := (0 : Int32)) at_467 (by decide) (by decide) (by simp) rfl ⟨_, rfl, ⟨trivial, ?_⟩⟩
          have elit : (0 : Int32).toInt = 0 := rfl
          exfalso
          exact c1446 (own_uniq g ii.toInt 5 doc.toInt _ _ (by rw [hnt] at ki; exact ki.2) ki.1 q1441 pk0)
      · have A1452 := A230.cast (Ls' := #[.val (.int xx), .val (.int xy), .val (.int xc), .val (.int xq), .val (.int xz), .val (.int (6 : Int32)), .val (.int v19), .val (.ref b24), .val (.int doc), .val (.int ii), .val (.ref b196), .unset, .unset]) rfl (by rw [hn]) rfl
        have hnt : n.toInt = 6 := by rw [hn]; rfl
        have A1453 := A1452.iload (v := (6 : Int32)) (pc' := 199) at_197 rfl rfl
        have A1455 := A1453.ifNo (pc' := 202) at_199 (tlt (igt (x := (6 : Int32)) (y := (0 : Int32)) rfl rfl (by decide : (0 : Int) < 6))).2.2.2 rfl
        have A1456 := A1455.aload (v := (.ref b196)) (pc' := 204) at_202 rfl rfl rfl
        have A1457 := A1456.aload (v := (.ref b24)) (pc' := 206) at_204 rfl rfl rfl
        have A1458 := A1457.iconst (z := (0 : Int32)) (pc' := 207) at_206 rfl rfl
        have f1459 := (f225.keep K212 (ninS ne203 nin0))
        have A1460 := A1458.iaload (i := 0) (v := (.int d0)) (pc' := 208) at_207 f1459 rfl (by decide) rfl rfl
        have A1461 := A1460.iconst (z := (1 : Int32)) (pc' := 209) at_208 rfl rfl
        have f1462 := (X200.keep K212)
        obtain ⟨h1466, ⟨K1467, f1468, f1469, f1470, f1471, f1472, q1465⟩, A1463⟩ := W.kV (A1461.callV (a := b196) (argsL := [(.int d0), (.int (1 : Int32))]) (rest := []) (C' := 4) (S' := 13) (pc' := 212) at_209 f1462 (hw _ (List.mem_of_getElem? (i := 16) rfl)) (hw _ (List.mem_of_getElem? (i := 17) rfl)) (fun hZ => notFace_of_selects (args := #[]) (mvT hZ (hw _ (List.mem_of_getElem? (i := 19) rfl)))) (hw _ (List.mem_of_getElem? (i := 19) rfl)) (hw _ (List.mem_of_getElem? (i := 18) rfl)) (hw _ (List.mem_of_getElem? (i := 5) rfl)) (hw _ (List.mem_of_getElem? (i := 20) rfl)) (rm3_0 l Z a0 hw n0 [] (b196) (d0) ((1 : Int32)) (b213) (b214) ((fun _ => (.int (0 : Int32)))) ((fun _ => (.int (0 : Int32)))) h211 A1461.size f1462 g198 f219 f220 f221 f222 f223 g215 g217 f224 ne227 ne229) rfl rfl pd_5 rfl rfl (by decide) (by decide) (Nat.le_of_ble_eq_true rfl) (by decide) (by decide) rfl rfl rfl)
        have A1473 := A1463.iload (v := (6 : Int32)) (pc' := 214) at_212 rfl rfl
        have A1474 := A1473.iconst (z := (1 : Int32)) (pc' := 215) at_214 rfl rfl
        have A1476 := A1474.icmpNo (pc' := 218) at_215 (tlt (igt (x := (6 : Int32)) (y := (1 : Int32)) rfl rfl (by decide : (1 : Int) < 6))).2.2.2 rfl
        have A1477 := A1476.aload (v := (.ref b196)) (pc' := 220) at_218 rfl rfl rfl
        have A1478 := A1477.aload (v := (.ref b24)) (pc' := 222) at_220 rfl rfl rfl
        have A1479 := A1478.iconst (z := (1 : Int32)) (pc' := 223) at_222 rfl rfl
        have f1480 := (f1459.keep K1467 (ninS ne203 (ninS ne226 (ninS ne228 nin0))))
        have A1481 := A1479.iaload (i := 1) (v := (.int d1)) (pc' := 224) at_223 f1480 rfl (by decide) rfl rfl
        have A1482 := A1481.iconst (z := (1 : Int32)) (pc' := 225) at_224 rfl rfl
        have f1483 := (f1462.keep K1467)
        obtain ⟨h1487, ⟨b1489, b1490, K1488, g1491, z1492, g1493, z1494, f1495, f1496, f1497, f1498, f1499, f1500, q1486⟩, A1484⟩ := W.kV (A1482.callV (a := b196) (argsL := [(.int d1), (.int (1 : Int32))]) (rest := []) (C' := 6) (S' := 17) (pc' := 228) at_225 f1483 (hw _ (List.mem_of_getElem? (i := 16) rfl)) (hw _ (List.mem_of_getElem? (i := 17) rfl)) (fun hZ => notFace_of_selects (args := #[]) (mvT hZ (hw _ (List.mem_of_getElem? (i := 19) rfl)))) (hw _ (List.mem_of_getElem? (i := 19) rfl)) (hw _ (List.mem_of_getElem? (i := 18) rfl)) (hw _ (List.mem_of_getElem? (i := 5) rfl)) (hw _ (List.mem_of_getElem? (i := 20) rfl)) (rm3_1 l Z a0 hw n0 [] (b196) (d1) ((1 : Int32)) (b213) (b214) ((upd (fun _ => (.int (0 : Int32))) 0 (.int d0))) ((upd (fun _ => (.int (0 : Int32))) 0 (.int (1 : Int32)))) h1466 A1482.size f1483 g198 f1468 f1469 f1470 f1471 f1472 g215 g217 f224 ne227 ne229) rfl rfl pd_5 rfl rfl (by decide) (by decide) (Nat.le_of_ble_eq_true rfl) (by decide) (by decide) rfl rfl rfl)
        have ne1501 : b24 ≠ b1489 := Nat.ne_of_lt (Nat.lt_of_lt_of_le f1480.lt z1492)
        have ne1502 : b196 ≠ b1489 := Nat.ne_of_lt (Nat.lt_of_lt_of_le f1483.lt z1492)
        have ne1503 : b213 ≠ b1489 := Nat.ne_of_lt (Nat.lt_of_lt_of_le f1471.lt z1492)
        have ne1504 : b214 ≠ b1489 := Nat.ne_of_lt (Nat.lt_of_lt_of_le f1472.lt z1492)
        have ne1505 : b24 ≠ b1490 := Nat.ne_of_lt (Nat.lt_of_lt_of_le f1480.lt z1494)
        have ne1506 : b196 ≠ b1490 := Nat.ne_of_lt (Nat.lt_of_lt_of_le f1483.lt z1494)
        have ne1507 : b213 ≠ b1490 := Nat.ne_of_lt (Nat.lt_of_lt_of_le f1471.lt z1494)
        have ne1508 : b214 ≠ b1490 := Nat.ne_of_lt (Nat.lt_of_lt_of_le f1472.lt z1494)
        have A1509 := A1484.iload (v := (6 : Int32)) (pc' := 230) at_228 rfl rfl
        have A1510 := A1509.iconst (z := (2 : Int32)) (pc' := 231) at_230 rfl rfl
        have A1512 := A1510.icmpNo (pc' := 234) at_231 (tlt (igt (x := (6 : Int32)) (y := (2 : Int32)) rfl rfl (by decide : (2 : Int) < 6))).2.2.2 rfl
        have A1513 := A1512.aload (v := (.ref b196)) (pc' := 236) at_234 rfl rfl rfl
        have A1514 := A1513.aload (v := (.ref b24)) (pc' := 238) at_236 rfl rfl rfl
        have A1515 := A1514.iconst (z := (2 : Int32)) (pc' := 239) at_238 rfl rfl
        have f1516 := (f1480.keep K1488 (ninS ne203 nin0))
        have A1517 := A1515.iaload (i := 2) (v := (.int d2)) (pc' := 240) at_239 f1516 rfl (by decide) rfl rfl
        have A1518 := A1517.iconst (z := (1 : Int32)) (pc' := 241) at_240 rfl rfl
        have f1519 := (f1483.keep K1488)
        obtain ⟨h1523, ⟨b1525, b1526, K1524, g1527, z1528, g1529, z1530, f1531, f1532, f1533, f1534, f1535, f1536, q1522⟩, A1520⟩ := W.kV (A1518.callV (a := b196) (argsL := [(.int d2), (.int (1 : Int32))]) (rest := []) (C' := 8) (S' := 25) (pc' := 244) at_241 f1519 (hw _ (List.mem_of_getElem? (i := 16) rfl)) (hw _ (List.mem_of_getElem? (i := 17) rfl)) (fun hZ => notFace_of_selects (args := #[]) (mvT hZ (hw _ (List.mem_of_getElem? (i := 19) rfl)))) (hw _ (List.mem_of_getElem? (i := 19) rfl)) (hw _ (List.mem_of_getElem? (i := 18) rfl)) (hw _ (List.mem_of_getElem? (i := 5) rfl)) (hw _ (List.mem_of_getElem? (i := 20) rfl)) (rm3_2 l Z a0 hw n0 [] (b196) (d2) ((1 : Int32)) (b1489) (b1490) ((upd (cpy (upd (fun _ => (.int (0 : Int32))) 0 (.int d0)) 0 (fun _ => (.int (0 : Int32))) 0 1) 1 (.int d1))) ((upd (cpy (upd (fun _ => (.int (0 : Int32))) 0 (.int (1 : Int32))) 0 (fun _ => (.int (0 : Int32))) 0 1) 1 (.int (1 : Int32)))) h1487 A1518.size f1519 g198 f1495 f1496 f1497 f1498 f1499 g1491 g1493 f1500 ne1502 ne1506) rfl rfl pd_5 rfl rfl (by decide) (by decide) (Nat.le_of_ble_eq_true rfl) (by decide) (by decide) rfl rfl rfl)
        have ne1537 : b24 ≠ b1525 := Nat.ne_of_lt (Nat.lt_of_lt_of_le f1516.lt z1528)
        have ne1538 : b196 ≠ b1525 := Nat.ne_of_lt (Nat.lt_of_lt_of_le f1519.lt z1528)
        have f1539 := (f1471.keep K1488 (ninS (Ne.symm ne227) nin0))
        have ne1540 : b213 ≠ b1525 := Nat.ne_of_lt (Nat.lt_of_lt_of_le f1539.lt z1528)
        have f1541 := (f1472.keep K1488 (ninS (Ne.symm ne229) nin0))
        have ne1542 : b214 ≠ b1525 := Nat.ne_of_lt (Nat.lt_of_lt_of_le f1541.lt z1528)
        have ne1543 : b1489 ≠ b1525 := Nat.ne_of_lt (Nat.lt_of_lt_of_le f1498.lt z1528)
        have ne1544 : b1490 ≠ b1525 := Nat.ne_of_lt (Nat.lt_of_lt_of_le f1499.lt z1528)
        have ne1545 : b24 ≠ b1526 := Nat.ne_of_lt (Nat.lt_of_lt_of_le f1516.lt z1530)
        have ne1546 : b196 ≠ b1526 := Nat.ne_of_lt (Nat.lt_of_lt_of_le f1519.lt z1530)
        have ne1547 : b213 ≠ b1526 := Nat.ne_of_lt (Nat.lt_of_lt_of_le f1539.lt z1530)
        have ne1548 : b214 ≠ b1526 := Nat.ne_of_lt (Nat.lt_of_lt_of_le f1541.lt z1530)
        have ne1549 : b1489 ≠ b1526 := Nat.ne_of_lt (Nat.lt_of_lt_of_le f1498.lt z1530)
        have ne1550 : b1490 ≠ b1526 := Nat.ne_of_lt (Nat.lt_of_lt_of_le f1499.lt z1530)
        have A1551 := A1520.iload (v := (6 : Int32)) (pc' := 246) at_244 rfl rfl
        have A1552 := A1551.iconst (z := (3 : Int32)) (pc' := 247) at_246 rfl rfl
        have A1554 := A1552.icmpNo (pc' := 250) at_247 (tlt (igt (x := (6 : Int32)) (y := (3 : Int32)) rfl rfl (by decide : (3 : Int) < 6))).2.2.2 rfl
        have A1555 := A1554.aload (v := (.ref b196)) (pc' := 252) at_250 rfl rfl rfl
        have A1556 := A1555.aload (v := (.ref b24)) (pc' := 254) at_252 rfl rfl rfl
        have A1557 := A1556.iconst (z := (3 : Int32)) (pc' := 255) at_254 rfl rfl
        have f1558 := (f1516.keep K1524 (ninS ne203 nin0))
        have A1559 := A1557.iaload (i := 3) (v := (.int d3)) (pc' := 256) at_255 f1558 rfl (by decide) rfl rfl
        have A1560 := A1559.iconst (z := (1 : Int32)) (pc' := 257) at_256 rfl rfl
        have f1561 := (f1519.keep K1524)
        obtain ⟨h1565, ⟨K1566, f1567, f1568, f1569, f1570, f1571, q1564⟩, A1562⟩ := W.kV (A1560.callV (a := b196) (argsL := [(.int d3), (.int (1 : Int32))]) (rest := []) (C' := 8) (S' := 25) (pc' := 260) at_257 f1561 (hw _ (List.mem_of_getElem? (i := 16) rfl)) (hw _ (List.mem_of_getElem? (i := 17) rfl)) (fun hZ => notFace_of_selects (args := #[]) (mvT hZ (hw _ (List.mem_of_getElem? (i := 19) rfl)))) (hw _ (List.mem_of_getElem? (i := 19) rfl)) (hw _ (List.mem_of_getElem? (i := 18) rfl)) (hw _ (List.mem_of_getElem? (i := 5) rfl)) (hw _ (List.mem_of_getElem? (i := 20) rfl)) (rm3_3 l Z a0 hw n0 [] (b196) (d3) ((1 : Int32)) (b1525) (b1526) ((upd (cpy (upd (cpy (upd (fun _ => (.int (0 : Int32))) 0 (.int d0)) 0 (fun _ => (.int (0 : Int32))) 0 1) 1 (.int d1)) 0 (fun _ => (.int (0 : Int32))) 0 2) 2 (.int d2))) ((upd (cpy (upd (cpy (upd (fun _ => (.int (0 : Int32))) 0 (.int (1 : Int32))) 0 (fun _ => (.int (0 : Int32))) 0 1) 1 (.int (1 : Int32))) 0 (fun _ => (.int (0 : Int32))) 0 2) 2 (.int (1 : Int32)))) h1523 A1560.size f1561 g198 f1531 f1532 f1533 f1534 f1535 g1527 g1529 f1536 ne1538 ne1546) rfl rfl pd_5 rfl rfl (by decide) (by decide) (Nat.le_of_ble_eq_true rfl) (by decide) (by decide) rfl rfl rfl)
        have A1572 := A1562.iload (v := (6 : Int32)) (pc' := 262) at_260 rfl rfl
        have A1573 := A1572.iconst (z := (4 : Int32)) (pc' := 263) at_262 rfl rfl
        have A1575 := A1573.icmpNo (pc' := 266) at_263 (tlt (igt (x := (6 : Int32)) (y := (4 : Int32)) rfl rfl (by decide : (4 : Int) < 6))).2.2.2 rfl
        have A1576 := A1575.aload (v := (.ref b196)) (pc' := 268) at_266 rfl rfl rfl
        have A1577 := A1576.aload (v := (.ref b24)) (pc' := 270) at_268 rfl rfl rfl
        have A1578 := A1577.iconst (z := (4 : Int32)) (pc' := 271) at_270 rfl rfl
        have f1579 := (f1558.keep K1566 (ninS ne203 (ninS ne1537 (ninS ne1545 nin0))))
        have A1580 := A1578.iaload (i := 4) (v := (.int d4)) (pc' := 272) at_271 f1579 rfl (by decide) rfl rfl
        have A1581 := A1580.iconst (z := (1 : Int32)) (pc' := 273) at_272 rfl rfl
        have f1582 := (f1561.keep K1566)
        obtain ⟨h1586, ⟨b1588, b1589, K1587, g1590, z1591, g1592, z1593, f1594, f1595, f1596, f1597, f1598, f1599, q1585⟩, A1583⟩ := W.kV (A1581.callV (a := b196) (argsL := [(.int d4), (.int (1 : Int32))]) (rest := []) (C' := 10) (S' := 39) (pc' := 276) at_273 f1582 (hw _ (List.mem_of_getElem? (i := 16) rfl)) (hw _ (List.mem_of_getElem? (i := 17) rfl)) (fun hZ => notFace_of_selects (args := #[]) (mvT hZ (hw _ (List.mem_of_getElem? (i := 19) rfl)))) (hw _ (List.mem_of_getElem? (i := 19) rfl)) (hw _ (List.mem_of_getElem? (i := 18) rfl)) (hw _ (List.mem_of_getElem? (i := 5) rfl)) (hw _ (List.mem_of_getElem? (i := 20) rfl)) (rm3_4 l Z a0 hw n0 [] (b196) (d4) ((1 : Int32)) (b1525) (b1526) ((upd (upd (cpy (upd (cpy (upd (fun _ => (.int (0 : Int32))) 0 (.int d0)) 0 (fun _ => (.int (0 : Int32))) 0 1) 1 (.int d1)) 0 (fun _ => (.int (0 : Int32))) 0 2) 2 (.int d2)) 3 (.int d3))) ((upd (upd (cpy (upd (cpy (upd (fun _ => (.int (0 : Int32))) 0 (.int (1 : Int32))) 0 (fun _ => (.int (0 : Int32))) 0 1) 1 (.int (1 : Int32))) 0 (fun _ => (.int (0 : Int32))) 0 2) 2 (.int (1 : Int32))) 3 (.int (1 : Int32)))) h1565 A1581.size f1582 g198 f1567 f1568 f1569 f1570 f1571 g1527 g1529 f1536 ne1538 ne1546) rfl rfl pd_5 rfl rfl (by decide) (by decide) (Nat.le_of_ble_eq_true rfl) (by decide) (by decide) rfl rfl rfl)
        have ne1600 : b24 ≠ b1588 := Nat.ne_of_lt (Nat.lt_of_lt_of_le f1579.lt z1591)
        have ne1601 : b196 ≠ b1588 := Nat.ne_of_lt (Nat.lt_of_lt_of_le f1582.lt z1591)
        have f1602 := ((f1539.keep K1524 (ninS (Ne.symm ne227) nin0)).keep K1566 (ninS (Ne.symm ne227) (ninS ne1540 (ninS ne1547 nin0))))
        have ne1603 : b213 ≠ b1588 := Nat.ne_of_lt (Nat.lt_of_lt_of_le f1602.lt z1591)
        have f1604 := ((f1541.keep K1524 (ninS (Ne.symm ne229) nin0)).keep K1566 (ninS (Ne.symm ne229) (ninS ne1542 (ninS ne1548 nin0))))
        have ne1605 : b214 ≠ b1588 := Nat.ne_of_lt (Nat.lt_of_lt_of_le f1604.lt z1591)
        have f1606 := ((f1498.keep K1524 (ninS (Ne.symm ne1502) nin0)).keep K1566 (ninS (Ne.symm ne1502) (ninS ne1543 (ninS ne1549 nin0))))
        have ne1607 : b1489 ≠ b1588 := Nat.ne_of_lt (Nat.lt_of_lt_of_le f1606.lt z1591)
        have f1608 := ((f1499.keep K1524 (ninS (Ne.symm ne1506) nin0)).keep K1566 (ninS (Ne.symm ne1506) (ninS ne1544 (ninS ne1550 nin0))))
        have ne1609 : b1490 ≠ b1588 := Nat.ne_of_lt (Nat.lt_of_lt_of_le f1608.lt z1591)
        have ne1610 : b1525 ≠ b1588 := Nat.ne_of_lt (Nat.lt_of_lt_of_le f1570.lt z1591)
        have ne1611 : b1526 ≠ b1588 := Nat.ne_of_lt (Nat.lt_of_lt_of_le f1571.lt z1591)
        have ne1612 : b24 ≠ b1589 := Nat.ne_of_lt (Nat.lt_of_lt_of_le f1579.lt z1593)
        have ne1613 : b196 ≠ b1589 := Nat.ne_of_lt (Nat.lt_of_lt_of_le f1582.lt z1593)
        have ne1614 : b213 ≠ b1589 := Nat.ne_of_lt (Nat.lt_of_lt_of_le f1602.lt z1593)
        have ne1615 : b214 ≠ b1589 := Nat.ne_of_lt (Nat.lt_of_lt_of_le f1604.lt z1593)
        have ne1616 : b1489 ≠ b1589 := Nat.ne_of_lt (Nat.lt_of_lt_of_le f1606.lt z1593)
        have ne1617 : b1490 ≠ b1589 := Nat.ne_of_lt (Nat.lt_of_lt_of_le f1608.lt z1593)
        have ne1618 : b1525 ≠ b1589 := Nat.ne_of_lt (Nat.lt_of_lt_of_le f1570.lt z1593)
        have ne1619 : b1526 ≠ b1589 := Nat.ne_of_lt (Nat.lt_of_lt_of_le f1571.lt z1593)
        have A1620 := A1583.iload (v := (6 : Int32)) (pc' := 278) at_276 rfl rfl
        have A1621 := A1620.iconst (z := (5 : Int32)) (pc' := 279) at_278 rfl rfl
        have A1623 := A1621.icmpNo (pc' := 282) at_279 (tlt (igt (x := (6 : Int32)) (y := (5 : Int32)) rfl rfl (by decide : (5 : Int) < 6))).2.2.2 rfl
        have A1624 := A1623.aload (v := (.ref b196)) (pc' := 284) at_282 rfl rfl rfl
        have A1625 := A1624.aload (v := (.ref b24)) (pc' := 286) at_284 rfl rfl rfl
        have A1626 := A1625.iconst (z := (5 : Int32)) (pc' := 287) at_286 rfl rfl
        have f1627 := (f1579.keep K1587 (ninS ne203 nin0))
        have A1628 := A1626.iaload (i := 5) (v := (.int d5)) (pc' := 288) at_287 f1627 rfl (by decide) rfl rfl
        have A1629 := A1628.iconst (z := (1 : Int32)) (pc' := 289) at_288 rfl rfl
        have f1630 := (f1582.keep K1587)
        obtain ⟨h1634, ⟨K1635, f1636, f1637, f1638, f1639, f1640, q1633⟩, A1631⟩ := W.kV (A1629.callV (a := b196) (argsL := [(.int d5), (.int (1 : Int32))]) (rest := []) (C' := 10) (S' := 39) (pc' := 292) at_289 f1630 (hw _ (List.mem_of_getElem? (i := 16) rfl)) (hw _ (List.mem_of_getElem? (i := 17) rfl)) (fun hZ => notFace_of_selects (args := #[]) (mvT hZ (hw _ (List.mem_of_getElem? (i := 19) rfl)))) (hw _ (List.mem_of_getElem? (i := 19) rfl)) (hw _ (List.mem_of_getElem? (i := 18) rfl)) (hw _ (List.mem_of_getElem? (i := 5) rfl)) (hw _ (List.mem_of_getElem? (i := 20) rfl)) (rm3_5 l Z a0 hw n0 [] (b196) (d5) ((1 : Int32)) (b1588) (b1589) ((upd (cpy (upd (upd (cpy (upd (cpy (upd (fun _ => (.int (0 : Int32))) 0 (.int d0)) 0 (fun _ => (.int (0 : Int32))) 0 1) 1 (.int d1)) 0 (fun _ => (.int (0 : Int32))) 0 2) 2 (.int d2)) 3 (.int d3)) 0 (fun _ => (.int (0 : Int32))) 0 4) 4 (.int d4))) ((upd (cpy (upd (upd (cpy (upd (cpy (upd (fun _ => (.int (0 : Int32))) 0 (.int (1 : Int32))) 0 (fun _ => (.int (0 : Int32))) 0 1) 1 (.int (1 : Int32))) 0 (fun _ => (.int (0 : Int32))) 0 2) 2 (.int (1 : Int32))) 3 (.int (1 : Int32))) 0 (fun _ => (.int (0 : Int32))) 0 4) 4 (.int (1 : Int32)))) h1586 A1629.size f1630 g198 f1594 f1595 f1596 f1597 f1598 g1590 g1592 f1599 ne1601 ne1613) rfl rfl pd_5 rfl rfl (by decide) (by decide) (Nat.le_of_ble_eq_true rfl) (by decide) (by decide) rfl rfl rfl)
        have A1641 := A1631.iload (v := (6 : Int32)) (pc' := 294) at_292 rfl rfl
        have A1642 := A1641.bipush (z := (6 : Int32)) (pc' := 296) at_294 rfl rfl
        have A1644 := A1642.icmpYes (pc' := 310) at_296 (flt (ingt (x := (6 : Int32)) (y := (6 : Int32)) rfl rfl (by decide : ¬ ((6 : Int) < 6)))).2.2.2 (by decide) (by decide)
        have A1645 := A1644.iload (v := (6 : Int32)) (pc' := 312) at_310 rfl rfl
        have A1646 := A1645.istore (Ls' := #[.val (.int xx), .val (.int xy), .val (.int xc), .val (.int xq), .val (.int xz), .val (.int (6 : Int32)), .val (.int v19), .val (.ref b24), .val (.int doc), .val (.int ii), .val (.ref b196), .val (.int (6 : Int32)), .unset]) (pc' := 314) at_312 rfl rfl
        have A1647 := A1646.iload (v := (6 : Int32)) (pc' := 316) at_314 rfl rfl
        have A1648 := A1647.bipush (z := (7 : Int32)) (pc' := 318) at_316 rfl rfl
        have A1649 := A1648.iload (v := ii) (pc' := 320) at_318 rfl rfl
        have A1650 := A1649.iload (v := (6 : Int32)) (pc' := 322) at_320 rfl rfl
        have A1651 := A1650.aload (v := (.ref b24)) (pc' := 324) at_322 rfl rfl rfl
        have A1652 := A1651.iload (v := doc) (pc' := 326) at_324 rfl rfl
        have f1653 := (f1627.keep K1635 (ninS ne203 (ninS ne1600 (ninS ne1612 nin0))))
        obtain ⟨r1655, _, ⟨rfl, q1656⟩, A1654⟩ := W.kI (A1652.callS (argsL := [(.int (6 : Int32)), (.int (7 : Int32)), (.int ii), (.int (6 : Int32)), (.ref b24), (.int doc)]) (rest := []) (C' := 10) (S' := 39) (pc' := 329) at_326 (hw _ (List.mem_of_getElem? (i := 35) rfl)) (hw _ (List.mem_of_getElem? (i := 36) rfl)) (hw _ (List.mem_of_getElem? (i := 37) rfl)) (hw _ (List.mem_of_getElem? (i := 38) rfl)) (rm6 l Z a0 hw n0 [] ((6 : Int32)) ((7 : Int32)) (ii) ((6 : Int32)) (b24) (doc) ((upd (upd (upd (upd (upd (upd (upd (upd (fun _ => (.int (0 : Int32))) 0 (.int d0)) 1 (.int d1)) 2 (.int d2)) 3 (.int d3)) 4 (.int d4)) 5 (.int d5)) 6 (.int d6)) 7 (.int d7))) (d7) h1634 A1652.size f1653 (by first | (constructor <;> decide) | rfl) (by first | (constructor <;> decide) | rfl)) rfl rfl pd_4 rfl rfl (by decide) (by decide) (Nat.le_of_ble_eq_true rfl) (by decide) (by decide) rfl rfl rfl)
        have pk8 : own_from g ii.toInt 6 doc.toInt 8 ((6 : Int32)).toInt := own_from0 g ii.toInt 6 doc.toInt (by decide)
        have pk7 : own_from g ii.toInt 6 doc.toInt 7 r1655.toInt := own_step g ii.toInt 6 doc.toInt 7 r1655.toInt ((6 : Int32)).toInt d7.toInt (by decide) (by rw [e_g]; rfl) pk8 q1656
        have A1658 := A1654.istore (Ls' := #[.val (.int xx), .val (.int xy), .val (.int xc), .val (.int xq), .val (.int xz), .val (.int (6 : Int32)), .val (.int v19), .val (.ref b24), .val (.int doc), .val (.int ii), .val (.ref b196), .val (.int r1655), .unset]) (pc' := 331) at_329 rfl rfl
        have A1659 := A1658.iload (v := r1655) (pc' := 333) at_331 rfl rfl
        have A1660 := A1659.bipush (z := (6 : Int32)) (pc' := 335) at_333 rfl rfl
        have A1661 := A1660.iload (v := ii) (pc' := 337) at_335 rfl rfl
        have A1662 := A1661.iload (v := (6 : Int32)) (pc' := 339) at_337 rfl rfl
        have A1663 := A1662.aload (v := (.ref b24)) (pc' := 341) at_339 rfl rfl rfl
        have A1664 := A1663.iload (v := doc) (pc' := 343) at_341 rfl rfl
        obtain ⟨r1666, _, ⟨rfl, q1667⟩, A1665⟩ := W.kI (A1664.callS (argsL := [(.int r1655), (.int (6 : Int32)), (.int ii), (.int (6 : Int32)), (.ref b24), (.int doc)]) (rest := []) (C' := 10) (S' := 39) (pc' := 346) at_343 (hw _ (List.mem_of_getElem? (i := 35) rfl)) (hw _ (List.mem_of_getElem? (i := 36) rfl)) (hw _ (List.mem_of_getElem? (i := 37) rfl)) (hw _ (List.mem_of_getElem? (i := 38) rfl)) (rm6 l Z a0 hw n0 [] (r1655) ((6 : Int32)) (ii) ((6 : Int32)) (b24) (doc) ((upd (upd (upd (upd (upd (upd (upd (upd (fun _ => (.int (0 : Int32))) 0 (.int d0)) 1 (.int d1)) 2 (.int d2)) 3 (.int d3)) 4 (.int d4)) 5 (.int d5)) 6 (.int d6)) 7 (.int d7))) (d6) h1634 A1664.size f1653 (by first | (constructor <;> decide) | rfl) (by first | (constructor <;> decide) | rfl)) rfl rfl pd_4 rfl rfl (by decide) (by decide) (Nat.le_of_ble_eq_true rfl) (by decide) (by decide) rfl rfl rfl)
        have pk6 : own_from g ii.toInt 6 doc.toInt 6 r1666.toInt := own_step g ii.toInt 6 doc.toInt 6 r1666.toInt (r1655).toInt d6.toInt (by decide) (by rw [e_g]; rfl) pk7 q1667
        have A1669 := A1665.istore (Ls' := #[.val (.int xx), .val (.int xy), .val (.int xc), .val (.int xq), .val (.int xz), .val (.int (6 : Int32)), .val (.int v19), .val (.ref b24), .val (.int doc), .val (.int ii), .val (.ref b196), .val (.int r1666), .unset]) (pc' := 348) at_346 rfl rfl
        have A1670 := A1669.iload (v := r1666) (pc' := 350) at_348 rfl rfl
        have A1671 := A1670.iconst (z := (5 : Int32)) (pc' := 351) at_350 rfl rfl
        have A1672 := A1671.iload (v := ii) (pc' := 353) at_351 rfl rfl
        have A1673 := A1672.iload (v := (6 : Int32)) (pc' := 355) at_353 rfl rfl
        have A1674 := A1673.aload (v := (.ref b24)) (pc' := 357) at_355 rfl rfl rfl
        have A1675 := A1674.iload (v := doc) (pc' := 359) at_357 rfl rfl
        obtain ⟨r1677, _, ⟨rfl, q1678⟩, A1676⟩ := W.kI (A1675.callS (argsL := [(.int r1666), (.int (5 : Int32)), (.int ii), (.int (6 : Int32)), (.ref b24), (.int doc)]) (rest := []) (C' := 10) (S' := 39) (pc' := 362) at_359 (hw _ (List.mem_of_getElem? (i := 35) rfl)) (hw _ (List.mem_of_getElem? (i := 36) rfl)) (hw _ (List.mem_of_getElem? (i := 37) rfl)) (hw _ (List.mem_of_getElem? (i := 38) rfl)) (rm6 l Z a0 hw n0 [] (r1666) ((5 : Int32)) (ii) ((6 : Int32)) (b24) (doc) ((upd (upd (upd (upd (upd (upd (upd (upd (fun _ => (.int (0 : Int32))) 0 (.int d0)) 1 (.int d1)) 2 (.int d2)) 3 (.int d3)) 4 (.int d4)) 5 (.int d5)) 6 (.int d6)) 7 (.int d7))) (d5) h1634 A1675.size f1653 (by first | (constructor <;> decide) | rfl) (by first | (constructor <;> decide) | rfl)) rfl rfl pd_4 rfl rfl (by decide) (by decide) (Nat.le_of_ble_eq_true rfl) (by decide) (by decide) rfl rfl rfl)
        have pk5 : own_from g ii.toInt 6 doc.toInt 5 r1677.toInt := own_step g ii.toInt 6 doc.toInt 5 r1677.toInt (r1666).toInt d5.toInt (by decide) (by rw [e_g]; rfl) pk6 q1678
        have A1680 := A1676.istore (Ls' := #[.val (.int xx), .val (.int xy), .val (.int xc), .val (.int xq), .val (.int xz), .val (.int (6 : Int32)), .val (.int v19), .val (.ref b24), .val (.int doc), .val (.int ii), .val (.ref b196), .val (.int r1677), .unset]) (pc' := 364) at_362 rfl rfl
        have A1681 := A1680.iload (v := r1677) (pc' := 366) at_364 rfl rfl
        have A1682 := A1681.iconst (z := (4 : Int32)) (pc' := 367) at_366 rfl rfl
        have A1683 := A1682.iload (v := ii) (pc' := 369) at_367 rfl rfl
        have A1684 := A1683.iload (v := (6 : Int32)) (pc' := 371) at_369 rfl rfl
        have A1685 := A1684.aload (v := (.ref b24)) (pc' := 373) at_371 rfl rfl rfl
        have A1686 := A1685.iload (v := doc) (pc' := 375) at_373 rfl rfl
        obtain ⟨r1688, _, ⟨rfl, q1689⟩, A1687⟩ := W.kI (A1686.callS (argsL := [(.int r1677), (.int (4 : Int32)), (.int ii), (.int (6 : Int32)), (.ref b24), (.int doc)]) (rest := []) (C' := 10) (S' := 39) (pc' := 378) at_375 (hw _ (List.mem_of_getElem? (i := 35) rfl)) (hw _ (List.mem_of_getElem? (i := 36) rfl)) (hw _ (List.mem_of_getElem? (i := 37) rfl)) (hw _ (List.mem_of_getElem? (i := 38) rfl)) (rm6 l Z a0 hw n0 [] (r1677) ((4 : Int32)) (ii) ((6 : Int32)) (b24) (doc) ((upd (upd (upd (upd (upd (upd (upd (upd (fun _ => (.int (0 : Int32))) 0 (.int d0)) 1 (.int d1)) 2 (.int d2)) 3 (.int d3)) 4 (.int d4)) 5 (.int d5)) 6 (.int d6)) 7 (.int d7))) (d4) h1634 A1686.size f1653 (by first | (constructor <;> decide) | rfl) (by first | (constructor <;> decide) | rfl)) rfl rfl pd_4 rfl rfl (by decide) (by decide) (Nat.le_of_ble_eq_true rfl) (by decide) (by decide) rfl rfl rfl)
        have pk4 : own_from g ii.toInt 6 doc.toInt 4 r1688.toInt := own_step g ii.toInt 6 doc.toInt 4 r1688.toInt (r1677).toInt d4.toInt (by decide) (by rw [e_g]; rfl) pk5 q1689
        have A1691 := A1687.istore (Ls' := #[.val (.int xx), .val (.int xy), .val (.int xc), .val (.int xq), .val (.int xz), .val (.int (6 : Int32)), .val (.int v19), .val (.ref b24), .val (.int doc), .val (.int ii), .val (.ref b196), .val (.int r1688), .unset]) (pc' := 380) at_378 rfl rfl
        have A1692 := A1691.iload (v := r1688) (pc' := 382) at_380 rfl rfl
        have A1693 := A1692.iconst (z := (3 : Int32)) (pc' := 383) at_382 rfl rfl
        have A1694 := A1693.iload (v := ii) (pc' := 385) at_383 rfl rfl
        have A1695 := A1694.iload (v := (6 : Int32)) (pc' := 387) at_385 rfl rfl
        have A1696 := A1695.aload (v := (.ref b24)) (pc' := 389) at_387 rfl rfl rfl
        have A1697 := A1696.iload (v := doc) (pc' := 391) at_389 rfl rfl
        obtain ⟨r1699, _, ⟨rfl, q1700⟩, A1698⟩ := W.kI (A1697.callS (argsL := [(.int r1688), (.int (3 : Int32)), (.int ii), (.int (6 : Int32)), (.ref b24), (.int doc)]) (rest := []) (C' := 10) (S' := 39) (pc' := 394) at_391 (hw _ (List.mem_of_getElem? (i := 35) rfl)) (hw _ (List.mem_of_getElem? (i := 36) rfl)) (hw _ (List.mem_of_getElem? (i := 37) rfl)) (hw _ (List.mem_of_getElem? (i := 38) rfl)) (rm6 l Z a0 hw n0 [] (r1688) ((3 : Int32)) (ii) ((6 : Int32)) (b24) (doc) ((upd (upd (upd (upd (upd (upd (upd (upd (fun _ => (.int (0 : Int32))) 0 (.int d0)) 1 (.int d1)) 2 (.int d2)) 3 (.int d3)) 4 (.int d4)) 5 (.int d5)) 6 (.int d6)) 7 (.int d7))) (d3) h1634 A1697.size f1653 (by first | (constructor <;> decide) | rfl) (by first | (constructor <;> decide) | rfl)) rfl rfl pd_4 rfl rfl (by decide) (by decide) (Nat.le_of_ble_eq_true rfl) (by decide) (by decide) rfl rfl rfl)
        have pk3 : own_from g ii.toInt 6 doc.toInt 3 r1699.toInt := own_step g ii.toInt 6 doc.toInt 3 r1699.toInt (r1688).toInt d3.toInt (by decide) (by rw [e_g]; rfl) pk4 q1700
        have A1702 := A1698.istore (Ls' := #[.val (.int xx), .val (.int xy), .val (.int xc), .val (.int xq), .val (.int xz), .val (.int (6 : Int32)), .val (.int v19), .val (.ref b24), .val (.int doc), .val (.int ii), .val (.ref b196), .val (.int r1699), .unset]) (pc' := 396) at_394 rfl rfl
        have A1703 := A1702.iload (v := r1699) (pc' := 398) at_396 rfl rfl
        have A1704 := A1703.iconst (z := (2 : Int32)) (pc' := 399) at_398 rfl rfl
        have A1705 := A1704.iload (v := ii) (pc' := 401) at_399 rfl rfl
        have A1706 := A1705.iload (v := (6 : Int32)) (pc' := 403) at_401 rfl rfl
        have A1707 := A1706.aload (v := (.ref b24)) (pc' := 405) at_403 rfl rfl rfl
        have A1708 := A1707.iload (v := doc) (pc' := 407) at_405 rfl rfl
        obtain ⟨r1710, _, ⟨rfl, q1711⟩, A1709⟩ := W.kI (A1708.callS (argsL := [(.int r1699), (.int (2 : Int32)), (.int ii), (.int (6 : Int32)), (.ref b24), (.int doc)]) (rest := []) (C' := 10) (S' := 39) (pc' := 410) at_407 (hw _ (List.mem_of_getElem? (i := 35) rfl)) (hw _ (List.mem_of_getElem? (i := 36) rfl)) (hw _ (List.mem_of_getElem? (i := 37) rfl)) (hw _ (List.mem_of_getElem? (i := 38) rfl)) (rm6 l Z a0 hw n0 [] (r1699) ((2 : Int32)) (ii) ((6 : Int32)) (b24) (doc) ((upd (upd (upd (upd (upd (upd (upd (upd (fun _ => (.int (0 : Int32))) 0 (.int d0)) 1 (.int d1)) 2 (.int d2)) 3 (.int d3)) 4 (.int d4)) 5 (.int d5)) 6 (.int d6)) 7 (.int d7))) (d2) h1634 A1708.size f1653 (by first | (constructor <;> decide) | rfl) (by first | (constructor <;> decide) | rfl)) rfl rfl pd_4 rfl rfl (by decide) (by decide) (Nat.le_of_ble_eq_true rfl) (by decide) (by decide) rfl rfl rfl)
        have pk2 : own_from g ii.toInt 6 doc.toInt 2 r1710.toInt := own_step g ii.toInt 6 doc.toInt 2 r1710.toInt (r1699).toInt d2.toInt (by decide) (by rw [e_g]; rfl) pk3 q1711
        have A1713 := A1709.istore (Ls' := #[.val (.int xx), .val (.int xy), .val (.int xc), .val (.int xq), .val (.int xz), .val (.int (6 : Int32)), .val (.int v19), .val (.ref b24), .val (.int doc), .val (.int ii), .val (.ref b196), .val (.int r1710), .unset]) (pc' := 412) at_410 rfl rfl
        have A1714 := A1713.iload (v := r1710) (pc' := 414) at_412 rfl rfl
        have A1715 := A1714.iconst (z := (1 : Int32)) (pc' := 415) at_414 rfl rfl
        have A1716 := A1715.iload (v := ii) (pc' := 417) at_415 rfl rfl
        have A1717 := A1716.iload (v := (6 : Int32)) (pc' := 419) at_417 rfl rfl
        have A1718 := A1717.aload (v := (.ref b24)) (pc' := 421) at_419 rfl rfl rfl
        have A1719 := A1718.iload (v := doc) (pc' := 423) at_421 rfl rfl
        obtain ⟨r1721, _, ⟨rfl, q1722⟩, A1720⟩ := W.kI (A1719.callS (argsL := [(.int r1710), (.int (1 : Int32)), (.int ii), (.int (6 : Int32)), (.ref b24), (.int doc)]) (rest := []) (C' := 10) (S' := 39) (pc' := 426) at_423 (hw _ (List.mem_of_getElem? (i := 35) rfl)) (hw _ (List.mem_of_getElem? (i := 36) rfl)) (hw _ (List.mem_of_getElem? (i := 37) rfl)) (hw _ (List.mem_of_getElem? (i := 38) rfl)) (rm6 l Z a0 hw n0 [] (r1710) ((1 : Int32)) (ii) ((6 : Int32)) (b24) (doc) ((upd (upd (upd (upd (upd (upd (upd (upd (fun _ => (.int (0 : Int32))) 0 (.int d0)) 1 (.int d1)) 2 (.int d2)) 3 (.int d3)) 4 (.int d4)) 5 (.int d5)) 6 (.int d6)) 7 (.int d7))) (d1) h1634 A1719.size f1653 (by first | (constructor <;> decide) | rfl) (by first | (constructor <;> decide) | rfl)) rfl rfl pd_4 rfl rfl (by decide) (by decide) (Nat.le_of_ble_eq_true rfl) (by decide) (by decide) rfl rfl rfl)
        have pk1 : own_from g ii.toInt 6 doc.toInt 1 r1721.toInt := own_step g ii.toInt 6 doc.toInt 1 r1721.toInt (r1710).toInt d1.toInt (by decide) (by rw [e_g]; rfl) pk2 q1722
        have A1724 := A1720.istore (Ls' := #[.val (.int xx), .val (.int xy), .val (.int xc), .val (.int xq), .val (.int xz), .val (.int (6 : Int32)), .val (.int v19), .val (.ref b24), .val (.int doc), .val (.int ii), .val (.ref b196), .val (.int r1721), .unset]) (pc' := 428) at_426 rfl rfl
        have A1725 := A1724.iload (v := r1721) (pc' := 430) at_428 rfl rfl
        have A1726 := A1725.iconst (z := (0 : Int32)) (pc' := 431) at_430 rfl rfl
        have A1727 := A1726.iload (v := ii) (pc' := 433) at_431 rfl rfl
        have A1728 := A1727.iload (v := (6 : Int32)) (pc' := 435) at_433 rfl rfl
        have A1729 := A1728.aload (v := (.ref b24)) (pc' := 437) at_435 rfl rfl rfl
        have A1730 := A1729.iload (v := doc) (pc' := 439) at_437 rfl rfl
        obtain ⟨r1732, _, ⟨rfl, q1733⟩, A1731⟩ := W.kI (A1730.callS (argsL := [(.int r1721), (.int (0 : Int32)), (.int ii), (.int (6 : Int32)), (.ref b24), (.int doc)]) (rest := []) (C' := 10) (S' := 39) (pc' := 442) at_439 (hw _ (List.mem_of_getElem? (i := 35) rfl)) (hw _ (List.mem_of_getElem? (i := 36) rfl)) (hw _ (List.mem_of_getElem? (i := 37) rfl)) (hw _ (List.mem_of_getElem? (i := 38) rfl)) (rm6 l Z a0 hw n0 [] (r1721) ((0 : Int32)) (ii) ((6 : Int32)) (b24) (doc) ((upd (upd (upd (upd (upd (upd (upd (upd (fun _ => (.int (0 : Int32))) 0 (.int d0)) 1 (.int d1)) 2 (.int d2)) 3 (.int d3)) 4 (.int d4)) 5 (.int d5)) 6 (.int d6)) 7 (.int d7))) (d0) h1634 A1730.size f1653 (by first | (constructor <;> decide) | rfl) (by first | (constructor <;> decide) | rfl)) rfl rfl pd_4 rfl rfl (by decide) (by decide) (Nat.le_of_ble_eq_true rfl) (by decide) (by decide) rfl rfl rfl)
        have pk0 : own_from g ii.toInt 6 doc.toInt 0 r1732.toInt := own_step g ii.toInt 6 doc.toInt 0 r1732.toInt (r1721).toInt d0.toInt (by decide) (by rw [e_g]; rfl) pk1 q1733
        have A1735 := A1731.istore (Ls' := #[.val (.int xx), .val (.int xy), .val (.int xc), .val (.int xq), .val (.int xz), .val (.int (6 : Int32)), .val (.int v19), .val (.ref b24), .val (.int doc), .val (.int ii), .val (.ref b196), .val (.int r1732), .unset]) (pc' := 444) at_442 rfl rfl
        have A1736 := A1735.aload (v := (.ref b196)) (pc' := 446) at_444 rfl rfl rfl
        have A1737 := A1736.iload (v := ii) (pc' := 448) at_446 rfl rfl
        have A1738 := A1737.iload (v := doc) (pc' := 450) at_448 rfl rfl
        have f1741 := (f1630.keep K1635)
        obtain ⟨r1740, _, ⟨rfl, q1742⟩, A1739⟩ := W.kI (A1738.callV (a := b196) (argsL := [(.int ii), (.int doc)]) (rest := []) (C' := 10) (S' := 39) (pc' := 453) at_450 f1741 (hw _ (List.mem_of_getElem? (i := 39) rfl)) (hw _ (List.mem_of_getElem? (i := 40) rfl)) (fun hZ => notFace_of_selects (args := #[]) (mvT hZ (hw _ (List.mem_of_getElem? (i := 42) rfl)))) (hw _ (List.mem_of_getElem? (i := 42) rfl)) (hw _ (List.mem_of_getElem? (i := 41) rfl)) (hw _ (List.mem_of_getElem? (i := 5) rfl)) (hw _ (List.mem_of_getElem? (i := 43) rfl)) (rm7 l Z a0 hw n0 [] (b196) (ii) (doc) (b1588) (7) ((6 : Int32)) ((upd (upd (cpy (upd (upd (cpy (upd (cpy (upd (fun _ => (.int (0 : Int32))) 0 (.int d0)) 0 (fun _ => (.int (0 : Int32))) 0 1) 1 (.int d1)) 0 (fun _ => (.int (0 : Int32))) 0 2) 2 (.int d2)) 3 (.int d3)) 0 (fun _ => (.int (0 : Int32))) 0 4) 4 (.int d4)) 5 (.int d5))) (g) h1634 A1738.size f1636 f1638 f1639 (by exact ⟨ki.1, by rw [hnt] at ki; exact ki.2, by decide, by decide, fun j k h1 h2 => hinc j k h1 (Int.lt_of_lt_of_le h2 (by decide))⟩) (by intro j hj; have lz : (6 : Int32).toInt = 6 := rfl; have hj' : j = 0 ∨ j = 1 ∨ j = 2 ∨ j = 3 ∨ j = 4 ∨ j = 5 := (by omega); rw [e_g]; rcases hj' with rfl | rfl | rfl | rfl | rfl | rfl <;> rfl)) rfl rfl pd_0 rfl rfl (by decide) (by decide) (Nat.le_of_ble_eq_true rfl) (by decide) (by decide) rfl rfl rfl)
        have A1744 := A1739.istore (Ls' := #[.val (.int xx), .val (.int xy), .val (.int xc), .val (.int xq), .val (.int xz), .val (.int (6 : Int32)), .val (.int v19), .val (.ref b24), .val (.int doc), .val (.int ii), .val (.ref b196), .val (.int r1732), .val (.int r1740)]) (pc' := 455) at_453 rfl rfl
        have A1745 := A1744.iload (v := r1740) (pc' := 457) at_455 rfl rfl
        have A1746 := A1745.iload (v := r1732) (pc' := 459) at_457 rfl rfl
        by_cases c1747 : r1740.toInt = r1732.toInt
        · have A1748 := A1746.icmpNo (pc' := 462) at_459 (teq (ieq (x := r1740) (y := r1732) rfl rfl c1747)).2 rfl
          have A1749 := A1748.iconst (z := (1 : Int32)) (pc' := 463) at_462 rfl rfl
          have A1750 := A1749.goto (pc' := 467) at_463 (by decide) (by decide)
          refine A1750.retN (t := .boolean) (z' := (1 : Int32)) at_467 (by decide) (by decide) (by simp) rfl ⟨_, rfl, ⟨trivial, ?_⟩⟩
          have elit : (1 : Int32).toInt = 1 := rfl
          rfl
        · have A1751 := A1746.icmpYes (pc' := 466) at_459 (feq (ine (x := r1740) (y := r1732) rfl rfl c1747)).2 (by decide) (by decide)
          have A1752 := A1751.iconst (z := (0 : Int32)) (pc' := 467) at_466 rfl rfl
          refine A1752.retN (t := .boolean) (z' := (0 : Int32)) at_467 (by decide) (by decide) (by simp) rfl ⟨_, rfl, ⟨trivial, ?_⟩⟩
          have elit : (0 : Int32).toInt = 0 := rfl
          exfalso
          exact c1747 (own_uniq g ii.toInt 6 doc.toInt _ _ (by rw [hnt] at ki; exact ki.2) ki.1 q1742 pk0)
      · have A1753 := A230.cast (Ls' := #[.val (.int xx), .val (.int xy), .val (.int xc), .val (.int xq), .val (.int xz), .val (.int (7 : Int32)), .val (.int v19), .val (.ref b24), .val (.int doc), .val (.int ii), .val (.ref b196), .unset, .unset]) rfl (by rw [hn]) rfl
        have hnt : n.toInt = 7 := by rw [hn]; rfl
        have A1754 := A1753.iload (v := (7 : Int32)) (pc' := 199) at_197 rfl rfl
        have A1756 := A1754.ifNo (pc' := 202) at_199 (tlt (igt (x := (7 : Int32)) (y := (0 : Int32)) rfl rfl (by decide : (0 : Int) < 7))).2.2.2 rfl
        have A1757 := A1756.aload (v := (.ref b196)) (pc' := 204) at_202 rfl rfl rfl
        have A1758 := A1757.aload (v := (.ref b24)) (pc' := 206) at_204 rfl rfl rfl
        have A1759 := A1758.iconst (z := (0 : Int32)) (pc' := 207) at_206 rfl rfl
        have f1760 := (f225.keep K212 (ninS ne203 nin0))
        have A1761 := A1759.iaload (i := 0) (v := (.int d0)) (pc' := 208) at_207 f1760 rfl (by decide) rfl rfl
        have A1762 := A1761.iconst (z := (1 : Int32)) (pc' := 209) at_208 rfl rfl
        have f1763 := (X200.keep K212)
        obtain ⟨h1767, ⟨K1768, f1769, f1770, f1771, f1772, f1773, q1766⟩, A1764⟩ := W.kV (A1762.callV (a := b196) (argsL := [(.int d0), (.int (1 : Int32))]) (rest := []) (C' := 4) (S' := 13) (pc' := 212) at_209 f1763 (hw _ (List.mem_of_getElem? (i := 16) rfl)) (hw _ (List.mem_of_getElem? (i := 17) rfl)) (fun hZ => notFace_of_selects (args := #[]) (mvT hZ (hw _ (List.mem_of_getElem? (i := 19) rfl)))) (hw _ (List.mem_of_getElem? (i := 19) rfl)) (hw _ (List.mem_of_getElem? (i := 18) rfl)) (hw _ (List.mem_of_getElem? (i := 5) rfl)) (hw _ (List.mem_of_getElem? (i := 20) rfl)) (rm3_0 l Z a0 hw n0 [] (b196) (d0) ((1 : Int32)) (b213) (b214) ((fun _ => (.int (0 : Int32)))) ((fun _ => (.int (0 : Int32)))) h211 A1762.size f1763 g198 f219 f220 f221 f222 f223 g215 g217 f224 ne227 ne229) rfl rfl pd_5 rfl rfl (by decide) (by decide) (Nat.le_of_ble_eq_true rfl) (by decide) (by decide) rfl rfl rfl)
        have A1774 := A1764.iload (v := (7 : Int32)) (pc' := 214) at_212 rfl rfl
        have A1775 := A1774.iconst (z := (1 : Int32)) (pc' := 215) at_214 rfl rfl
        have A1777 := A1775.icmpNo (pc' := 218) at_215 (tlt (igt (x := (7 : Int32)) (y := (1 : Int32)) rfl rfl (by decide : (1 : Int) < 7))).2.2.2 rfl
        have A1778 := A1777.aload (v := (.ref b196)) (pc' := 220) at_218 rfl rfl rfl
        have A1779 := A1778.aload (v := (.ref b24)) (pc' := 222) at_220 rfl rfl rfl
        have A1780 := A1779.iconst (z := (1 : Int32)) (pc' := 223) at_222 rfl rfl
        have f1781 := (f1760.keep K1768 (ninS ne203 (ninS ne226 (ninS ne228 nin0))))
        have A1782 := A1780.iaload (i := 1) (v := (.int d1)) (pc' := 224) at_223 f1781 rfl (by decide) rfl rfl
        have A1783 := A1782.iconst (z := (1 : Int32)) (pc' := 225) at_224 rfl rfl
        have f1784 := (f1763.keep K1768)
        obtain ⟨h1788, ⟨b1790, b1791, K1789, g1792, z1793, g1794, z1795, f1796, f1797, f1798, f1799, f1800, f1801, q1787⟩, A1785⟩ := W.kV (A1783.callV (a := b196) (argsL := [(.int d1), (.int (1 : Int32))]) (rest := []) (C' := 6) (S' := 17) (pc' := 228) at_225 f1784 (hw _ (List.mem_of_getElem? (i := 16) rfl)) (hw _ (List.mem_of_getElem? (i := 17) rfl)) (fun hZ => notFace_of_selects (args := #[]) (mvT hZ (hw _ (List.mem_of_getElem? (i := 19) rfl)))) (hw _ (List.mem_of_getElem? (i := 19) rfl)) (hw _ (List.mem_of_getElem? (i := 18) rfl)) (hw _ (List.mem_of_getElem? (i := 5) rfl)) (hw _ (List.mem_of_getElem? (i := 20) rfl)) (rm3_1 l Z a0 hw n0 [] (b196) (d1) ((1 : Int32)) (b213) (b214) ((upd (fun _ => (.int (0 : Int32))) 0 (.int d0))) ((upd (fun _ => (.int (0 : Int32))) 0 (.int (1 : Int32)))) h1767 A1783.size f1784 g198 f1769 f1770 f1771 f1772 f1773 g215 g217 f224 ne227 ne229) rfl rfl pd_5 rfl rfl (by decide) (by decide) (Nat.le_of_ble_eq_true rfl) (by decide) (by decide) rfl rfl rfl)
        have ne1802 : b24 ≠ b1790 := Nat.ne_of_lt (Nat.lt_of_lt_of_le f1781.lt z1793)
        have ne1803 : b196 ≠ b1790 := Nat.ne_of_lt (Nat.lt_of_lt_of_le f1784.lt z1793)
        have ne1804 : b213 ≠ b1790 := Nat.ne_of_lt (Nat.lt_of_lt_of_le f1772.lt z1793)
        have ne1805 : b214 ≠ b1790 := Nat.ne_of_lt (Nat.lt_of_lt_of_le f1773.lt z1793)
        have ne1806 : b24 ≠ b1791 := Nat.ne_of_lt (Nat.lt_of_lt_of_le f1781.lt z1795)
        have ne1807 : b196 ≠ b1791 := Nat.ne_of_lt (Nat.lt_of_lt_of_le f1784.lt z1795)
        have ne1808 : b213 ≠ b1791 := Nat.ne_of_lt (Nat.lt_of_lt_of_le f1772.lt z1795)
        have ne1809 : b214 ≠ b1791 := Nat.ne_of_lt (Nat.lt_of_lt_of_le f1773.lt z1795)
        have A1810 := A1785.iload (v := (7 : Int32)) (pc' := 230) at_228 rfl rfl
        have A1811 := A1810.iconst (z := (2 : Int32)) (pc' := 231) at_230 rfl rfl
        have A1813 := A1811.icmpNo (pc' := 234) at_231 (tlt (igt (x := (7 : Int32)) (y := (2 : Int32)) rfl rfl (by decide : (2 : Int) < 7))).2.2.2 rfl
        have A1814 := A1813.aload (v := (.ref b196)) (pc' := 236) at_234 rfl rfl rfl
        have A1815 := A1814.aload (v := (.ref b24)) (pc' := 238) at_236 rfl rfl rfl
        have A1816 := A1815.iconst (z := (2 : Int32)) (pc' := 239) at_238 rfl rfl
        have f1817 := (f1781.keep K1789 (ninS ne203 nin0))
        have A1818 := A1816.iaload (i := 2) (v := (.int d2)) (pc' := 240) at_239 f1817 rfl (by decide) rfl rfl
        have A1819 := A1818.iconst (z := (1 : Int32)) (pc' := 241) at_240 rfl rfl
        have f1820 := (f1784.keep K1789)
        obtain ⟨h1824, ⟨b1826, b1827, K1825, g1828, z1829, g1830, z1831, f1832, f1833, f1834, f1835, f1836, f1837, q1823⟩, A1821⟩ := W.kV (A1819.callV (a := b196) (argsL := [(.int d2), (.int (1 : Int32))]) (rest := []) (C' := 8) (S' := 25) (pc' := 244) at_241 f1820 (hw _ (List.mem_of_getElem? (i := 16) rfl)) (hw _ (List.mem_of_getElem? (i := 17) rfl)) (fun hZ => notFace_of_selects (args := #[]) (mvT hZ (hw _ (List.mem_of_getElem? (i := 19) rfl)))) (hw _ (List.mem_of_getElem? (i := 19) rfl)) (hw _ (List.mem_of_getElem? (i := 18) rfl)) (hw _ (List.mem_of_getElem? (i := 5) rfl)) (hw _ (List.mem_of_getElem? (i := 20) rfl)) (rm3_2 l Z a0 hw n0 [] (b196) (d2) ((1 : Int32)) (b1790) (b1791) ((upd (cpy (upd (fun _ => (.int (0 : Int32))) 0 (.int d0)) 0 (fun _ => (.int (0 : Int32))) 0 1) 1 (.int d1))) ((upd (cpy (upd (fun _ => (.int (0 : Int32))) 0 (.int (1 : Int32))) 0 (fun _ => (.int (0 : Int32))) 0 1) 1 (.int (1 : Int32)))) h1788 A1819.size f1820 g198 f1796 f1797 f1798 f1799 f1800 g1792 g1794 f1801 ne1803 ne1807) rfl rfl pd_5 rfl rfl (by decide) (by decide) (Nat.le_of_ble_eq_true rfl) (by decide) (by decide) rfl rfl rfl)
        have ne1838 : b24 ≠ b1826 := Nat.ne_of_lt (Nat.lt_of_lt_of_le f1817.lt z1829)
        have ne1839 : b196 ≠ b1826 := Nat.ne_of_lt (Nat.lt_of_lt_of_le f1820.lt z1829)
        have f1840 := (f1772.keep K1789 (ninS (Ne.symm ne227) nin0))
        have ne1841 : b213 ≠ b1826 := Nat.ne_of_lt (Nat.lt_of_lt_of_le f1840.lt z1829)
        have f1842 := (f1773.keep K1789 (ninS (Ne.symm ne229) nin0))
        have ne1843 : b214 ≠ b1826 := Nat.ne_of_lt (Nat.lt_of_lt_of_le f1842.lt z1829)
        have ne1844 : b1790 ≠ b1826 := Nat.ne_of_lt (Nat.lt_of_lt_of_le f1799.lt z1829)
        have ne1845 : b1791 ≠ b1826 := Nat.ne_of_lt (Nat.lt_of_lt_of_le f1800.lt z1829)
        have ne1846 : b24 ≠ b1827 := Nat.ne_of_lt (Nat.lt_of_lt_of_le f1817.lt z1831)
        have ne1847 : b196 ≠ b1827 := Nat.ne_of_lt (Nat.lt_of_lt_of_le f1820.lt z1831)
        have ne1848 : b213 ≠ b1827 := Nat.ne_of_lt (Nat.lt_of_lt_of_le f1840.lt z1831)
        have ne1849 : b214 ≠ b1827 := Nat.ne_of_lt (Nat.lt_of_lt_of_le f1842.lt z1831)
        have ne1850 : b1790 ≠ b1827 := Nat.ne_of_lt (Nat.lt_of_lt_of_le f1799.lt z1831)
        have ne1851 : b1791 ≠ b1827 := Nat.ne_of_lt (Nat.lt_of_lt_of_le f1800.lt z1831)
        have A1852 := A1821.iload (v := (7 : Int32)) (pc' := 246) at_244 rfl rfl
        have A1853 := A1852.iconst (z := (3 : Int32)) (pc' := 247) at_246 rfl rfl
        have A1855 := A1853.icmpNo (pc' := 250) at_247 (tlt (igt (x := (7 : Int32)) (y := (3 : Int32)) rfl rfl (by decide : (3 : Int) < 7))).2.2.2 rfl
        have A1856 := A1855.aload (v := (.ref b196)) (pc' := 252) at_250 rfl rfl rfl
        have A1857 := A1856.aload (v := (.ref b24)) (pc' := 254) at_252 rfl rfl rfl
        have A1858 := A1857.iconst (z := (3 : Int32)) (pc' := 255) at_254 rfl rfl
        have f1859 := (f1817.keep K1825 (ninS ne203 nin0))
        have A1860 := A1858.iaload (i := 3) (v := (.int d3)) (pc' := 256) at_255 f1859 rfl (by decide) rfl rfl
        have A1861 := A1860.iconst (z := (1 : Int32)) (pc' := 257) at_256 rfl rfl
        have f1862 := (f1820.keep K1825)
        obtain ⟨h1866, ⟨K1867, f1868, f1869, f1870, f1871, f1872, q1865⟩, A1863⟩ := W.kV (A1861.callV (a := b196) (argsL := [(.int d3), (.int (1 : Int32))]) (rest := []) (C' := 8) (S' := 25) (pc' := 260) at_257 f1862 (hw _ (List.mem_of_getElem? (i := 16) rfl)) (hw _ (List.mem_of_getElem? (i := 17) rfl)) (fun hZ => notFace_of_selects (args := #[]) (mvT hZ (hw _ (List.mem_of_getElem? (i := 19) rfl)))) (hw _ (List.mem_of_getElem? (i := 19) rfl)) (hw _ (List.mem_of_getElem? (i := 18) rfl)) (hw _ (List.mem_of_getElem? (i := 5) rfl)) (hw _ (List.mem_of_getElem? (i := 20) rfl)) (rm3_3 l Z a0 hw n0 [] (b196) (d3) ((1 : Int32)) (b1826) (b1827) ((upd (cpy (upd (cpy (upd (fun _ => (.int (0 : Int32))) 0 (.int d0)) 0 (fun _ => (.int (0 : Int32))) 0 1) 1 (.int d1)) 0 (fun _ => (.int (0 : Int32))) 0 2) 2 (.int d2))) ((upd (cpy (upd (cpy (upd (fun _ => (.int (0 : Int32))) 0 (.int (1 : Int32))) 0 (fun _ => (.int (0 : Int32))) 0 1) 1 (.int (1 : Int32))) 0 (fun _ => (.int (0 : Int32))) 0 2) 2 (.int (1 : Int32)))) h1824 A1861.size f1862 g198 f1832 f1833 f1834 f1835 f1836 g1828 g1830 f1837 ne1839 ne1847) rfl rfl pd_5 rfl rfl (by decide) (by decide) (Nat.le_of_ble_eq_true rfl) (by decide) (by decide) rfl rfl rfl)
        have A1873 := A1863.iload (v := (7 : Int32)) (pc' := 262) at_260 rfl rfl
        have A1874 := A1873.iconst (z := (4 : Int32)) (pc' := 263) at_262 rfl rfl
        have A1876 := A1874.icmpNo (pc' := 266) at_263 (tlt (igt (x := (7 : Int32)) (y := (4 : Int32)) rfl rfl (by decide : (4 : Int) < 7))).2.2.2 rfl
        have A1877 := A1876.aload (v := (.ref b196)) (pc' := 268) at_266 rfl rfl rfl
        have A1878 := A1877.aload (v := (.ref b24)) (pc' := 270) at_268 rfl rfl rfl
        have A1879 := A1878.iconst (z := (4 : Int32)) (pc' := 271) at_270 rfl rfl
        have f1880 := (f1859.keep K1867 (ninS ne203 (ninS ne1838 (ninS ne1846 nin0))))
        have A1881 := A1879.iaload (i := 4) (v := (.int d4)) (pc' := 272) at_271 f1880 rfl (by decide) rfl rfl
        have A1882 := A1881.iconst (z := (1 : Int32)) (pc' := 273) at_272 rfl rfl
        have f1883 := (f1862.keep K1867)
        obtain ⟨h1887, ⟨b1889, b1890, K1888, g1891, z1892, g1893, z1894, f1895, f1896, f1897, f1898, f1899, f1900, q1886⟩, A1884⟩ := W.kV (A1882.callV (a := b196) (argsL := [(.int d4), (.int (1 : Int32))]) (rest := []) (C' := 10) (S' := 39) (pc' := 276) at_273 f1883 (hw _ (List.mem_of_getElem? (i := 16) rfl)) (hw _ (List.mem_of_getElem? (i := 17) rfl)) (fun hZ => notFace_of_selects (args := #[]) (mvT hZ (hw _ (List.mem_of_getElem? (i := 19) rfl)))) (hw _ (List.mem_of_getElem? (i := 19) rfl)) (hw _ (List.mem_of_getElem? (i := 18) rfl)) (hw _ (List.mem_of_getElem? (i := 5) rfl)) (hw _ (List.mem_of_getElem? (i := 20) rfl)) (rm3_4 l Z a0 hw n0 [] (b196) (d4) ((1 : Int32)) (b1826) (b1827) ((upd (upd (cpy (upd (cpy (upd (fun _ => (.int (0 : Int32))) 0 (.int d0)) 0 (fun _ => (.int (0 : Int32))) 0 1) 1 (.int d1)) 0 (fun _ => (.int (0 : Int32))) 0 2) 2 (.int d2)) 3 (.int d3))) ((upd (upd (cpy (upd (cpy (upd (fun _ => (.int (0 : Int32))) 0 (.int (1 : Int32))) 0 (fun _ => (.int (0 : Int32))) 0 1) 1 (.int (1 : Int32))) 0 (fun _ => (.int (0 : Int32))) 0 2) 2 (.int (1 : Int32))) 3 (.int (1 : Int32)))) h1866 A1882.size f1883 g198 f1868 f1869 f1870 f1871 f1872 g1828 g1830 f1837 ne1839 ne1847) rfl rfl pd_5 rfl rfl (by decide) (by decide) (Nat.le_of_ble_eq_true rfl) (by decide) (by decide) rfl rfl rfl)
        have ne1901 : b24 ≠ b1889 := Nat.ne_of_lt (Nat.lt_of_lt_of_le f1880.lt z1892)
        have ne1902 : b196 ≠ b1889 := Nat.ne_of_lt (Nat.lt_of_lt_of_le f1883.lt z1892)
        have f1903 := ((f1840.keep K1825 (ninS (Ne.symm ne227) nin0)).keep K1867 (ninS (Ne.symm ne227) (ninS ne1841 (ninS ne1848 nin0))))
        have ne1904 : b213 ≠ b1889 := Nat.ne_of_lt (Nat.lt_of_lt_of_le f1903.lt z1892)
        have f1905 := ((f1842.keep K1825 (ninS (Ne.symm ne229) nin0)).keep K1867 (ninS (Ne.symm ne229) (ninS ne1843 (ninS ne1849 nin0))))
        have ne1906 : b214 ≠ b1889 := Nat.ne_of_lt (Nat.lt_of_lt_of_le f1905.lt z1892)
        have f1907 := ((f1799.keep K1825 (ninS (Ne.symm ne1803) nin0)).keep K1867 (ninS (Ne.symm ne1803) (ninS ne1844 (ninS ne1850 nin0))))
        have ne1908 : b1790 ≠ b1889 := Nat.ne_of_lt (Nat.lt_of_lt_of_le f1907.lt z1892)
        have f1909 := ((f1800.keep K1825 (ninS (Ne.symm ne1807) nin0)).keep K1867 (ninS (Ne.symm ne1807) (ninS ne1845 (ninS ne1851 nin0))))
        have ne1910 : b1791 ≠ b1889 := Nat.ne_of_lt (Nat.lt_of_lt_of_le f1909.lt z1892)
        have ne1911 : b1826 ≠ b1889 := Nat.ne_of_lt (Nat.lt_of_lt_of_le f1871.lt z1892)
        have ne1912 : b1827 ≠ b1889 := Nat.ne_of_lt (Nat.lt_of_lt_of_le f1872.lt z1892)
        have ne1913 : b24 ≠ b1890 := Nat.ne_of_lt (Nat.lt_of_lt_of_le f1880.lt z1894)
        have ne1914 : b196 ≠ b1890 := Nat.ne_of_lt (Nat.lt_of_lt_of_le f1883.lt z1894)
        have ne1915 : b213 ≠ b1890 := Nat.ne_of_lt (Nat.lt_of_lt_of_le f1903.lt z1894)
        have ne1916 : b214 ≠ b1890 := Nat.ne_of_lt (Nat.lt_of_lt_of_le f1905.lt z1894)
        have ne1917 : b1790 ≠ b1890 := Nat.ne_of_lt (Nat.lt_of_lt_of_le f1907.lt z1894)
        have ne1918 : b1791 ≠ b1890 := Nat.ne_of_lt (Nat.lt_of_lt_of_le f1909.lt z1894)
        have ne1919 : b1826 ≠ b1890 := Nat.ne_of_lt (Nat.lt_of_lt_of_le f1871.lt z1894)
        have ne1920 : b1827 ≠ b1890 := Nat.ne_of_lt (Nat.lt_of_lt_of_le f1872.lt z1894)
        have A1921 := A1884.iload (v := (7 : Int32)) (pc' := 278) at_276 rfl rfl
        have A1922 := A1921.iconst (z := (5 : Int32)) (pc' := 279) at_278 rfl rfl
        have A1924 := A1922.icmpNo (pc' := 282) at_279 (tlt (igt (x := (7 : Int32)) (y := (5 : Int32)) rfl rfl (by decide : (5 : Int) < 7))).2.2.2 rfl
        have A1925 := A1924.aload (v := (.ref b196)) (pc' := 284) at_282 rfl rfl rfl
        have A1926 := A1925.aload (v := (.ref b24)) (pc' := 286) at_284 rfl rfl rfl
        have A1927 := A1926.iconst (z := (5 : Int32)) (pc' := 287) at_286 rfl rfl
        have f1928 := (f1880.keep K1888 (ninS ne203 nin0))
        have A1929 := A1927.iaload (i := 5) (v := (.int d5)) (pc' := 288) at_287 f1928 rfl (by decide) rfl rfl
        have A1930 := A1929.iconst (z := (1 : Int32)) (pc' := 289) at_288 rfl rfl
        have f1931 := (f1883.keep K1888)
        obtain ⟨h1935, ⟨K1936, f1937, f1938, f1939, f1940, f1941, q1934⟩, A1932⟩ := W.kV (A1930.callV (a := b196) (argsL := [(.int d5), (.int (1 : Int32))]) (rest := []) (C' := 10) (S' := 39) (pc' := 292) at_289 f1931 (hw _ (List.mem_of_getElem? (i := 16) rfl)) (hw _ (List.mem_of_getElem? (i := 17) rfl)) (fun hZ => notFace_of_selects (args := #[]) (mvT hZ (hw _ (List.mem_of_getElem? (i := 19) rfl)))) (hw _ (List.mem_of_getElem? (i := 19) rfl)) (hw _ (List.mem_of_getElem? (i := 18) rfl)) (hw _ (List.mem_of_getElem? (i := 5) rfl)) (hw _ (List.mem_of_getElem? (i := 20) rfl)) (rm3_5 l Z a0 hw n0 [] (b196) (d5) ((1 : Int32)) (b1889) (b1890) ((upd (cpy (upd (upd (cpy (upd (cpy (upd (fun _ => (.int (0 : Int32))) 0 (.int d0)) 0 (fun _ => (.int (0 : Int32))) 0 1) 1 (.int d1)) 0 (fun _ => (.int (0 : Int32))) 0 2) 2 (.int d2)) 3 (.int d3)) 0 (fun _ => (.int (0 : Int32))) 0 4) 4 (.int d4))) ((upd (cpy (upd (upd (cpy (upd (cpy (upd (fun _ => (.int (0 : Int32))) 0 (.int (1 : Int32))) 0 (fun _ => (.int (0 : Int32))) 0 1) 1 (.int (1 : Int32))) 0 (fun _ => (.int (0 : Int32))) 0 2) 2 (.int (1 : Int32))) 3 (.int (1 : Int32))) 0 (fun _ => (.int (0 : Int32))) 0 4) 4 (.int (1 : Int32)))) h1887 A1930.size f1931 g198 f1895 f1896 f1897 f1898 f1899 g1891 g1893 f1900 ne1902 ne1914) rfl rfl pd_5 rfl rfl (by decide) (by decide) (Nat.le_of_ble_eq_true rfl) (by decide) (by decide) rfl rfl rfl)
        have A1942 := A1932.iload (v := (7 : Int32)) (pc' := 294) at_292 rfl rfl
        have A1943 := A1942.bipush (z := (6 : Int32)) (pc' := 296) at_294 rfl rfl
        have A1945 := A1943.icmpNo (pc' := 299) at_296 (tlt (igt (x := (7 : Int32)) (y := (6 : Int32)) rfl rfl (by decide : (6 : Int) < 7))).2.2.2 rfl
        have A1946 := A1945.aload (v := (.ref b196)) (pc' := 301) at_299 rfl rfl rfl
        have A1947 := A1946.aload (v := (.ref b24)) (pc' := 303) at_301 rfl rfl rfl
        have A1948 := A1947.bipush (z := (6 : Int32)) (pc' := 305) at_303 rfl rfl
        have f1949 := (f1928.keep K1936 (ninS ne203 (ninS ne1901 (ninS ne1913 nin0))))
        have A1950 := A1948.iaload (i := 6) (v := (.int d6)) (pc' := 306) at_305 f1949 rfl (by decide) rfl rfl
        have A1951 := A1950.iconst (z := (1 : Int32)) (pc' := 307) at_306 rfl rfl
        have f1952 := (f1931.keep K1936)
        obtain ⟨h1956, ⟨K1957, f1958, f1959, f1960, f1961, f1962, q1955⟩, A1953⟩ := W.kV (A1951.callV (a := b196) (argsL := [(.int d6), (.int (1 : Int32))]) (rest := []) (C' := 10) (S' := 39) (pc' := 310) at_307 f1952 (hw _ (List.mem_of_getElem? (i := 16) rfl)) (hw _ (List.mem_of_getElem? (i := 17) rfl)) (fun hZ => notFace_of_selects (args := #[]) (mvT hZ (hw _ (List.mem_of_getElem? (i := 19) rfl)))) (hw _ (List.mem_of_getElem? (i := 19) rfl)) (hw _ (List.mem_of_getElem? (i := 18) rfl)) (hw _ (List.mem_of_getElem? (i := 5) rfl)) (hw _ (List.mem_of_getElem? (i := 20) rfl)) (rm3_6 l Z a0 hw n0 [] (b196) (d6) ((1 : Int32)) (b1889) (b1890) ((upd (upd (cpy (upd (upd (cpy (upd (cpy (upd (fun _ => (.int (0 : Int32))) 0 (.int d0)) 0 (fun _ => (.int (0 : Int32))) 0 1) 1 (.int d1)) 0 (fun _ => (.int (0 : Int32))) 0 2) 2 (.int d2)) 3 (.int d3)) 0 (fun _ => (.int (0 : Int32))) 0 4) 4 (.int d4)) 5 (.int d5))) ((upd (upd (cpy (upd (upd (cpy (upd (cpy (upd (fun _ => (.int (0 : Int32))) 0 (.int (1 : Int32))) 0 (fun _ => (.int (0 : Int32))) 0 1) 1 (.int (1 : Int32))) 0 (fun _ => (.int (0 : Int32))) 0 2) 2 (.int (1 : Int32))) 3 (.int (1 : Int32))) 0 (fun _ => (.int (0 : Int32))) 0 4) 4 (.int (1 : Int32))) 5 (.int (1 : Int32)))) h1935 A1951.size f1952 g198 f1937 f1938 f1939 f1940 f1941 g1891 g1893 f1900 ne1902 ne1914) rfl rfl pd_5 rfl rfl (by decide) (by decide) (Nat.le_of_ble_eq_true rfl) (by decide) (by decide) rfl rfl rfl)
        have A1963 := A1953.iload (v := (7 : Int32)) (pc' := 312) at_310 rfl rfl
        have A1964 := A1963.istore (Ls' := #[.val (.int xx), .val (.int xy), .val (.int xc), .val (.int xq), .val (.int xz), .val (.int (7 : Int32)), .val (.int v19), .val (.ref b24), .val (.int doc), .val (.int ii), .val (.ref b196), .val (.int (7 : Int32)), .unset]) (pc' := 314) at_312 rfl rfl
        have A1965 := A1964.iload (v := (7 : Int32)) (pc' := 316) at_314 rfl rfl
        have A1966 := A1965.bipush (z := (7 : Int32)) (pc' := 318) at_316 rfl rfl
        have A1967 := A1966.iload (v := ii) (pc' := 320) at_318 rfl rfl
        have A1968 := A1967.iload (v := (7 : Int32)) (pc' := 322) at_320 rfl rfl
        have A1969 := A1968.aload (v := (.ref b24)) (pc' := 324) at_322 rfl rfl rfl
        have A1970 := A1969.iload (v := doc) (pc' := 326) at_324 rfl rfl
        have f1971 := (f1949.keep K1957 (ninS ne203 (ninS ne1901 (ninS ne1913 nin0))))
        obtain ⟨r1973, _, ⟨rfl, q1974⟩, A1972⟩ := W.kI (A1970.callS (argsL := [(.int (7 : Int32)), (.int (7 : Int32)), (.int ii), (.int (7 : Int32)), (.ref b24), (.int doc)]) (rest := []) (C' := 10) (S' := 39) (pc' := 329) at_326 (hw _ (List.mem_of_getElem? (i := 35) rfl)) (hw _ (List.mem_of_getElem? (i := 36) rfl)) (hw _ (List.mem_of_getElem? (i := 37) rfl)) (hw _ (List.mem_of_getElem? (i := 38) rfl)) (rm6 l Z a0 hw n0 [] ((7 : Int32)) ((7 : Int32)) (ii) ((7 : Int32)) (b24) (doc) ((upd (upd (upd (upd (upd (upd (upd (upd (fun _ => (.int (0 : Int32))) 0 (.int d0)) 1 (.int d1)) 2 (.int d2)) 3 (.int d3)) 4 (.int d4)) 5 (.int d5)) 6 (.int d6)) 7 (.int d7))) (d7) h1956 A1970.size f1971 (by first | (constructor <;> decide) | rfl) (by first | (constructor <;> decide) | rfl)) rfl rfl pd_4 rfl rfl (by decide) (by decide) (Nat.le_of_ble_eq_true rfl) (by decide) (by decide) rfl rfl rfl)
        have pk8 : own_from g ii.toInt 7 doc.toInt 8 ((7 : Int32)).toInt := own_from0 g ii.toInt 7 doc.toInt (by decide)
        have pk7 : own_from g ii.toInt 7 doc.toInt 7 r1973.toInt := own_step g ii.toInt 7 doc.toInt 7 r1973.toInt ((7 : Int32)).toInt d7.toInt (by decide) (by rw [e_g]; rfl) pk8 q1974
        have A1976 := A1972.istore (Ls' := #[.val (.int xx), .val (.int xy), .val (.int xc), .val (.int xq), .val (.int xz), .val (.int (7 : Int32)), .val (.int v19), .val (.ref b24), .val (.int doc), .val (.int ii), .val (.ref b196), .val (.int r1973), .unset]) (pc' := 331) at_329 rfl rfl
        have A1977 := A1976.iload (v := r1973) (pc' := 333) at_331 rfl rfl
        have A1978 := A1977.bipush (z := (6 : Int32)) (pc' := 335) at_333 rfl rfl
        have A1979 := A1978.iload (v := ii) (pc' := 337) at_335 rfl rfl
        have A1980 := A1979.iload (v := (7 : Int32)) (pc' := 339) at_337 rfl rfl
        have A1981 := A1980.aload (v := (.ref b24)) (pc' := 341) at_339 rfl rfl rfl
        have A1982 := A1981.iload (v := doc) (pc' := 343) at_341 rfl rfl
        obtain ⟨r1984, _, ⟨rfl, q1985⟩, A1983⟩ := W.kI (A1982.callS (argsL := [(.int r1973), (.int (6 : Int32)), (.int ii), (.int (7 : Int32)), (.ref b24), (.int doc)]) (rest := []) (C' := 10) (S' := 39) (pc' := 346) at_343 (hw _ (List.mem_of_getElem? (i := 35) rfl)) (hw _ (List.mem_of_getElem? (i := 36) rfl)) (hw _ (List.mem_of_getElem? (i := 37) rfl)) (hw _ (List.mem_of_getElem? (i := 38) rfl)) (rm6 l Z a0 hw n0 [] (r1973) ((6 : Int32)) (ii) ((7 : Int32)) (b24) (doc) ((upd (upd (upd (upd (upd (upd (upd (upd (fun _ => (.int (0 : Int32))) 0 (.int d0)) 1 (.int d1)) 2 (.int d2)) 3 (.int d3)) 4 (.int d4)) 5 (.int d5)) 6 (.int d6)) 7 (.int d7))) (d6) h1956 A1982.size f1971 (by first | (constructor <;> decide) | rfl) (by first | (constructor <;> decide) | rfl)) rfl rfl pd_4 rfl rfl (by decide) (by decide) (Nat.le_of_ble_eq_true rfl) (by decide) (by decide) rfl rfl rfl)
        have pk6 : own_from g ii.toInt 7 doc.toInt 6 r1984.toInt := own_step g ii.toInt 7 doc.toInt 6 r1984.toInt (r1973).toInt d6.toInt (by decide) (by rw [e_g]; rfl) pk7 q1985
        have A1987 := A1983.istore (Ls' := #[.val (.int xx), .val (.int xy), .val (.int xc), .val (.int xq), .val (.int xz), .val (.int (7 : Int32)), .val (.int v19), .val (.ref b24), .val (.int doc), .val (.int ii), .val (.ref b196), .val (.int r1984), .unset]) (pc' := 348) at_346 rfl rfl
        have A1988 := A1987.iload (v := r1984) (pc' := 350) at_348 rfl rfl
        have A1989 := A1988.iconst (z := (5 : Int32)) (pc' := 351) at_350 rfl rfl
        have A1990 := A1989.iload (v := ii) (pc' := 353) at_351 rfl rfl
        have A1991 := A1990.iload (v := (7 : Int32)) (pc' := 355) at_353 rfl rfl
        have A1992 := A1991.aload (v := (.ref b24)) (pc' := 357) at_355 rfl rfl rfl
        have A1993 := A1992.iload (v := doc) (pc' := 359) at_357 rfl rfl
        obtain ⟨r1995, _, ⟨rfl, q1996⟩, A1994⟩ := W.kI (A1993.callS (argsL := [(.int r1984), (.int (5 : Int32)), (.int ii), (.int (7 : Int32)), (.ref b24), (.int doc)]) (rest := []) (C' := 10) (S' := 39) (pc' := 362) at_359 (hw _ (List.mem_of_getElem? (i := 35) rfl)) (hw _ (List.mem_of_getElem? (i := 36) rfl)) (hw _ (List.mem_of_getElem? (i := 37) rfl)) (hw _ (List.mem_of_getElem? (i := 38) rfl)) (rm6 l Z a0 hw n0 [] (r1984) ((5 : Int32)) (ii) ((7 : Int32)) (b24) (doc) ((upd (upd (upd (upd (upd (upd (upd (upd (fun _ => (.int (0 : Int32))) 0 (.int d0)) 1 (.int d1)) 2 (.int d2)) 3 (.int d3)) 4 (.int d4)) 5 (.int d5)) 6 (.int d6)) 7 (.int d7))) (d5) h1956 A1993.size f1971 (by first | (constructor <;> decide) | rfl) (by first | (constructor <;> decide) | rfl)) rfl rfl pd_4 rfl rfl (by decide) (by decide) (Nat.le_of_ble_eq_true rfl) (by decide) (by decide) rfl rfl rfl)
        have pk5 : own_from g ii.toInt 7 doc.toInt 5 r1995.toInt := own_step g ii.toInt 7 doc.toInt 5 r1995.toInt (r1984).toInt d5.toInt (by decide) (by rw [e_g]; rfl) pk6 q1996
        have A1998 := A1994.istore (Ls' := #[.val (.int xx), .val (.int xy), .val (.int xc), .val (.int xq), .val (.int xz), .val (.int (7 : Int32)), .val (.int v19), .val (.ref b24), .val (.int doc), .val (.int ii), .val (.ref b196), .val (.int r1995), .unset]) (pc' := 364) at_362 rfl rfl
        have A1999 := A1998.iload (v := r1995) (pc' := 366) at_364 rfl rfl
        have A2000 := A1999.iconst (z := (4 : Int32)) (pc' := 367) at_366 rfl rfl
        have A2001 := A2000.iload (v := ii) (pc' := 369) at_367 rfl rfl
        have A2002 := A2001.iload (v := (7 : Int32)) (pc' := 371) at_369 rfl rfl
        have A2003 := A2002.aload (v := (.ref b24)) (pc' := 373) at_371 rfl rfl rfl
        have A2004 := A2003.iload (v := doc) (pc' := 375) at_373 rfl rfl
        obtain ⟨r2006, _, ⟨rfl, q2007⟩, A2005⟩ := W.kI (A2004.callS (argsL := [(.int r1995), (.int (4 : Int32)), (.int ii), (.int (7 : Int32)), (.ref b24), (.int doc)]) (rest := []) (C' := 10) (S' := 39) (pc' := 378) at_375 (hw _ (List.mem_of_getElem? (i := 35) rfl)) (hw _ (List.mem_of_getElem? (i := 36) rfl)) (hw _ (List.mem_of_getElem? (i := 37) rfl)) (hw _ (List.mem_of_getElem? (i := 38) rfl)) (rm6 l Z a0 hw n0 [] (r1995) ((4 : Int32)) (ii) ((7 : Int32)) (b24) (doc) ((upd (upd (upd (upd (upd (upd (upd (upd (fun _ => (.int (0 : Int32))) 0 (.int d0)) 1 (.int d1)) 2 (.int d2)) 3 (.int d3)) 4 (.int d4)) 5 (.int d5)) 6 (.int d6)) 7 (.int d7))) (d4) h1956 A2004.size f1971 (by first | (constructor <;> decide) | rfl) (by first | (constructor <;> decide) | rfl)) rfl rfl pd_4 rfl rfl (by decide) (by decide) (Nat.le_of_ble_eq_true rfl) (by decide) (by decide) rfl rfl rfl)
        have pk4 : own_from g ii.toInt 7 doc.toInt 4 r2006.toInt := own_step g ii.toInt 7 doc.toInt 4 r2006.toInt (r1995).toInt d4.toInt (by decide) (by rw [e_g]; rfl) pk5 q2007
        have A2009 := A2005.istore (Ls' := #[.val (.int xx), .val (.int xy), .val (.int xc), .val (.int xq), .val (.int xz), .val (.int (7 : Int32)), .val (.int v19), .val (.ref b24), .val (.int doc), .val (.int ii), .val (.ref b196), .val (.int r2006), .unset]) (pc' := 380) at_378 rfl rfl
        have A2010 := A2009.iload (v := r2006) (pc' := 382) at_380 rfl rfl
        have A2011 := A2010.iconst (z := (3 : Int32)) (pc' := 383) at_382 rfl rfl
        have A2012 := A2011.iload (v := ii) (pc' := 385) at_383 rfl rfl
        have A2013 := A2012.iload (v := (7 : Int32)) (pc' := 387) at_385 rfl rfl
        have A2014 := A2013.aload (v := (.ref b24)) (pc' := 389) at_387 rfl rfl rfl
        have A2015 := A2014.iload (v := doc) (pc' := 391) at_389 rfl rfl
        obtain ⟨r2017, _, ⟨rfl, q2018⟩, A2016⟩ := W.kI (A2015.callS (argsL := [(.int r2006), (.int (3 : Int32)), (.int ii), (.int (7 : Int32)), (.ref b24), (.int doc)]) (rest := []) (C' := 10) (S' := 39) (pc' := 394) at_391 (hw _ (List.mem_of_getElem? (i := 35) rfl)) (hw _ (List.mem_of_getElem? (i := 36) rfl)) (hw _ (List.mem_of_getElem? (i := 37) rfl)) (hw _ (List.mem_of_getElem? (i := 38) rfl)) (rm6 l Z a0 hw n0 [] (r2006) ((3 : Int32)) (ii) ((7 : Int32)) (b24) (doc) ((upd (upd (upd (upd (upd (upd (upd (upd (fun _ => (.int (0 : Int32))) 0 (.int d0)) 1 (.int d1)) 2 (.int d2)) 3 (.int d3)) 4 (.int d4)) 5 (.int d5)) 6 (.int d6)) 7 (.int d7))) (d3) h1956 A2015.size f1971 (by first | (constructor <;> decide) | rfl) (by first | (constructor <;> decide) | rfl)) rfl rfl pd_4 rfl rfl (by decide) (by decide) (Nat.le_of_ble_eq_true rfl) (by decide) (by decide) rfl rfl rfl)
        have pk3 : own_from g ii.toInt 7 doc.toInt 3 r2017.toInt := own_step g ii.toInt 7 doc.toInt 3 r2017.toInt (r2006).toInt d3.toInt (by decide) (by rw [e_g]; rfl) pk4 q2018
        have A2020 := A2016.istore (Ls' := #[.val (.int xx), .val (.int xy), .val (.int xc), .val (.int xq), .val (.int xz), .val (.int (7 : Int32)), .val (.int v19), .val (.ref b24), .val (.int doc), .val (.int ii), .val (.ref b196), .val (.int r2017), .unset]) (pc' := 396) at_394 rfl rfl
        have A2021 := A2020.iload (v := r2017) (pc' := 398) at_396 rfl rfl
        have A2022 := A2021.iconst (z := (2 : Int32)) (pc' := 399) at_398 rfl rfl
        have A2023 := A2022.iload (v := ii) (pc' := 401) at_399 rfl rfl
        have A2024 := A2023.iload (v := (7 : Int32)) (pc' := 403) at_401 rfl rfl
        have A2025 := A2024.aload (v := (.ref b24)) (pc' := 405) at_403 rfl rfl rfl
        have A2026 := A2025.iload (v := doc) (pc' := 407) at_405 rfl rfl
        obtain ⟨r2028, _, ⟨rfl, q2029⟩, A2027⟩ := W.kI (A2026.callS (argsL := [(.int r2017), (.int (2 : Int32)), (.int ii), (.int (7 : Int32)), (.ref b24), (.int doc)]) (rest := []) (C' := 10) (S' := 39) (pc' := 410) at_407 (hw _ (List.mem_of_getElem? (i := 35) rfl)) (hw _ (List.mem_of_getElem? (i := 36) rfl)) (hw _ (List.mem_of_getElem? (i := 37) rfl)) (hw _ (List.mem_of_getElem? (i := 38) rfl)) (rm6 l Z a0 hw n0 [] (r2017) ((2 : Int32)) (ii) ((7 : Int32)) (b24) (doc) ((upd (upd (upd (upd (upd (upd (upd (upd (fun _ => (.int (0 : Int32))) 0 (.int d0)) 1 (.int d1)) 2 (.int d2)) 3 (.int d3)) 4 (.int d4)) 5 (.int d5)) 6 (.int d6)) 7 (.int d7))) (d2) h1956 A2026.size f1971 (by first | (constructor <;> decide) | rfl) (by first | (constructor <;> decide) | rfl)) rfl rfl pd_4 rfl rfl (by decide) (by decide) (Nat.le_of_ble_eq_true rfl) (by decide) (by decide) rfl rfl rfl)
        have pk2 : own_from g ii.toInt 7 doc.toInt 2 r2028.toInt := own_step g ii.toInt 7 doc.toInt 2 r2028.toInt (r2017).toInt d2.toInt (by decide) (by rw [e_g]; rfl) pk3 q2029
        have A2031 := A2027.istore (Ls' := #[.val (.int xx), .val (.int xy), .val (.int xc), .val (.int xq), .val (.int xz), .val (.int (7 : Int32)), .val (.int v19), .val (.ref b24), .val (.int doc), .val (.int ii), .val (.ref b196), .val (.int r2028), .unset]) (pc' := 412) at_410 rfl rfl
        have A2032 := A2031.iload (v := r2028) (pc' := 414) at_412 rfl rfl
        have A2033 := A2032.iconst (z := (1 : Int32)) (pc' := 415) at_414 rfl rfl
        have A2034 := A2033.iload (v := ii) (pc' := 417) at_415 rfl rfl
        have A2035 := A2034.iload (v := (7 : Int32)) (pc' := 419) at_417 rfl rfl
        have A2036 := A2035.aload (v := (.ref b24)) (pc' := 421) at_419 rfl rfl rfl
        have A2037 := A2036.iload (v := doc) (pc' := 423) at_421 rfl rfl
        obtain ⟨r2039, _, ⟨rfl, q2040⟩, A2038⟩ := W.kI (A2037.callS (argsL := [(.int r2028), (.int (1 : Int32)), (.int ii), (.int (7 : Int32)), (.ref b24), (.int doc)]) (rest := []) (C' := 10) (S' := 39) (pc' := 426) at_423 (hw _ (List.mem_of_getElem? (i := 35) rfl)) (hw _ (List.mem_of_getElem? (i := 36) rfl)) (hw _ (List.mem_of_getElem? (i := 37) rfl)) (hw _ (List.mem_of_getElem? (i := 38) rfl)) (rm6 l Z a0 hw n0 [] (r2028) ((1 : Int32)) (ii) ((7 : Int32)) (b24) (doc) ((upd (upd (upd (upd (upd (upd (upd (upd (fun _ => (.int (0 : Int32))) 0 (.int d0)) 1 (.int d1)) 2 (.int d2)) 3 (.int d3)) 4 (.int d4)) 5 (.int d5)) 6 (.int d6)) 7 (.int d7))) (d1) h1956 A2037.size f1971 (by first | (constructor <;> decide) | rfl) (by first | (constructor <;> decide) | rfl)) rfl rfl pd_4 rfl rfl (by decide) (by decide) (Nat.le_of_ble_eq_true rfl) (by decide) (by decide) rfl rfl rfl)
        have pk1 : own_from g ii.toInt 7 doc.toInt 1 r2039.toInt := own_step g ii.toInt 7 doc.toInt 1 r2039.toInt (r2028).toInt d1.toInt (by decide) (by rw [e_g]; rfl) pk2 q2040
        have A2042 := A2038.istore (Ls' := #[.val (.int xx), .val (.int xy), .val (.int xc), .val (.int xq), .val (.int xz), .val (.int (7 : Int32)), .val (.int v19), .val (.ref b24), .val (.int doc), .val (.int ii), .val (.ref b196), .val (.int r2039), .unset]) (pc' := 428) at_426 rfl rfl
        have A2043 := A2042.iload (v := r2039) (pc' := 430) at_428 rfl rfl
        have A2044 := A2043.iconst (z := (0 : Int32)) (pc' := 431) at_430 rfl rfl
        have A2045 := A2044.iload (v := ii) (pc' := 433) at_431 rfl rfl
        have A2046 := A2045.iload (v := (7 : Int32)) (pc' := 435) at_433 rfl rfl
        have A2047 := A2046.aload (v := (.ref b24)) (pc' := 437) at_435 rfl rfl rfl
        have A2048 := A2047.iload (v := doc) (pc' := 439) at_437 rfl rfl
        obtain ⟨r2050, _, ⟨rfl, q2051⟩, A2049⟩ := W.kI (A2048.callS (argsL := [(.int r2039), (.int (0 : Int32)), (.int ii), (.int (7 : Int32)), (.ref b24), (.int doc)]) (rest := []) (C' := 10) (S' := 39) (pc' := 442) at_439 (hw _ (List.mem_of_getElem? (i := 35) rfl)) (hw _ (List.mem_of_getElem? (i := 36) rfl)) (hw _ (List.mem_of_getElem? (i := 37) rfl)) (hw _ (List.mem_of_getElem? (i := 38) rfl)) (rm6 l Z a0 hw n0 [] (r2039) ((0 : Int32)) (ii) ((7 : Int32)) (b24) (doc) ((upd (upd (upd (upd (upd (upd (upd (upd (fun _ => (.int (0 : Int32))) 0 (.int d0)) 1 (.int d1)) 2 (.int d2)) 3 (.int d3)) 4 (.int d4)) 5 (.int d5)) 6 (.int d6)) 7 (.int d7))) (d0) h1956 A2048.size f1971 (by first | (constructor <;> decide) | rfl) (by first | (constructor <;> decide) | rfl)) rfl rfl pd_4 rfl rfl (by decide) (by decide) (Nat.le_of_ble_eq_true rfl) (by decide) (by decide) rfl rfl rfl)
        have pk0 : own_from g ii.toInt 7 doc.toInt 0 r2050.toInt := own_step g ii.toInt 7 doc.toInt 0 r2050.toInt (r2039).toInt d0.toInt (by decide) (by rw [e_g]; rfl) pk1 q2051
        have A2053 := A2049.istore (Ls' := #[.val (.int xx), .val (.int xy), .val (.int xc), .val (.int xq), .val (.int xz), .val (.int (7 : Int32)), .val (.int v19), .val (.ref b24), .val (.int doc), .val (.int ii), .val (.ref b196), .val (.int r2050), .unset]) (pc' := 444) at_442 rfl rfl
        have A2054 := A2053.aload (v := (.ref b196)) (pc' := 446) at_444 rfl rfl rfl
        have A2055 := A2054.iload (v := ii) (pc' := 448) at_446 rfl rfl
        have A2056 := A2055.iload (v := doc) (pc' := 450) at_448 rfl rfl
        have f2059 := (f1952.keep K1957)
        obtain ⟨r2058, _, ⟨rfl, q2060⟩, A2057⟩ := W.kI (A2056.callV (a := b196) (argsL := [(.int ii), (.int doc)]) (rest := []) (C' := 10) (S' := 39) (pc' := 453) at_450 f2059 (hw _ (List.mem_of_getElem? (i := 39) rfl)) (hw _ (List.mem_of_getElem? (i := 40) rfl)) (fun hZ => notFace_of_selects (args := #[]) (mvT hZ (hw _ (List.mem_of_getElem? (i := 42) rfl)))) (hw _ (List.mem_of_getElem? (i := 42) rfl)) (hw _ (List.mem_of_getElem? (i := 41) rfl)) (hw _ (List.mem_of_getElem? (i := 5) rfl)) (hw _ (List.mem_of_getElem? (i := 43) rfl)) (rm7 l Z a0 hw n0 [] (b196) (ii) (doc) (b1889) (7) ((7 : Int32)) ((upd (upd (upd (cpy (upd (upd (cpy (upd (cpy (upd (fun _ => (.int (0 : Int32))) 0 (.int d0)) 0 (fun _ => (.int (0 : Int32))) 0 1) 1 (.int d1)) 0 (fun _ => (.int (0 : Int32))) 0 2) 2 (.int d2)) 3 (.int d3)) 0 (fun _ => (.int (0 : Int32))) 0 4) 4 (.int d4)) 5 (.int d5)) 6 (.int d6))) (g) h1956 A2056.size f1958 f1960 f1961 (by exact ⟨ki.1, by rw [hnt] at ki; exact ki.2, by decide, by decide, fun j k h1 h2 => hinc j k h1 (Int.lt_of_lt_of_le h2 (by decide))⟩) (by intro j hj; have lz : (7 : Int32).toInt = 7 := rfl; have hj' : j = 0 ∨ j = 1 ∨ j = 2 ∨ j = 3 ∨ j = 4 ∨ j = 5 ∨ j = 6 := (by omega); rw [e_g]; rcases hj' with rfl | rfl | rfl | rfl | rfl | rfl | rfl <;> rfl)) rfl rfl pd_0 rfl rfl (by decide) (by decide) (Nat.le_of_ble_eq_true rfl) (by decide) (by decide) rfl rfl rfl)
        have A2062 := A2057.istore (Ls' := #[.val (.int xx), .val (.int xy), .val (.int xc), .val (.int xq), .val (.int xz), .val (.int (7 : Int32)), .val (.int v19), .val (.ref b24), .val (.int doc), .val (.int ii), .val (.ref b196), .val (.int r2050), .val (.int r2058)]) (pc' := 455) at_453 rfl rfl
        have A2063 := A2062.iload (v := r2058) (pc' := 457) at_455 rfl rfl
        have A2064 := A2063.iload (v := r2050) (pc' := 459) at_457 rfl rfl
        by_cases c2065 : r2058.toInt = r2050.toInt
        · have A2066 := A2064.icmpNo (pc' := 462) at_459 (teq (ieq (x := r2058) (y := r2050) rfl rfl c2065)).2 rfl
          have A2067 := A2066.iconst (z := (1 : Int32)) (pc' := 463) at_462 rfl rfl
          have A2068 := A2067.goto (pc' := 467) at_463 (by decide) (by decide)
          refine A2068.retN (t := .boolean) (z' := (1 : Int32)) at_467 (by decide) (by decide) (by simp) rfl ⟨_, rfl, ⟨trivial, ?_⟩⟩
          have elit : (1 : Int32).toInt = 1 := rfl
          rfl
        · have A2069 := A2064.icmpYes (pc' := 466) at_459 (feq (ine (x := r2058) (y := r2050) rfl rfl c2065)).2 (by decide) (by decide)
          have A2070 := A2069.iconst (z := (0 : Int32)) (pc' := 467) at_466 rfl rfl
          refine A2070.retN (t := .boolean) (z' := (0 : Int32)) at_467 (by decide) (by decide) (by simp) rfl ⟨_, rfl, ⟨trivial, ?_⟩⟩
          have elit : (0 : Int32).toInt = 0 := rfl
          exfalso
          exact c2065 (own_uniq g ii.toInt 7 doc.toInt _ _ (by rw [hnt] at ki; exact ki.2) ki.1 q2060 pk0)
    by_cases c166 : v19.toInt = 0
    · have A168 := A165.ifYes (pc' := 173) at_155 (teq (ieq (x := v19) (y := (0 : Int32)) rfl rfl c166)).1 (by decide) (by decide)
      have A169 := A168.iload (v := xz) (pc' := 175) at_173 rfl rfl
      exact join167 (xz)   (by trivial)  A169
    · have A170 := A165.ifNo (pc' := 158) at_155 (feq (ine (x := v19) (y := (0 : Int32)) rfl rfl c166)).1 rfl
      have A171 := A170.aload (v := (.ref b24)) (pc' := 160) at_158 rfl rfl rfl
      have A172 := A171.iconst (z := (0 : Int32)) (pc' := 161) at_160 rfl rfl
      have A173 := A172.iaload (i := 0) (v := (.int d0)) (pc' := 162) at_161 X163 rfl (by decide) rfl rfl
      have A174 := A173.iconst (z := (2 : Int32)) (pc' := 163) at_162 rfl rfl
      have A175 := A174.isub (pc' := 164) at_163 rfl
      have A176 := A175.iload (v := xz) (pc' := 166) at_164 rfl rfl
      have A177 := A176.bipush (z := (31 : Int32)) (pc' := 168) at_166 rfl rfl
      have A178 := A177.iand (pc' := 169) at_168 rfl
      have A179 := A178.iadd (pc' := 170) at_169 rfl
      have A180 := A179.goto (pc' := 175) at_170 (by decide) (by decide)
      exact join167 (((d0 - (2 : Int32)) + (xz &&& (31 : Int32))))   (by trivial)  A180
  by_cases c11 : (((xc.toUInt32 >>> ((3 : Int32) &&& 31).toUInt32).toInt32) &&& (1 : Int32)).toInt = 0
  · have A13 := A10.ifNo (pc' := 14) at_11 (teq (ieq (x := (((xc.toUInt32 >>> ((3 : Int32) &&& 31).toUInt32).toInt32) &&& (1 : Int32))) (y := (0 : Int32)) rfl rfl c11)).2 rfl
    have A14 := A13.iconst (z := (1 : Int32)) (pc' := 15) at_14 rfl rfl
    have A15 := A14.goto (pc' := 19) at_15 (by decide) (by decide)
    exact join12 ((1 : Int32))   (by trivial)  A15
  · have A16 := A10.ifYes (pc' := 18) at_11 (feq (ine (x := (((xc.toUInt32 >>> ((3 : Int32) &&& 31).toUInt32).toInt32) &&& (1 : Int32))) (y := (0 : Int32)) rfl rfl c11)).2 (by decide) (by decide)
    have A17 := A16.iconst (z := (0 : Int32)) (pc' := 19) at_18 rfl rfl
    exact join12 ((0 : Int32))   (by trivial)  A17
set_option maxRecDepth 65536 in
set_option maxHeartbeats 40000000 in
theorem comes_1 {Post : Tables → Env → Array Value → State → Outcome → State → Prop} (hpost : ∀ tb e args s v u, (limb_1_1.after args s (.returned v) u = true ∧ limb_1_2.after args s (.returned v) u = true ∧ True) → FrameEnd s (.returned v) u (Jvm.fieldLocs frame_1_writes args s ++ Jvm.arrayLocs frame_1_arrays args s ++ Jvm.staticLocs frame_1_statics s) 32 192 → Post tb e args s (.returned v) u) :
    ArmFor flags0 classFile x code maxLocals ret World_1 tables_1 room_1 Calls_1 rest_1 Pre_1 Post := by
  intro l hfl _ _ p e ha hc hk s m args below hf hA hF happ hP
  obtain ⟨hcalls, hrest, hpre⟩ := hP
  obtain ⟨-, -, -, hnamed, -, -, -, hat⟩ := (Spec.applies_iff hf).mp happ
  obtain ⟨hg, hn⟩ := and_e (Cond.before_iff.mp (show (Jvm.Cond.and given_1 narrow_1).before args s = true from hpre))
  obtain ⟨g1a, g1b⟩ := and_e hg
  obtain ⟨g2a, g2b⟩ := and_e g1b
  obtain ⟨g3a, g3b⟩ := and_e g2b
  obtain ⟨g4a, g4b⟩ := and_e g3b
  obtain ⟨g5a, g5b⟩ := and_e g4b
  obtain ⟨w0, w1, w2, w3, w4, rfl⟩ : ∃ w0 w1 w2 w3 w4 : Value, args = #[w0, w1, w2, w3, w4] := by
    have hs : args.size = 5 := by simpa [Cond.value, given_1] using g1a
    obtain ⟨L⟩ := args
    match L, hs with
    | [w0, w1, w2, w3, w4], _ => exact ⟨w0, w1, w2, w3, w4, rfl⟩
  have hw := fun d (hd : d ∈ tables_1) => atoms_spec (ws := Jvm.Cond.code x code maxLocals ret :: tables_1) hat d (List.mem_cons_of_mem _ hd)
  obtain ⟨i0, ei0⟩ := is_v g2a
  obtain rfl : w0 = (.int i0) := Option.some.inj ei0
  obtain ⟨i1, ei1⟩ := is_v g3a
  obtain rfl : w1 = (.int i1) := Option.some.inj ei1
  obtain ⟨i2, ei2⟩ := is_v g4a
  obtain rfl : w2 = (.int i2) := Option.some.inj ei2
  obtain ⟨i3, ei3⟩ := is_v g5a
  obtain rfl : w3 = (.int i3) := Option.some.inj ei3
  obtain ⟨i4, ei4⟩ := is_v g5b
  obtain rfl : w4 = (.int i4) := Option.some.inj ei4
  obtain ⟨n, o, h1, h2, h3, _, L, rfl, ⟨N, ⟨r, rfl, hr⟩⟩, hq⟩ := rm0 l s _ hw s.heap.size tables_1 i0 i1 i2 i3 i4  s.heap (Nat.le_refl _)  p e ha hc hk s m _ below hf ((Spec.applies_iff_loose hf).mp happ).1 ⟨rfl, State.Warmed39.refl s, rfl⟩ trivial
  have hr1 : r = 1 := hr.2
  subst hr1
  refine ⟨n, _, h1, h2, h3, hpost _ _ _ _ _ _ ⟨Cond.after_iff.mpr rfl, Cond.after_iff.mpr (eq_i res_at (Term.int_eval (1)) rfl), trivial⟩ ⟨hq.1, hq.2.1, (hq.2.2.sift fun y hy => Or.inr (N y hy)).mono (by decide) (by decide)⟩⟩
theorem main_1_1 : Claimed_1_1 := comes_1 fun _ _ _ _ _ _ h hF => ⟨h.1, hF⟩
theorem main_1_2 : Claimed_1_2 := comes_1 fun _ _ _ _ _ _ h hF => ⟨h.2.1, hF⟩
end Jvm.Pilot.@@N@@
namespace Jvm.Pilot.@@N@@
open Jvm Jvm.ClassFile Sem Op Lib Jvm.Free Jvm.Stand Jvm.Pilot.@@N@@.Jvm.D
/-! MADE BY PROGRAM (witnessworld.py) out of the Statement's table words and the real class files: 12 classes; the members and pool entries that the words name. The judged class is class 1, her method 2. -/
namespace start1
open Jvm.ClassFile
def u (s : String) : CpInfo := .utf8 (stringToUtf16 s)
/-- a pool by its gaps: so many unusable entries, then the entry; so many at the end -/
def gap : Nat → List CpInfo → List CpInfo
  | 0, r => r
  | n + 1, r => .unusable :: gap n r
def poolList (es : List (Nat × CpInfo)) (last : Nat) : List CpInfo := es.foldr (fun e r => gap e.1 (e.2 :: r)) (gap last [])
def pool (es : List (Nat × CpInfo)) (last : Nat) : Array CpInfo := ⟨poolList es last⟩
def fileOf (pool : Array CpInfo) (this : Nat) (attrs : Array Attribute := #[]) (ms : Array MethodInfo := #[]) (fl : Nat := 33) (sup : Nat := 0) (ifs : Array Nat := #[]) (fds : Array FieldInfo := #[]) : ClassFile where
  minorVersion := 0
  majorVersion := 65
  constantPool := pool
  accessFlags := fl
  thisClass := this
  superClass := sup
  interfaces := ifs
  fields := fds
  methods := ms
  attributes := attrs
def plain (name : String) (sup : Option ClassId) : Class where
  name := name
  kind := .ordinary
  loader := none
  accessFlags := 33
  super := sup
  interfaces := #[]
  cf := none
  fields := #[]
  methods := #[]
  instanceTypes := #[]
  staticTypes := #[]
  resolved := #[]
  callSites := []
  init := .initialized
  statics := none
  mirror := none

def pool0 : Array CpInfo := pool [(5, u "<init>"), (0, u "()V"), (1, .class_ 10), (1, u "java/lang/Object")] 113

def k0c0 : Code := { maxStack := 0, maxLocals := 1, code := object_method_1_code, exceptionTable := #[], attributes := #[] }
def k0m0 : Method := { name := "<init>", desc := "()V", sig := { parameters := [], returnType := none }, accessFlags := 1, code := some k0c0 }
/-- java/lang/Object -/
def k0 : Class := { plain "java/lang/Object" none with
  accessFlags := 33
  interfaces := #[]
  cf := some (fileOf pool0 8 #[] #[{ accessFlags := 1, nameIndex := 5, descriptorIndex := 6, attributes := #[] }] 33 0 #[] #[])
  fields := #[]
  methods := #[k0m0]
  instanceTypes := #[]
  staticTypes := #[]
  resolved := Array.replicate 124 none
  statics := none }

def pool1 : Array CpInfo := pool [(2, .class_ 4), (0, .nameAndType 5 6), (0, u "java/lang/Object"), (0, u "<init>"), (0, u "()V"), (0, .integer 1073741823), (0, .integer 2147483647), (0, .class_ 10), (0, u "com/example/best_plus_rest/bestplusrest/index/Postings"), (0, .methodref 9 3), (0, .methodref 9 13), (0, .nameAndType 14 15), (0, u "add"), (0, u "(II)V"), (0, .methodref 17 18), (0, .class_ 19), (0, .nameAndType 20 21), (0, u "com/example/best_plus_rest/bestplusrest/index/PostingsAdvancePinLaw"), (0, u "pick"), (0, u "(IIII[II)I"), (0, .methodref 9 23), (0, .nameAndType 24 25), (0, u "advance"), (0, u "(II)I"), (3, u "law"), (0, u "(IIIII)Z")] 4

def k1m0 : Method := { name := "<init>", desc := "()V", sig := { parameters := [], returnType := none }, accessFlags := 1, code := none }
def k1c1 : Code := { maxStack := 2, maxLocals := 6, code := method_2_code, exceptionTable := #[], attributes := #[] }
def k1m1 : Method := { name := "pick", desc := "(IIII[II)I", sig := { parameters := [.int, .int, .int, .int, (.array .int), .int], returnType := some .int }, accessFlags := 10, code := some k1c1 }
def k1c2 : Code := { maxStack := 6, maxLocals := 13, code := code, exceptionTable := #[], attributes := #[] }
def k1m2 : Method := { name := "law", desc := "(IIIII)Z", sig := { parameters := [.int, .int, .int, .int, .int], returnType := some .boolean }, accessFlags := 9, code := some k1c2 }
/-- com/example/best_plus_rest/bestplusrest/index/PostingsAdvancePinLaw -/
def k1 : Class := { plain "com/example/best_plus_rest/bestplusrest/index/PostingsAdvancePinLaw" (some 0) with
  accessFlags := 49
  interfaces := #[]
  cf := some (fileOf pool1 17 #[] #[{ accessFlags := 1, nameIndex := 5, descriptorIndex := 6, attributes := #[] }, { accessFlags := 10, nameIndex := 20, descriptorIndex := 21, attributes := #[] }, { accessFlags := 9, nameIndex := 29, descriptorIndex := 30, attributes := #[] }] 49 2 #[] #[])
  fields := #[]
  methods := #[k1m0, k1m1, k1m2]
  instanceTypes := #[]
  staticTypes := #[]
  resolved := Array.replicate 35 none
  statics := none }

def pool2 : Array CpInfo := pool [(1, .methodref 2 3), (0, .class_ 4), (0, .nameAndType 5 6), (0, u "java/lang/Object"), (0, u "<init>"), (0, u "()V"), (0, .fieldref 8 9), (0, .class_ 10), (0, .nameAndType 11 12), (0, u "com/example/best_plus_rest/bestplusrest/index/Postings"), (0, u "docs"), (0, u "[I"), (0, .fieldref 8 14), (0, .nameAndType 15 12), (0, u "freqs"), (0, .fieldref 8 17), (0, .nameAndType 18 19), (0, u "size"), (0, u "I"), (0, .methodref 21 22), (0, .class_ 23), (0, .nameAndType 24 25), (0, u "java/lang/Math"), (0, u "min"), (0, u "(JJ)J"), (0, .methodref 27 28), (0, .class_ 29), (0, .nameAndType 30 31), (0, u "java/util/Arrays"), (0, u "copyOf"), (0, u "([II)[I"), (3, u "EMPTY"), (0, u "Lcom/example/best_plus_rest/bestplusrest/index/Postings;"), (6, u "advance"), (0, u "(II)I"), (1, u "add"), (0, u "(II)V")] 4

def k2c0 : Code := { maxStack := 2, maxLocals := 1, code := prog_6_method_1_code, exceptionTable := #[], attributes := #[] }
def k2m0 : Method := { name := "<init>", desc := "()V", sig := { parameters := [], returnType := none }, accessFlags := 1, code := some k2c0 }
def k2c1 : Code := { maxStack := 4, maxLocals := 7, code := prog_6_method_5_code, exceptionTable := #[], attributes := #[] }
def k2m1 : Method := { name := "advance", desc := "(II)I", sig := { parameters := [.int, .int], returnType := some .int }, accessFlags := 1, code := some k2c1 }
def k2c2 : Code := { maxStack := 3, maxLocals := 4, code := prog_6_method_6_code, exceptionTable := #[], attributes := #[] }
def k2m2 : Method := { name := "add", desc := "(II)V", sig := { parameters := [.int, .int], returnType := none }, accessFlags := 0, code := some k2c2 }
/-- com/example/best_plus_rest/bestplusrest/index/Postings -/
def k2 : Class := { plain "com/example/best_plus_rest/bestplusrest/index/Postings" (some 0) with
  accessFlags := 33
  interfaces := #[]
  cf := some (fileOf pool2 8 #[] #[{ accessFlags := 1, nameIndex := 5, descriptorIndex := 6, attributes := #[] }, { accessFlags := 1, nameIndex := 43, descriptorIndex := 44, attributes := #[] }, { accessFlags := 0, nameIndex := 46, descriptorIndex := 47, attributes := #[] }] 33 2 #[] #[{ accessFlags := 25, nameIndex := 35, descriptorIndex := 36, attributes := #[] }, { accessFlags := 2, nameIndex := 11, descriptorIndex := 12, attributes := #[] }, { accessFlags := 2, nameIndex := 15, descriptorIndex := 12, attributes := #[] }, { accessFlags := 2, nameIndex := 18, descriptorIndex := 19, attributes := #[] }])
  fields := #[{ name := "EMPTY", type := (.object "com/example/best_plus_rest/bestplusrest/index/Postings"), accessFlags := 25, slot := 0, constantValue := 0 }, { name := "docs", type := (.array .int), accessFlags := 2, slot := 0, constantValue := 0 }, { name := "freqs", type := (.array .int), accessFlags := 2, slot := 1, constantValue := 0 }, { name := "size", type := .int, accessFlags := 2, slot := 2, constantValue := 0 }]
  methods := #[k2m0, k2m1, k2m2]
  instanceTypes := #[(.array .int), (.array .int), .int]
  staticTypes := #[(.object "com/example/best_plus_rest/bestplusrest/index/Postings")]
  resolved := Array.replicate 52 none
  statics := none }

def pool3 : Array CpInfo := pool [(2, .class_ 4), (1, u "java/lang/Object"), (0, u "<init>"), (0, u "()V"), (7, .class_ 16), (1, u "java/util/Arrays"), (57, .class_ 76), (1, u "java/util/Arrays$NaturalOrder"), (36, .class_ 115), (1, u "java/util/Arrays$LegacyMergeSort"), (1, u "Z"), (32, .methodref 151 152), (0, .class_ 153), (0, .nameAndType 154 155), (0, u "java/lang/System"), (0, u "arraycopy"), (0, u "(Ljava/lang/Object;ILjava/lang/Object;II)V"), (146, u "copyOf"), (1, .methodref 305 306), (0, .class_ 307), (0, .nameAndType 308 309), (0, u "java/lang/Math"), (0, u "min"), (0, u "(II)I"), (65, .class_ 376), (0, u "java/util/Arrays$ArrayList"), (68, u "$assertionsDisabled"), (269, u "MIN_ARRAY_SORT_GRAN"), (0, u "I"), (2, u "INSERTIONSORT_THRESHOLD"), (151, u "([II)[I"), (103, .class_ 976), (0, u "java/util/Arrays$ArrayItr")] 52

def k3m0 : Method := { name := "<init>", desc := "()V", sig := { parameters := [], returnType := none }, accessFlags := 2, code := none }
def k3c1 : Code := { maxStack := 6, maxLocals := 3, code := jdk_65_method_123_code, exceptionTable := #[], attributes := #[] }
def k3m1 : Method := { name := "copyOf", desc := "([II)[I", sig := { parameters := [(.array .int), .int], returnType := some (.array .int) }, accessFlags := 9, code := some k3c1 }
/-- java/util/Arrays -/
def k3 : Class := { plain "java/util/Arrays" (some 0) with
  accessFlags := 49
  interfaces := #[]
  cf := some (fileOf pool3 14 #[.nestMembers #[975, 375, 113, 74]] #[{ accessFlags := 2, nameIndex := 5, descriptorIndex := 6, attributes := #[] }, { accessFlags := 9, nameIndex := 302, descriptorIndex := 871, attributes := #[] }] 49 2 #[] #[{ accessFlags := 26, nameIndex := 715, descriptorIndex := 716, attributes := #[] }, { accessFlags := 26, nameIndex := 719, descriptorIndex := 716, attributes := #[] }, { accessFlags := 4120, nameIndex := 445, descriptorIndex := 117, attributes := #[] }])
  fields := #[{ name := "MIN_ARRAY_SORT_GRAN", type := .int, accessFlags := 26, slot := 0, constantValue := 0 }, { name := "INSERTIONSORT_THRESHOLD", type := .int, accessFlags := 26, slot := 1, constantValue := 0 }, { name := "$assertionsDisabled", type := .boolean, accessFlags := 4120, slot := 2, constantValue := 0 }]
  methods := #[k3m0, k3m1]
  instanceTypes := #[]
  staticTypes := #[.int, .int, .boolean]
  resolved := Array.replicate 1029 none
  statics := none }

def pool4 : Array CpInfo := pool [(1, .class_ 2), (0, u "java/lang/Math"), (1, .class_ 6), (1, u "java/lang/Object"), (0, u "<init>"), (0, u "()V"), (89, .class_ 100), (1, u "java/lang/Math$RandomNumberGeneratorHolder"), (20, u "(JJ)J"), (50, u "negativeZeroFloatBits"), (0, u "J"), (2, u "negativeZeroDoubleBits"), (24, u "min"), (43, u "$assertionsDisabled"), (0, u "Z"), (88, u "(II)I"), (2, u "twoToTheDoubleScaleDown"), (0, u "D"), (4, u "twoToTheDoubleScaleUp"), (9, u "E"), (3, u "PI"), (2, u "TAU"), (2, u "DEGREES_TO_RADIANS"), (0, u "RADIANS_TO_DEGREES")] 94

def k4m0 : Method := { name := "<init>", desc := "()V", sig := { parameters := [], returnType := none }, accessFlags := 2, code := none }
def k4c1 : Code := { maxStack := 2, maxLocals := 2, code := jdk_29_method_69_code, exceptionTable := #[], attributes := #[] }
def k4m1 : Method := { name := "min", desc := "(II)I", sig := { parameters := [.int, .int], returnType := some .int }, accessFlags := 9, code := some k4c1 }
def k4c2 : Code := { maxStack := 4, maxLocals := 4, code := jdk_29_method_70_code, exceptionTable := #[], attributes := #[] }
def k4m2 : Method := { name := "min", desc := "(JJ)J", sig := { parameters := [.long, .long], returnType := some .long }, accessFlags := 9, code := some k4c2 }
/-- java/lang/Math -/
def k4 : Class := { plain "java/lang/Math" (some 0) with
  accessFlags := 49
  interfaces := #[]
  cf := some (fileOf pool4 1 #[.nestMembers #[98]] #[{ accessFlags := 2, nameIndex := 7, descriptorIndex := 8, attributes := #[] }, { accessFlags := 9, nameIndex := 201, descriptorIndex := 335, attributes := #[] }, { accessFlags := 9, nameIndex := 201, descriptorIndex := 121, attributes := #[] }] 49 4 #[] #[{ accessFlags := 25, nameIndex := 354, descriptorIndex := 339, attributes := #[] }, { accessFlags := 25, nameIndex := 358, descriptorIndex := 339, attributes := #[] }, { accessFlags := 25, nameIndex := 361, descriptorIndex := 339, attributes := #[] }, { accessFlags := 26, nameIndex := 364, descriptorIndex := 339, attributes := #[] }, { accessFlags := 26, nameIndex := 365, descriptorIndex := 339, attributes := #[] }, { accessFlags := 26, nameIndex := 172, descriptorIndex := 173, attributes := #[] }, { accessFlags := 26, nameIndex := 176, descriptorIndex := 173, attributes := #[] }, { accessFlags := 8, nameIndex := 344, descriptorIndex := 339, attributes := #[] }, { accessFlags := 8, nameIndex := 338, descriptorIndex := 339, attributes := #[] }, { accessFlags := 4120, nameIndex := 245, descriptorIndex := 246, attributes := #[] }])
  fields := #[{ name := "E", type := .double, accessFlags := 25, slot := 0, constantValue := 0 }, { name := "PI", type := .double, accessFlags := 25, slot := 1, constantValue := 0 }, { name := "TAU", type := .double, accessFlags := 25, slot := 2, constantValue := 0 }, { name := "DEGREES_TO_RADIANS", type := .double, accessFlags := 26, slot := 3, constantValue := 0 }, { name := "RADIANS_TO_DEGREES", type := .double, accessFlags := 26, slot := 4, constantValue := 0 }, { name := "negativeZeroFloatBits", type := .long, accessFlags := 26, slot := 5, constantValue := 0 }, { name := "negativeZeroDoubleBits", type := .long, accessFlags := 26, slot := 6, constantValue := 0 }, { name := "twoToTheDoubleScaleUp", type := .double, accessFlags := 8, slot := 7, constantValue := 0 }, { name := "twoToTheDoubleScaleDown", type := .double, accessFlags := 8, slot := 8, constantValue := 0 }, { name := "$assertionsDisabled", type := .boolean, accessFlags := 4120, slot := 9, constantValue := 0 }]
  methods := #[k4m0, k4m1, k4m2]
  instanceTypes := #[]
  staticTypes := #[.double, .double, .double, .double, .double, .long, .long, .double, .double, .boolean]
  resolved := Array.replicate 460 none
  statics := none }

def pool5 : Array CpInfo := pool [(2, .class_ 4), (1, u "java/lang/Object"), (0, u "<init>"), (0, u "()V"), (1, .class_ 10), (1, u "java/lang/System"), (0, u "allowSecurityManager"), (0, u "I"), (16, u "cons"), (0, u "Ljava/io/Console;"), (77, .class_ 110), (1, u "java/lang/System$CallersHolder"), (43, u "initialErrStream"), (0, u "Ljava/io/PrintStream;"), (19, u "security"), (0, u "Ljava/lang/SecurityManager;"), (31, .class_ 209), (0, u "java/lang/System$1"), (7, u "props"), (0, u "Ljava/util/Properties;"), (2, u "lineSeparator"), (0, u "Ljava/lang/String;"), (96, .class_ 321), (1, u "java/lang/System$LoggerFinder"), (5, .class_ 328), (0, u "java/lang/System$Logger"), (67, u "err"), (2, u "out"), (91, u "notSupportedJnuEncoding"), (15, u "in"), (17, u "initialIn"), (0, u "Ljava/io/InputStream;"), (35, u "bootLayer"), (0, u "Ljava/lang/ModuleLayer;"), (99, .class_ 664), (0, u "java/lang/System$2"), (9, u "NEVER"), (2, u "MAYBE"), (49, u "arraycopy"), (0, u "(Ljava/lang/Object;ILjava/lang/Object;II)V"), (72, .class_ 802), (0, u "java/lang/System$Logger$Level")] 31

def k5m0 : Method := { name := "<init>", desc := "()V", sig := { parameters := [], returnType := none }, accessFlags := 2, code := none }
def k5m1 : Method := { name := "arraycopy", desc := "(Ljava/lang/Object;ILjava/lang/Object;II)V", sig := { parameters := [(.object "java/lang/Object"), .int, (.object "java/lang/Object"), .int, .int], returnType := none }, accessFlags := 265, code := none }
/-- java/lang/System -/
def k5 : Class := { plain "java/lang/System" (some 0) with
  accessFlags := 49
  interfaces := #[]
  cf := some (fileOf pool5 8 #[.nestMembers #[319, 327, 801, 108, 663, 208]] #[{ accessFlags := 2, nameIndex := 5, descriptorIndex := 6, attributes := #[] }, { accessFlags := 265, nameIndex := 727, descriptorIndex := 728, attributes := #[] }] 49 2 #[] #[{ accessFlags := 25, nameIndex := 507, descriptorIndex := 526, attributes := #[] }, { accessFlags := 25, nameIndex := 399, descriptorIndex := 155, attributes := #[] }, { accessFlags := 25, nameIndex := 396, descriptorIndex := 155, attributes := #[] }, { accessFlags := 10, nameIndex := 525, descriptorIndex := 526, attributes := #[] }, { accessFlags := 26, nameIndex := 674, descriptorIndex := 12, attributes := #[] }, { accessFlags := 26, nameIndex := 677, descriptorIndex := 12, attributes := #[] }, { accessFlags := 10, nameIndex := 11, descriptorIndex := 12, attributes := #[] }, { accessFlags := 74, nameIndex := 175, descriptorIndex := 176, attributes := #[] }, { accessFlags := 10, nameIndex := 491, descriptorIndex := 222, attributes := #[] }, { accessFlags := 74, nameIndex := 29, descriptorIndex := 30, attributes := #[] }, { accessFlags := 74, nameIndex := 154, descriptorIndex := 155, attributes := #[] }, { accessFlags := 10, nameIndex := 217, descriptorIndex := 218, attributes := #[] }, { accessFlags := 10, nameIndex := 221, descriptorIndex := 222, attributes := #[] }, { accessFlags := 8, nameIndex := 562, descriptorIndex := 563, attributes := #[] }])
  fields := #[{ name := "in", type := (.object "java/io/InputStream"), accessFlags := 25, slot := 0, constantValue := 0 }, { name := "out", type := (.object "java/io/PrintStream"), accessFlags := 25, slot := 1, constantValue := 0 }, { name := "err", type := (.object "java/io/PrintStream"), accessFlags := 25, slot := 2, constantValue := 0 }, { name := "initialIn", type := (.object "java/io/InputStream"), accessFlags := 10, slot := 3, constantValue := 0 }, { name := "NEVER", type := .int, accessFlags := 26, slot := 4, constantValue := 0 }, { name := "MAYBE", type := .int, accessFlags := 26, slot := 5, constantValue := 0 }, { name := "allowSecurityManager", type := .int, accessFlags := 10, slot := 6, constantValue := 0 }, { name := "security", type := (.object "java/lang/SecurityManager"), accessFlags := 74, slot := 7, constantValue := 0 }, { name := "notSupportedJnuEncoding", type := (.object "java/lang/String"), accessFlags := 10, slot := 8, constantValue := 0 }, { name := "cons", type := (.object "java/io/Console"), accessFlags := 74, slot := 9, constantValue := 0 }, { name := "initialErrStream", type := (.object "java/io/PrintStream"), accessFlags := 74, slot := 10, constantValue := 0 }, { name := "props", type := (.object "java/util/Properties"), accessFlags := 10, slot := 11, constantValue := 0 }, { name := "lineSeparator", type := (.object "java/lang/String"), accessFlags := 10, slot := 12, constantValue := 0 }, { name := "bootLayer", type := (.object "java/lang/ModuleLayer"), accessFlags := 8, slot := 13, constantValue := 0 }]
  methods := #[k5m0, k5m1]
  instanceTypes := #[]
  staticTypes := #[(.object "java/io/InputStream"), (.object "java/io/PrintStream"), (.object "java/io/PrintStream"), (.object "java/io/InputStream"), .int, .int, .int, (.object "java/lang/SecurityManager"), (.object "java/lang/String"), (.object "java/io/Console"), (.object "java/io/PrintStream"), (.object "java/util/Properties"), (.object "java/lang/String"), (.object "java/lang/ModuleLayer")]
  resolved := Array.replicate 834 none
  statics := none }

def pool6 : Array CpInfo := pool [(1, u "java/lang/Cloneable"), (0, .class_ 1), (0, u "java/lang/Object"), (0, .class_ 3)] 3

/-- java/lang/Cloneable -/
def k6 : Class := { plain "java/lang/Cloneable" (some 0) with
  accessFlags := 1537
  interfaces := #[]
  cf := some (fileOf pool6 2 #[] #[] 1537 4 #[] #[])
  fields := #[]
  methods := #[]
  instanceTypes := #[]
  staticTypes := #[]
  resolved := Array.replicate 8 none
  statics := none }

def pool7 : Array CpInfo := pool [(1, u "java/io/Serializable"), (0, .class_ 1), (0, u "java/lang/Object"), (0, .class_ 3)] 3

/-- java/io/Serializable -/
def k7 : Class := { plain "java/io/Serializable" (some 0) with
  accessFlags := 1537
  interfaces := #[]
  cf := some (fileOf pool7 2 #[] #[] 1537 4 #[] #[])
  fields := #[]
  methods := #[]
  instanceTypes := #[]
  staticTypes := #[]
  resolved := Array.replicate 8 none
  statics := none }

/-- the primitive byte -/
def k8 : Class := { plain "byte" none with kind := .primitive 'B', accessFlags := 0x411 }
/-- [B -/
def k9 : Class := { plain "[B" (some 0) with kind := .array 8 .byte, interfaces := #[6, 7], accessFlags := 1041 }

/-- the primitive int -/
def k10 : Class := { plain "int" none with kind := .primitive 'I', accessFlags := 0x411 }
/-- [I -/
def k11 : Class := { plain "[I" (some 0) with kind := .array 10 .int, interfaces := #[6, 7], accessFlags := 1041 }

def heap : Heap := #[]
def classes : Array Class := #[k0, k1, k2, k3, k4, k5, k6, k7, k8, k9, k10, k11]
def interned : List (Array UInt16 × Addr) := []
def slotsUsed : Nat := 0
def theMethod : MethodId := ⟨1, 2⟩
def args0 : Array Value := #[.int 5, .int 5, .int 5, .int 5, .int 5]
def aboutOver (below : List Frame) : State where
  vm := { classes := classes, interned := interned.toArray }
  heap := heap
  slotsUsed := slotsUsed
  threads := #[{ frames := .invoking theMethod args0 :: below }]
def below0 : List Frame := [.native { method := ⟨0, 0⟩, args := #[] }]
def about1 : State := aboutOver below0
def p0 : Program := .bare "" "" ""
def e0 : Env := launch0.env 0 0 0
theorem w_frames : about1.frames = Frame.invoking theMethod args0 :: below0 := rfl
set_option maxRecDepth 65536 in
theorem w_args : argsFit about1.vm theMethod args0 = true := by decide +kernel
set_option maxRecDepth 65536 in
theorem w_heap : heapFits about1 = true := by decide +kernel
set_option maxRecDepth 65536 in
theorem w_runnable : about1.curStatus? = some .runnable := by decide +kernel
set_option maxRecDepth 65536 in
theorem w_alone : about1.alone = true := by decide +kernel
set_option maxRecDepth 65536 in
theorem w_named : about1.methodNamed? x = some theMethod := by decide +kernel
set_option maxRecDepth 65536 in
theorem w_hears : about1.hears theMethod below0 = true := by decide +kernel
set_option maxRecDepth 65536 in
theorem w_ripe : about1.ripe theMethod args0 below0 = true := by decide +kernel
theorem w_running : about1.status = .running := rfl
set_option maxRecDepth 65536 in
theorem w_room : about1.hasRoom e0.platform room_1 = true :=
  launch0.hasRoom_least _ room_1 (by decide +kernel) (by decide +kernel) (by decide +kernel) (by decide +kernel) (by decide +kernel) (by decide +kernel)
theorem allAtoms_all (ts : List Jvm.Cond) (a : Array Jvm.Value) (st : Jvm.State) : (allAtoms ts).before a st = ts.all (fun c => c.before a st) := by
  induction ts with
  | nil => rfl
  | cons c t ih =>
    show (Jvm.Cond.and c (allAtoms t)).before a st = _
    rw [Jvm.Cond.before_and, ih, List.all_cons]
def words1 : List Jvm.Cond := Jvm.Cond.code x code maxLocals ret :: tables_1
/-- a 'code' word, met by the world's own term for the bytes: nothing is compared byte by byte -/
theorem code_word {y : MethodName} {bytes : ByteArray} {mx : Nat} {rt : Option FieldType} {a : Array Value} {s : State} {m : MethodId} {meth : Method} {c : Code} (h1 : s.methodNamed? y = some m) (h2 : s.vm.method? m = some meth) (h3 : meth.code = some c) (h4 : c.code = bytes)
    (h5 : (c.maxLocals == mx && c.exceptionTable.isEmpty && decide (c.maxStack ≤ mostOperands) && decide (meth.sig.returnType = rt) && !meth.locks && decide (parseMethodDescriptor y.desc = some meth.sig)) = true) : (Jvm.Cond.code y bytes mx rt).before a s = true := by
  simp only [Bool.and_eq_true, beq_iff_eq, Bool.not_eq_true', decide_eq_true_eq] at h5
  obtain ⟨⟨⟨⟨⟨g1, g2⟩, g3⟩, g4⟩, g5⟩, g6⟩ := h5
  simp [Cond.before, Cond.holds, Cond.value, h1, h2, h3, h4, g1, g2, g3, g4, g5, g6]
def isCode : Jvm.Cond → Bool
  | .code _ _ _ _ => true
  | _ => false
theorem all_split {L : List Jvm.Cond} {P : Jvm.Cond → Bool} (h1 : L.all (fun c => isCode c || P c) = true) (h2 : ∀ c ∈ L.filter isCode, P c = true) : L.all P = true := by
  refine List.all_eq_true.mpr fun c hc => ?_
  have h := List.all_eq_true.mp h1 c hc
  rcases Bool.eq_false_or_eq_true (isCode c) with hi | hi
  · exact h2 c (List.mem_filter.mpr ⟨hc, hi⟩)
  · simpa [hi] using h
set_option maxRecDepth 65536 in
theorem w_c0 : (Jvm.Cond.code x code maxLocals ret).before args0 about1 = true := code_word (m := ⟨1, 2⟩) (meth := k1m2) (c := k1c2) (by decide +kernel) rfl rfl rfl (by decide +kernel)
set_option maxRecDepth 65536 in
theorem w_c1 : (Jvm.Cond.code ({ cls := "com/example/best_plus_rest/bestplusrest/index/Postings", name := "<init>", desc := "()V" } : Jvm.MethodName) prog_6_method_1_code (1 : Nat) (Option.none : Option Jvm.ClassFile.FieldType)).before args0 about1 = true := code_word (m := ⟨2, 0⟩) (meth := k2m0) (c := k2c0) (by decide +kernel) rfl rfl rfl (by decide +kernel)
set_option maxRecDepth 65536 in
theorem w_c2 : (Jvm.Cond.code ({ cls := "java/lang/Object", name := "<init>", desc := "()V" } : Jvm.MethodName) object_method_1_code (1 : Nat) (Option.none : Option Jvm.ClassFile.FieldType)).before args0 about1 = true := code_word (m := ⟨0, 0⟩) (meth := k0m0) (c := k0c0) (by decide +kernel) rfl rfl rfl (by decide +kernel)
set_option maxRecDepth 65536 in
theorem w_c3 : (Jvm.Cond.code ({ cls := "com/example/best_plus_rest/bestplusrest/index/Postings", name := "add", desc := "(II)V" } : Jvm.MethodName) prog_6_method_6_code (4 : Nat) (Option.none : Option Jvm.ClassFile.FieldType)).before args0 about1 = true := code_word (m := ⟨2, 2⟩) (meth := k2m2) (c := k2c2) (by decide +kernel) rfl rfl rfl (by decide +kernel)
set_option maxRecDepth 65536 in
theorem w_c4 : (Jvm.Cond.code ({ cls := "java/util/Arrays", name := "copyOf", desc := "([II)[I" } : Jvm.MethodName) jdk_65_method_123_code (3 : Nat) (Option.some (Jvm.ClassFile.FieldType.array Jvm.ClassFile.FieldType.int))).before args0 about1 = true := code_word (m := ⟨3, 1⟩) (meth := k3m1) (c := k3c1) (by decide +kernel) rfl rfl rfl (by decide +kernel)
set_option maxRecDepth 65536 in
theorem w_c5 : (Jvm.Cond.code ({ cls := "java/lang/Math", name := "min", desc := "(II)I" } : Jvm.MethodName) jdk_29_method_69_code (2 : Nat) (Option.some Jvm.ClassFile.FieldType.int)).before args0 about1 = true := code_word (m := ⟨4, 1⟩) (meth := k4m1) (c := k4c1) (by decide +kernel) rfl rfl rfl (by decide +kernel)
set_option maxRecDepth 65536 in
theorem w_c6 : (Jvm.Cond.code ({ cls := "com/example/best_plus_rest/bestplusrest/index/PostingsAdvancePinLaw", name := "pick", desc := "(IIII[II)I" } : Jvm.MethodName) method_2_code (6 : Nat) (Option.some Jvm.ClassFile.FieldType.int)).before args0 about1 = true := code_word (m := ⟨1, 1⟩) (meth := k1m1) (c := k1c1) (by decide +kernel) rfl rfl rfl (by decide +kernel)
set_option maxRecDepth 65536 in
theorem w_c7 : (Jvm.Cond.code ({ cls := "com/example/best_plus_rest/bestplusrest/index/Postings", name := "advance", desc := "(II)I" } : Jvm.MethodName) prog_6_method_5_code (7 : Nat) (Option.some Jvm.ClassFile.FieldType.int)).before args0 about1 = true := code_word (m := ⟨2, 1⟩) (meth := k2m1) (c := k2c1) (by decide +kernel) rfl rfl rfl (by decide +kernel)
set_option maxRecDepth 65536 in
theorem w_c8 : (Jvm.Cond.code ({ cls := "java/lang/Math", name := "min", desc := "(JJ)J" } : Jvm.MethodName) jdk_29_method_70_code (4 : Nat) (Option.some Jvm.ClassFile.FieldType.long)).before args0 about1 = true := code_word (m := ⟨4, 2⟩) (meth := k4m2) (c := k4c2) (by decide +kernel) rfl rfl rfl (by decide +kernel)
def codes1 : List Jvm.Cond := [Jvm.Cond.code x code maxLocals ret, Jvm.Cond.code ({ cls := "com/example/best_plus_rest/bestplusrest/index/Postings", name := "<init>", desc := "()V" } : Jvm.MethodName) prog_6_method_1_code (1 : Nat) (Option.none : Option Jvm.ClassFile.FieldType), Jvm.Cond.code ({ cls := "java/lang/Object", name := "<init>", desc := "()V" } : Jvm.MethodName) object_method_1_code (1 : Nat) (Option.none : Option Jvm.ClassFile.FieldType), Jvm.Cond.code ({ cls := "com/example/best_plus_rest/bestplusrest/index/Postings", name := "add", desc := "(II)V" } : Jvm.MethodName) prog_6_method_6_code (4 : Nat) (Option.none : Option Jvm.ClassFile.FieldType), Jvm.Cond.code ({ cls := "java/util/Arrays", name := "copyOf", desc := "([II)[I" } : Jvm.MethodName) jdk_65_method_123_code (3 : Nat) (Option.some (Jvm.ClassFile.FieldType.array Jvm.ClassFile.FieldType.int)), Jvm.Cond.code ({ cls := "java/lang/Math", name := "min", desc := "(II)I" } : Jvm.MethodName) jdk_29_method_69_code (2 : Nat) (Option.some Jvm.ClassFile.FieldType.int), Jvm.Cond.code ({ cls := "com/example/best_plus_rest/bestplusrest/index/PostingsAdvancePinLaw", name := "pick", desc := "(IIII[II)I" } : Jvm.MethodName) method_2_code (6 : Nat) (Option.some Jvm.ClassFile.FieldType.int), Jvm.Cond.code ({ cls := "com/example/best_plus_rest/bestplusrest/index/Postings", name := "advance", desc := "(II)I" } : Jvm.MethodName) prog_6_method_5_code (7 : Nat) (Option.some Jvm.ClassFile.FieldType.int), Jvm.Cond.code ({ cls := "java/lang/Math", name := "min", desc := "(JJ)J" } : Jvm.MethodName) jdk_29_method_70_code (4 : Nat) (Option.some Jvm.ClassFile.FieldType.long)]
set_option maxRecDepth 65536 in
theorem codes_eq : words1.filter isCode = codes1 := rfl
theorem w_codes : ∀ c ∈ words1.filter isCode, c.before args0 about1 = true := by
  rw [codes_eq]
  intro c hc
  simp only [codes1, List.mem_cons, List.not_mem_nil, or_false] at hc
  rcases hc with rfl | rfl | rfl | rfl | rfl | rfl | rfl | rfl | rfl
  · exact w_c0
  · exact w_c1
  · exact w_c2
  · exact w_c3
  · exact w_c4
  · exact w_c5
  · exact w_c6
  · exact w_c7
  · exact w_c8
set_option maxRecDepth 65536 in
theorem w_t1 : (words1.take 24).all (fun c => isCode c || c.before args0 about1) = true := by decide +kernel
set_option maxRecDepth 65536 in
theorem w_t2 : (words1.drop 24).all (fun c => isCode c || c.before args0 about1) = true := by decide +kernel
theorem w_tables : (allAtoms (Jvm.Cond.code x code maxLocals ret :: tables_1)).before args0 about1 = true := by
  rw [allAtoms_all]
  show words1.all (fun c => c.before args0 about1) = true
  refine all_split ?_ w_codes
  rw [← List.take_append_drop 24 words1, List.all_append, w_t1, w_t2]
  rfl
set_option maxRecDepth 65536 in
theorem w_case : (Jvm.Cond.and given_1 narrow_1).before args0 about1 = true := by decide +kernel
theorem w_applies : (headSpec (Jvm.Cond.code x code maxLocals ret :: tables_1) room_1).applies x e0.platform about1 = true :=
  (Spec.applies_iff w_frames).mpr ⟨w_running, w_runnable, w_alone, w_named, w_hears, w_ripe, w_room, w_tables⟩
theorem atStart : AtStart classFile x code maxLocals ret World_1 tables_1 room_1 Calls_1 rest_1 Pre_1 launch0 p0 e0 about1 theMethod args0 below0 :=
  ⟨lists_1, trivial, launch0.admits_env _ _ _, launch0.least_env, fairChoices_fair.cas, fairChoices_fair.clock, w_frames, w_args, w_heap, w_applies, trivial, trivial, w_case⟩
end start1
theorem witness_1 : WitnessClaimed_1 := ⟨start1.p0, start1.e0, start1.about1, start1.theMethod, start1.args0, start1.below0, start1.atStart⟩
end Jvm.Pilot.@@N@@
