import JvmDerived
import JvmDerived.Pilot.@@N@@Statement
import JvmDerived.Pilot.@@N@@Code
set_option linter.unusedVariables false
set_option linter.unusedSimpArgs false
namespace Jvm.Pilot.@@N@@
open Jvm Jvm.ClassFile Sem Op Lib Jvm.Free Jvm.Stand Jvm.LawKit Jvm.RoadKit Bundle Jvm.Pilot.@@N@@.Jvm.D
/-! A. where a walk stands: W; what a body owes: Gl; a body's contract: Ctr -/
abbrev Cx := Program × Env × State × MethodId × Array Value × List Frame × Method × Code × State
def W (l : Launch) (Z : State) (n0 : Nat) (y : MethodName) (bytes : ByteArray) (maxl : Nat) (ret : Option FieldType) (R : Room) (G : Cx) (h : Heap) (pc : Nat) (Ls : Array Slot) (St : List Value) (cells slots : Nat) : Prop :=
  match G with
  | (p, e, s, m, args, below, meth, c, st) =>
    p.tables.exec = Jvm.exec ∧ Z.Warmed39 s.vm ∧ c.code = bytes ∧ c.maxLocals = maxl ∧ s.vm.findClass y.cls = some m.cls ∧ meth.name = y.name ∧ meth.sig.returnType = ret ∧ meth.locks = false ∧ n0 ≤ s.heap.size ∧
    ∃ (T : State) (locs : List Loc), Stand p l e R s m args below meth c T locs cells slots ∧ Fr n0 locs ∧ T.heap = h ∧ ∀ t, Steps p.tables e below (T.setTop (mkF m pc Ls St)) t → Steps p.tables e below st t
def Gl (R : Room) (n0 : Nat) (G : Cx) (Q : Option Value → Heap → Prop) : Prop :=
  match G with
  | (p, e, s, m, args, below, meth, c, st) => ∃ s₂ o, Steps p.tables e below st s₂ ∧ s₂.status = .running ∧ Ended s₂ below o ∧ ∃ v L, o = .returned v ∧ (Fr n0 L ∧ Q v s₂.heap) ∧ FrameEnd s o s₂ L R.cells R.slots
def Ctr (l : Launch) (Z : State) (n0 : Nat) (y : MethodName) (bytes : ByteArray) (maxl : Nat) (ret : Option FieldType) (ws : List Jvm.Cond) (R : Room) (as : Array Value) (h0 : Heap) (Q : Option Value → Heap → Prop) : Prop :=
  MetFree l y (head1 (Jvm.Cond.code y bytes maxl ret :: ws) R) (fun a U => a = as ∧ Z.Warmed39 U.vm ∧ U.heap = h0) (fun _ _ _ _ _ => True) (fun _ U o U' => ∃ v L, o = .returned v ∧ (Fr n0 L ∧ Q v U'.heap) ∧ FrameEnd U o U' L R.cells R.slots)
def QI (P : Int32 → Heap → Prop) (v : Option Value) (h : Heap) : Prop := ∃ r, v = some (.int r) ∧ P r h
def QJ (P : Int64 → Heap → Prop) (v : Option Value) (h : Heap) : Prop := ∃ r, v = some (.long r) ∧ P r h
def QA (P : Addr → Heap → Prop) (v : Option Value) (h : Heap) : Prop := ∃ r, v = some (.ref r) ∧ P r h
def QV (P : Heap → Prop) (v : Option Value) (h : Heap) : Prop := v = none ∧ P h
theorem ilt {x y : Int32} {a b : Int} (ha : x.toInt = a) (hb : y.toInt = b) (h : a < b) : x < y := by subst ha hb; exact Int32.lt_iff_toInt_lt.mpr h
theorem inlt {x y : Int32} {a b : Int} (ha : x.toInt = a) (hb : y.toInt = b) (h : ¬ a < b) : ¬ x < y := by subst ha hb; exact fun q => h (Int32.lt_iff_toInt_lt.mp q)
theorem igt {x y : Int32} {a b : Int} (ha : x.toInt = a) (hb : y.toInt = b) (h : b < a) : y < x := ilt hb ha h
theorem ingt {x y : Int32} {a b : Int} (ha : x.toInt = a) (hb : y.toInt = b) (h : ¬ b < a) : ¬ y < x := inlt hb ha h
theorem ieq {x y : Int32} {a b : Int} (ha : x.toInt = a) (hb : y.toInt = b) (h : a = b) : x = y := by subst ha hb; exact Int32.toInt_inj.mp h
theorem ine {x y : Int32} {a b : Int} (ha : x.toInt = a) (hb : y.toInt = b) (h : ¬ a = b) : ¬ x = y := by subst ha hb; exact fun q => h (Int32.toInt_inj.mpr q)
theorem llt {x y : Int64} {a b : Int} (ha : x.toInt = a) (hb : y.toInt = b) (h : a < b) : lcmpW x y < 0 := by subst ha hb; exact (lw_lt _ _).mpr (Int64.lt_iff_toInt_lt.mpr h)
theorem lnlt {x y : Int64} {a b : Int} (ha : x.toInt = a) (hb : y.toInt = b) (h : ¬ a < b) : ¬ lcmpW x y < 0 := by subst ha hb; exact fun q => h (Int64.lt_iff_toInt_lt.mp ((lw_lt _ _).mp q))
theorem lgt {x y : Int64} {a b : Int} (ha : x.toInt = a) (hb : y.toInt = b) (h : b < a) : 0 < lcmpW x y := by subst ha hb; exact (lw_gt _ _).mpr (Int64.lt_iff_toInt_lt.mpr h)
theorem lngt {x y : Int64} {a b : Int} (ha : x.toInt = a) (hb : y.toInt = b) (h : ¬ b < a) : ¬ 0 < lcmpW x y := by subst ha hb; exact fun q => h (Int64.lt_iff_toInt_lt.mp ((lw_gt _ _).mp q))
theorem leq {x y : Int64} {a b : Int} (ha : x.toInt = a) (hb : y.toInt = b) (h : a = b) : lcmpW x y = 0 := by subst ha hb; exact (lw_eq _ _).mpr (Int64.toInt_inj.mp h)
theorem lne {x y : Int64} {a b : Int} (ha : x.toInt = a) (hb : y.toInt = b) (h : ¬ a = b) : ¬ lcmpW x y = 0 := by subst ha hb; exact fun q => h (Int64.toInt_inj.mpr ((lw_eq _ _).mp q))
def Two (s t : Slot) : Prop := (s = .unset ∧ t = .unset) ∨ ∃ q : Int64, s = .val (.long q) ∧ t = .second
section Walk
variable {l : Launch} {Z : State} {n0 : Nat} {y : MethodName} {bytes : ByteArray} {maxl : Nat} {ret : Option FieldType} {R : Room} {G : Cx} {h : Heap} {pc pc' : Nat} {Ls : Array Slot} {St : List Value} {C S C' S' : Nat} {Q : Option Value → Heap → Prop} {a0 : Array Value}
theorem W.mk {p : Program} {e : Env} {s : State} {m : MethodId} {args : Array Value} {below : List Frame} {meth : Method} {c : Code} {st : State} {T : State} {locs : List Loc} (hx : p.tables.exec = Jvm.exec) (hZ : Z.Warmed39 s.vm) (hby : c.code = bytes) (hml : c.maxLocals = maxl) (hown : s.vm.findClass y.cls = some m.cls) (hnm : meth.name = y.name) (hrt : meth.sig.returnType = ret) (hlk : meth.locks = false) (hn0 : n0 ≤ s.heap.size)
    (X : Stand p l e R s m args below meth c T locs C S) (N : Fr n0 locs) (eT : T.heap = h) (k : ∀ t, Steps p.tables e below (T.setTop (mkF m pc Ls St)) t → Steps p.tables e below st t) : W l Z n0 y bytes maxl ret R (p, e, s, m, args, below, meth, c, st) h pc Ls St C S :=
  show _ ∧ _ from ⟨hx, hZ, hby, hml, hown, hnm, hrt, hlk, hn0, T, locs, X, N, eT, k⟩
theorem ctr_of {ws : List Jvm.Cond} {as : Array Value} (hpn : plainFor y = true) (hn0 : n0 ≤ h.size) (hef : ∀ m, entryFrame m as maxl = mkF m 0 Ls []) (body : ∀ G, W l Z n0 y bytes maxl ret R G h 0 Ls [] 0 0 → Gl R n0 G Q) : Ctr l Z n0 y bytes maxl ret ws R as h Q := by
  refine MetFree.of_bodySF hpn hisR ?_
  intro p e s m args below meth c s₁ Bd hml0 hP hK
  obtain ⟨rfl, hZ, hh⟩ := hP
  have e0 : s₁.heap = h := by rw [← hh, Bd.state]; rfl
  exact body (p, e, s, m, args, below, meth, c, s₁.setTop (entryFrame m args maxl)) (W.mk Bd.exec hZ Bd.bytes hml0 (findClass_of_methodNamed Bd.named) (name_of_methodNamed Bd.named Bd.method).1 Bd.returns (BodyLoose.notSynchronized Bd) (hh ▸ hn0) (Stand.of_body Bd) (Fr.nil n0) e0 (fun t k => castTop (hef m) k))
theorem W.size (A : W l Z n0 y bytes maxl ret R G h pc Ls St C S) : n0 ≤ h.size := by
  obtain ⟨p, e, s, m, args, below, meth, c, st⟩ := G
  obtain ⟨hx, hZ, hby, hml, hown, hnm, hrt, hlk, hn0, T, locs, X, N, eT, k⟩ := A
  exact Nat.le_trans hn0 (by rw [← eT]; exact X.same.2.1)
theorem W.more (A : W l Z n0 y bytes maxl ret R G h pc Ls St C S) (hC : C ≤ C') (hS : S ≤ S') : W l Z n0 y bytes maxl ret R G h pc Ls St C' S' := by
  obtain ⟨p, e, s, m, args, below, meth, c, st⟩ := G
  obtain ⟨hx, hZ, hby, hml, hown, hnm, hrt, hlk, hn0, T, locs, X, N, eT, k⟩ := A
  exact W.mk hx hZ hby hml hown hnm hrt hlk hn0 (X.more hC hS) N eT k
theorem W.cast {Ls' : Array Slot} {St' : List Value} (A : W l Z n0 y bytes maxl ret R G h pc Ls St C S) (hp : pc = pc') (hL : Ls = Ls') (hSt : St = St') : W l Z n0 y bytes maxl ret R G h pc' Ls' St' C S := by subst hp hL hSt; exact A
theorem W.topI {x z : Int32} (A : W l Z n0 y bytes maxl ret R G h pc Ls (.int x :: St) C S) (q : x = z) : W l Z n0 y bytes maxl ret R G h pc Ls (.int z :: St) C S := q ▸ A
theorem W.topJ {x z : Int64} (A : W l Z n0 y bytes maxl ret R G h pc Ls (.long x :: St) C S) (q : x = z) : W l Z n0 y bytes maxl ret R G h pc Ls (.long z :: St) C S := q ▸ A
/-- a plain step -/
theorem W.step (A : W l Z n0 y bytes maxl ret R G h pc Ls St C S) {Ls' : Array Slot} {St' : List Value}
    (f : ∀ {p : Program} {e : Env} {s : State} {m : MethodId} {args : Array Value} {below : List Frame} {meth : Method} {c : Code} {T t : State} {locs : List Loc}, Stand p l e R s m args below meth c T locs C S → p.tables.exec = Jvm.exec → Z.Warmed39 s.vm → s.vm.findClass y.cls = some m.cls → c.code = bytes → T.heap = h → Steps p.tables e below (T.setTop (mkF m pc' Ls' St')) t → Steps p.tables e below (T.setTop (mkF m pc Ls St)) t) : W l Z n0 y bytes maxl ret R G h pc' Ls' St' C S := by
  obtain ⟨p, e, s, m, args, below, meth, c, st⟩ := G
  obtain ⟨hx, hZ, hby, hml, hown, hnm, hrt, hlk, hn0, T, locs, X, N, eT, k⟩ := A
  exact W.mk hx hZ hby hml hown hnm hrt hlk hn0 X N eT (fun t q => k t (f X hx hZ hown hby eT q))
/-! B. plain instructions -/
theorem W.iloadN (A : W l Z n0 y bytes maxl ret R G h pc Ls St C S) {k : Fin 4} {v : Int32} (hd : decode bytes pc = .ok (.iload_n k, 1)) (hl : Ls[k.val]? = some (.val (.int v))) (hp : pc + 1 = pc') : W l Z n0 y bytes maxl ret R G h pc' Ls (.int v :: St) C S := by
  subst hp; exact A.step fun X hx _ _ q _ r => XS.iloadN X.here hx rfl (hb q hd) hl r
theorem W.iload (A : W l Z n0 y bytes maxl ret R G h pc Ls St C S) {k : Nat} {v : Int32} (hd : decode bytes pc = .ok (.iload k, 2)) (hl : Ls[k]? = some (.val (.int v))) (hp : pc + 2 = pc') : W l Z n0 y bytes maxl ret R G h pc' Ls (.int v :: St) C S := by
  subst hp; exact A.step fun X hx _ _ q _ r => XS.iload X.here hx rfl (hb q hd) hl r
theorem W.lloadN (A : W l Z n0 y bytes maxl ret R G h pc Ls St C S) {k : Fin 4} {v : Int64} (hd : decode bytes pc = .ok (.lload_n k, 1)) (hl : Ls[k.val]? = some (.val (.long v))) (hp : pc + 1 = pc') : W l Z n0 y bytes maxl ret R G h pc' Ls (.long v :: St) C S := by
  subst hp; exact A.step fun X hx _ _ q _ r => XS.lloadN X.here hx rfl (hb q hd) hl r
theorem W.lload (A : W l Z n0 y bytes maxl ret R G h pc Ls St C S) {k : Nat} {v : Int64} (hd : decode bytes pc = .ok (.lload k, 2)) (hl : Ls[k]? = some (.val (.long v))) (hp : pc + 2 = pc') : W l Z n0 y bytes maxl ret R G h pc' Ls (.long v :: St) C S := by
  subst hp; exact A.step fun X hx _ _ q _ r => XS.lload X.here hx rfl (hb q hd) hl r
theorem W.aloadN (A : W l Z n0 y bytes maxl ret R G h pc Ls St C S) {k : Fin 4} {v : Value} (hd : decode bytes pc = .ok (.aload_n k, 1)) (hl : Ls[k.val]? = some (.val v)) (hv : v.isRef = true) (hp : pc + 1 = pc') : W l Z n0 y bytes maxl ret R G h pc' Ls (v :: St) C S := by
  subst hp; exact A.step fun X hx _ _ q _ r => XS.aloadN X.here hx rfl (hb q hd) hl hv r
theorem W.aload (A : W l Z n0 y bytes maxl ret R G h pc Ls St C S) {k : Nat} {v : Value} (hd : decode bytes pc = .ok (.aload k, 2)) (hl : Ls[k]? = some (.val v)) (hv : v.isRef = true) (hp : pc + 2 = pc') : W l Z n0 y bytes maxl ret R G h pc' Ls (v :: St) C S := by
  subst hp; exact A.step fun X hx _ _ q _ r => XS.aload X.here hx rfl (hb q hd) hl hv r
theorem W.istoreN {v : Int32} (A : W l Z n0 y bytes maxl ret R G h pc Ls (.int v :: St) C S) {k : Fin 4} {Ls' : Array Slot} (hd : decode bytes pc = .ok (.istore_n k, 1)) (hl : storeLocals Ls k.val (.int v) = some Ls') (hp : pc + 1 = pc') : W l Z n0 y bytes maxl ret R G h pc' Ls' St C S := by
  subst hp; exact A.step fun X hx _ _ q _ r => XS.istoreN X.here hx rfl (hb q hd) rfl hl r
theorem W.istore {v : Int32} (A : W l Z n0 y bytes maxl ret R G h pc Ls (.int v :: St) C S) {k : Nat} {Ls' : Array Slot} (hd : decode bytes pc = .ok (.istore k, 2)) (hl : storeLocals Ls k (.int v) = some Ls') (hp : pc + 2 = pc') : W l Z n0 y bytes maxl ret R G h pc' Ls' St C S := by
  subst hp; exact A.step fun X hx _ _ q _ r => XS.istore X.here hx rfl (hb q hd) rfl hl r
theorem W.lstoreN {v : Int64} (A : W l Z n0 y bytes maxl ret R G h pc Ls (.long v :: St) C S) {k : Fin 4} {Ls' : Array Slot} (hd : decode bytes pc = .ok (.lstore_n k, 1)) (hl : storeLocals Ls k.val (.long v) = some Ls') (hp : pc + 1 = pc') : W l Z n0 y bytes maxl ret R G h pc' Ls' St C S := by
  subst hp; exact A.step fun X hx _ _ q _ r => XS.lstoreN X.here hx rfl (hb q hd) rfl hl r
theorem W.lstore {v : Int64} (A : W l Z n0 y bytes maxl ret R G h pc Ls (.long v :: St) C S) {k : Nat} {Ls' : Array Slot} (hd : decode bytes pc = .ok (.lstore k, 2)) (hl : storeLocals Ls k (.long v) = some Ls') (hp : pc + 2 = pc') : W l Z n0 y bytes maxl ret R G h pc' Ls' St C S := by
  subst hp; exact A.step fun X hx _ _ q _ r => XS.lstore X.here hx rfl (hb q hd) rfl hl r
theorem W.astoreN {v : Value} (A : W l Z n0 y bytes maxl ret R G h pc Ls (v :: St) C S) {k : Fin 4} {Ls' : Array Slot} (hd : decode bytes pc = .ok (.astore_n k, 1)) (hv : v.isRef = true) (hl : storeLocals Ls k.val v = some Ls') (hp : pc + 1 = pc') : W l Z n0 y bytes maxl ret R G h pc' Ls' St C S := by
  subst hp; exact A.step fun X hx _ _ q _ r => XS.astoreN X.here hx rfl (hb q hd) rfl hv hl r
theorem W.astore {v : Value} (A : W l Z n0 y bytes maxl ret R G h pc Ls (v :: St) C S) {k : Nat} {Ls' : Array Slot} (hd : decode bytes pc = .ok (.astore k, 2)) (hv : v.isRef = true) (hl : storeLocals Ls k v = some Ls') (hp : pc + 2 = pc') : W l Z n0 y bytes maxl ret R G h pc' Ls' St C S := by
  subst hp; exact A.step fun X hx _ _ q _ r => XS.astore X.here hx rfl (hb q hd) rfl hv hl r
theorem W.iconst (A : W l Z n0 y bytes maxl ret R G h pc Ls St C S) {i : Int} {z : Int32} (hd : decode bytes pc = .ok (.iconst i, 1)) (hz : Int32.ofInt i = z) (hp : pc + 1 = pc') : W l Z n0 y bytes maxl ret R G h pc' Ls (.int z :: St) C S := by
  subst hp hz; exact A.step fun X hx _ _ q _ r => XS.iconst X.here hx rfl (hb q hd) r
theorem W.bipush (A : W l Z n0 y bytes maxl ret R G h pc Ls St C S) {i : Int} {z : Int32} (hd : decode bytes pc = .ok (.bipush i, 2)) (hz : (Int8.ofInt i).toInt32 = z) (hp : pc + 2 = pc') : W l Z n0 y bytes maxl ret R G h pc' Ls (.int z :: St) C S := by
  subst hp hz; exact A.step fun X hx _ _ q _ r => XS.bipush X.here hx rfl (hb q hd) r
theorem W.sipush (A : W l Z n0 y bytes maxl ret R G h pc Ls St C S) {i : Int} {z : Int32} (hd : decode bytes pc = .ok (.sipush i, 3)) (hz : (Int16.ofInt i).toInt32 = z) (hp : pc + 3 = pc') : W l Z n0 y bytes maxl ret R G h pc' Ls (.int z :: St) C S := by
  subst hp hz; exact A.step fun X hx _ _ q _ r => XS.sipush X.here hx rfl (hb q hd) r
theorem W.lconst (A : W l Z n0 y bytes maxl ret R G h pc Ls St C S) {k : Fin 2} {z : Int64} (hd : decode bytes pc = .ok (.lconst k, 1)) (hz : Int64.ofNat k.val = z) (hp : pc + 1 = pc') : W l Z n0 y bytes maxl ret R G h pc' Ls (.long z :: St) C S := by
  subst hp hz; exact A.step fun X hx _ _ q _ r => XS.lconst X.here hx rfl (hb q hd) r
theorem W.aconstNull (A : W l Z n0 y bytes maxl ret R G h pc Ls St C S) (hd : decode bytes pc = .ok (.aconst_null, 1)) (hp : pc + 1 = pc') : W l Z n0 y bytes maxl ret R G h pc' Ls (.null :: St) C S := by
  subst hp; exact A.step fun X hx _ _ q _ r => XS.aconstNull X.here hx rfl (hb q hd) r
theorem W.ldc (A : W l Z n0 y bytes maxl ret R G h pc Ls St C S) {i : Nat} {z : Int32} (hd : decode bytes pc = .ok (.ldc i, 2)) (w : (Jvm.Cond.constant y.cls i z).before a0 Z = true) (hp : pc + 2 = pc') : W l Z n0 y bytes maxl ret R G h pc' Ls (.int z :: St) C S := by
  subst hp; exact A.step fun X hx hZ hown q _ r => X.ldcInt hx hown (mvT hZ w) (g := mkF _ pc Ls St) rfl (hb q hd) _ r
theorem W.ldcW (A : W l Z n0 y bytes maxl ret R G h pc Ls St C S) {i : Nat} {z : Int32} (hd : decode bytes pc = .ok (.ldc_w i, 3)) (w : (Jvm.Cond.constant y.cls i z).before a0 Z = true) (hp : pc + 3 = pc') : W l Z n0 y bytes maxl ret R G h pc' Ls (.int z :: St) C S := by
  subst hp; exact A.step fun X hx hZ hown q _ r => X.ldcwInt hx hown (mvT hZ w) (g := mkF _ pc Ls St) rfl (hb q hd) _ r
theorem W.ldc2 (A : W l Z n0 y bytes maxl ret R G h pc Ls St C S) {i : Nat} {z : Int64} (hd : decode bytes pc = .ok (.ldc2_w i, 3)) (w : (Jvm.Cond.constantLong y.cls i z).before a0 Z = true) (hp : pc + 3 = pc') : W l Z n0 y bytes maxl ret R G h pc' Ls (.long z :: St) C S := by
  subst hp; exact A.step fun X hx hZ hown q _ r => X.ldc2Long hx hown (mvT hZ w) (g := mkF _ pc Ls St) rfl (hb q hd) _ r
theorem W.iinc (A : W l Z n0 y bytes maxl ret R G h pc Ls St C S) {k : Nat} {i : Int} {v z : Int32} {Ls' : Array Slot} (hd : decode bytes pc = .ok (.iinc k i, 3)) (hl : Ls[k]? = some (.val (.int v))) (hz : v + Int32.ofInt i = z) (hl' : storeLocals Ls k (.int z) = some Ls') (hp : pc + 3 = pc') : W l Z n0 y bytes maxl ret R G h pc' Ls' St C S := by
  subst hp hz; exact A.step fun X hx _ _ q _ r => XS.iinc X.here hx rfl (hb q hd) hl hl' r
theorem W.iadd {x z : Int32} (A : W l Z n0 y bytes maxl ret R G h pc Ls (.int z :: .int x :: St) C S) (hd : decode bytes pc = .ok (.iadd, 1)) (hp : pc + 1 = pc') : W l Z n0 y bytes maxl ret R G h pc' Ls (.int (x + z) :: St) C S := by
  subst hp; exact A.step fun X hx _ _ q _ r => XS.iadd X.here hx rfl (hb q hd) rfl r
theorem W.ladd {x z : Int64} (A : W l Z n0 y bytes maxl ret R G h pc Ls (.long z :: .long x :: St) C S) (hd : decode bytes pc = .ok (.ladd, 1)) (hp : pc + 1 = pc') : W l Z n0 y bytes maxl ret R G h pc' Ls (.long (x + z) :: St) C S := by
  subst hp; exact A.step fun X hx _ _ q _ r => XS.ladd X.here hx rfl (hb q hd) rfl r
theorem W.isub {x z : Int32} (A : W l Z n0 y bytes maxl ret R G h pc Ls (.int z :: .int x :: St) C S) (hd : decode bytes pc = .ok (.isub, 1)) (hp : pc + 1 = pc') : W l Z n0 y bytes maxl ret R G h pc' Ls (.int (x - z) :: St) C S := by
  subst hp; exact A.step fun X hx _ _ q _ r => XS.isub X.here hx rfl (hb q hd) rfl r
theorem W.lsub {x z : Int64} (A : W l Z n0 y bytes maxl ret R G h pc Ls (.long z :: .long x :: St) C S) (hd : decode bytes pc = .ok (.lsub, 1)) (hp : pc + 1 = pc') : W l Z n0 y bytes maxl ret R G h pc' Ls (.long (x - z) :: St) C S := by
  subst hp; exact A.step fun X hx _ _ q _ r => XS.lsub X.here hx rfl (hb q hd) rfl r
theorem W.imul {x z : Int32} (A : W l Z n0 y bytes maxl ret R G h pc Ls (.int z :: .int x :: St) C S) (hd : decode bytes pc = .ok (.imul, 1)) (hp : pc + 1 = pc') : W l Z n0 y bytes maxl ret R G h pc' Ls (.int (x * z) :: St) C S := by
  subst hp; exact A.step fun X hx _ _ q _ r => XS.imul X.here hx rfl (hb q hd) rfl r
theorem W.lmul {x z : Int64} (A : W l Z n0 y bytes maxl ret R G h pc Ls (.long z :: .long x :: St) C S) (hd : decode bytes pc = .ok (.lmul, 1)) (hp : pc + 1 = pc') : W l Z n0 y bytes maxl ret R G h pc' Ls (.long (x * z) :: St) C S := by
  subst hp; exact A.step fun X hx _ _ q _ r => XS.lmul X.here hx rfl (hb q hd) rfl r
theorem W.iand {x z : Int32} (A : W l Z n0 y bytes maxl ret R G h pc Ls (.int z :: .int x :: St) C S) (hd : decode bytes pc = .ok (.iand, 1)) (hp : pc + 1 = pc') : W l Z n0 y bytes maxl ret R G h pc' Ls (.int (x &&& z) :: St) C S := by
  subst hp; exact A.step fun X hx _ _ q _ r => XS.iand X.here hx rfl (hb q hd) rfl r
theorem W.land {x z : Int64} (A : W l Z n0 y bytes maxl ret R G h pc Ls (.long z :: .long x :: St) C S) (hd : decode bytes pc = .ok (.land, 1)) (hp : pc + 1 = pc') : W l Z n0 y bytes maxl ret R G h pc' Ls (.long (x &&& z) :: St) C S := by
  subst hp; exact A.step fun X hx _ _ q _ r => XS.land X.here hx rfl (hb q hd) rfl r
theorem W.ior {x z : Int32} (A : W l Z n0 y bytes maxl ret R G h pc Ls (.int z :: .int x :: St) C S) (hd : decode bytes pc = .ok (.ior, 1)) (hp : pc + 1 = pc') : W l Z n0 y bytes maxl ret R G h pc' Ls (.int (x ||| z) :: St) C S := by
  subst hp; exact A.step fun X hx _ _ q _ r => XS.ior X.here hx rfl (hb q hd) rfl r
theorem W.lor {x z : Int64} (A : W l Z n0 y bytes maxl ret R G h pc Ls (.long z :: .long x :: St) C S) (hd : decode bytes pc = .ok (.lor, 1)) (hp : pc + 1 = pc') : W l Z n0 y bytes maxl ret R G h pc' Ls (.long (x ||| z) :: St) C S := by
  subst hp; exact A.step fun X hx _ _ q _ r => XS.lor X.here hx rfl (hb q hd) rfl r
theorem W.ixor {x z : Int32} (A : W l Z n0 y bytes maxl ret R G h pc Ls (.int z :: .int x :: St) C S) (hd : decode bytes pc = .ok (.ixor, 1)) (hp : pc + 1 = pc') : W l Z n0 y bytes maxl ret R G h pc' Ls (.int (x ^^^ z) :: St) C S := by
  subst hp; exact A.step fun X hx _ _ q _ r => XS.ixor X.here hx rfl (hb q hd) rfl r
theorem W.lxor {x z : Int64} (A : W l Z n0 y bytes maxl ret R G h pc Ls (.long z :: .long x :: St) C S) (hd : decode bytes pc = .ok (.lxor, 1)) (hp : pc + 1 = pc') : W l Z n0 y bytes maxl ret R G h pc' Ls (.long (x ^^^ z) :: St) C S := by
  subst hp; exact A.step fun X hx _ _ q _ r => XS.lxor X.here hx rfl (hb q hd) rfl r
theorem W.ineg {x : Int32} (A : W l Z n0 y bytes maxl ret R G h pc Ls (.int x :: St) C S) (hd : decode bytes pc = .ok (.ineg, 1)) (hp : pc + 1 = pc') : W l Z n0 y bytes maxl ret R G h pc' Ls (.int (-x) :: St) C S := by
  subst hp; exact A.step fun X hx _ _ q _ r => XS.ineg X.here hx rfl (hb q hd) rfl r
theorem W.lneg {x : Int64} (A : W l Z n0 y bytes maxl ret R G h pc Ls (.long x :: St) C S) (hd : decode bytes pc = .ok (.lneg, 1)) (hp : pc + 1 = pc') : W l Z n0 y bytes maxl ret R G h pc' Ls (.long (-x) :: St) C S := by
  subst hp; exact A.step fun X hx _ _ q _ r => XS.lneg X.here hx rfl (hb q hd) rfl r
theorem W.ishl {x z : Int32} (A : W l Z n0 y bytes maxl ret R G h pc Ls (.int z :: .int x :: St) C S) (hd : decode bytes pc = .ok (.ishl, 1)) (hp : pc + 1 = pc') : W l Z n0 y bytes maxl ret R G h pc' Ls (.int (x <<< (z &&& 31)) :: St) C S := by
  subst hp; exact A.step fun X hx _ _ q _ r => XS.ishl X.here hx rfl (hb q hd) rfl r
theorem W.ishr {x z : Int32} (A : W l Z n0 y bytes maxl ret R G h pc Ls (.int z :: .int x :: St) C S) (hd : decode bytes pc = .ok (.ishr, 1)) (hp : pc + 1 = pc') : W l Z n0 y bytes maxl ret R G h pc' Ls (.int (x >>> (z &&& 31)) :: St) C S := by
  subst hp; exact A.step fun X hx _ _ q _ r => XS.ishr X.here hx rfl (hb q hd) rfl r
theorem W.iushr {x z : Int32} (A : W l Z n0 y bytes maxl ret R G h pc Ls (.int z :: .int x :: St) C S) (hd : decode bytes pc = .ok (.iushr, 1)) (hp : pc + 1 = pc') : W l Z n0 y bytes maxl ret R G h pc' Ls (.int ((x.toUInt32 >>> (z &&& 31).toUInt32).toInt32) :: St) C S := by
  subst hp; exact A.step fun X hx _ _ q _ r => XS.iushr X.here hx rfl (hb q hd) rfl r
theorem W.lshl {x : Int64} {z : Int32} (A : W l Z n0 y bytes maxl ret R G h pc Ls (.int z :: .long x :: St) C S) (hd : decode bytes pc = .ok (.lshl, 1)) (hp : pc + 1 = pc') : W l Z n0 y bytes maxl ret R G h pc' Ls (.long (x <<< (z &&& 0x3f).toInt64) :: St) C S := by
  subst hp; exact A.step fun X hx _ _ q _ r => XS.lshl X.here hx rfl (hb q hd) rfl r
theorem W.lshr {x : Int64} {z : Int32} (A : W l Z n0 y bytes maxl ret R G h pc Ls (.int z :: .long x :: St) C S) (hd : decode bytes pc = .ok (.lshr, 1)) (hp : pc + 1 = pc') : W l Z n0 y bytes maxl ret R G h pc' Ls (.long (x >>> (z &&& 0x3f).toInt64) :: St) C S := by
  subst hp; exact A.step fun X hx _ _ q _ r => XS.lshr X.here hx rfl (hb q hd) rfl r
theorem W.lushr {x : Int64} {z : Int32} (A : W l Z n0 y bytes maxl ret R G h pc Ls (.int z :: .long x :: St) C S) (hd : decode bytes pc = .ok (.lushr, 1)) (hp : pc + 1 = pc') : W l Z n0 y bytes maxl ret R G h pc' Ls (.long ((x.toUInt64 >>> (z &&& 0x3f).toInt64.toUInt64).toInt64) :: St) C S := by
  subst hp; exact A.step fun X hx _ _ q _ r => XS.lushr X.here hx rfl (hb q hd) rfl r
theorem W.i2l {x : Int32} (A : W l Z n0 y bytes maxl ret R G h pc Ls (.int x :: St) C S) (hd : decode bytes pc = .ok (.i2l, 1)) (hp : pc + 1 = pc') : W l Z n0 y bytes maxl ret R G h pc' Ls (.long x.toInt64 :: St) C S := by
  subst hp; exact A.step fun X hx _ _ q _ r => XS.i2l X.here hx rfl (hb q hd) rfl r
theorem W.l2i {x : Int64} (A : W l Z n0 y bytes maxl ret R G h pc Ls (.long x :: St) C S) (hd : decode bytes pc = .ok (.l2i, 1)) (hp : pc + 1 = pc') : W l Z n0 y bytes maxl ret R G h pc' Ls (.int x.toInt32 :: St) C S := by
  subst hp; exact A.step fun X hx _ _ q _ r => XS.l2i X.here hx rfl (hb q hd) rfl r
theorem W.i2b {x : Int32} (A : W l Z n0 y bytes maxl ret R G h pc Ls (.int x :: St) C S) (hd : decode bytes pc = .ok (.i2b, 1)) (hp : pc + 1 = pc') : W l Z n0 y bytes maxl ret R G h pc' Ls (.int x.toInt8.toInt32 :: St) C S := by
  subst hp; exact A.step fun X hx _ _ q _ r => XS.i2b X.here hx rfl (hb q hd) rfl r
theorem W.i2s {x : Int32} (A : W l Z n0 y bytes maxl ret R G h pc Ls (.int x :: St) C S) (hd : decode bytes pc = .ok (.i2s, 1)) (hp : pc + 1 = pc') : W l Z n0 y bytes maxl ret R G h pc' Ls (.int x.toInt16.toInt32 :: St) C S := by
  subst hp; exact A.step fun X hx _ _ q _ r => XS.i2s X.here hx rfl (hb q hd) rfl r
theorem W.i2c {x : Int32} (A : W l Z n0 y bytes maxl ret R G h pc Ls (.int x :: St) C S) (hd : decode bytes pc = .ok (.i2c, 1)) (hp : pc + 1 = pc') : W l Z n0 y bytes maxl ret R G h pc' Ls (.int x.toUInt32.toUInt16.toUInt32.toInt32 :: St) C S := by
  subst hp; exact A.step fun X hx _ _ q _ r => XS.i2c X.here hx rfl (hb q hd) rfl r
theorem W.lcmp {x z : Int64} (A : W l Z n0 y bytes maxl ret R G h pc Ls (.long z :: .long x :: St) C S) (hd : decode bytes pc = .ok (.lcmp, 1)) (hp : pc + 1 = pc') : W l Z n0 y bytes maxl ret R G h pc' Ls (.int (lcmpW x z) :: St) C S := by
  subst hp; exact A.step fun X hx _ _ q _ r => XS.lcmp X.here hx rfl (hb q hd) rfl r
theorem W.idiv {x z : Int32} (A : W l Z n0 y bytes maxl ret R G h pc Ls (.int z :: .int x :: St) C S) (hd : decode bytes pc = .ok (.idiv, 1)) (hz : z ≠ 0) (hp : pc + 1 = pc') : W l Z n0 y bytes maxl ret R G h pc' Ls (.int (x / z) :: St) C S := by
  subst hp; exact A.step fun X hx _ _ q _ r => XS.idiv X.here hx rfl (hb q hd) rfl hz r
theorem W.irem {x z : Int32} (A : W l Z n0 y bytes maxl ret R G h pc Ls (.int z :: .int x :: St) C S) (hd : decode bytes pc = .ok (.irem, 1)) (hz : z ≠ 0) (hp : pc + 1 = pc') : W l Z n0 y bytes maxl ret R G h pc' Ls (.int (x % z) :: St) C S := by
  subst hp; exact A.step fun X hx _ _ q _ r => iremM (g := mkF _ _ _ _) X hx rfl (hb q hd) rfl hz r
theorem W.ldiv {x z : Int64} (A : W l Z n0 y bytes maxl ret R G h pc Ls (.long z :: .long x :: St) C S) (hd : decode bytes pc = .ok (.ldiv, 1)) (hz : z ≠ 0) (hp : pc + 1 = pc') : W l Z n0 y bytes maxl ret R G h pc' Ls (.long (x / z) :: St) C S := by
  subst hp; exact A.step fun X hx _ _ q _ r => XS.ldiv X.here hx rfl (hb q hd) rfl hz r
theorem W.lrem {x z : Int64} (A : W l Z n0 y bytes maxl ret R G h pc Ls (.long z :: .long x :: St) C S) (hd : decode bytes pc = .ok (.lrem, 1)) (hz : z ≠ 0) (hp : pc + 1 = pc') : W l Z n0 y bytes maxl ret R G h pc' Ls (.long (x % z) :: St) C S := by
  subst hp; exact A.step fun X hx _ _ q _ r => XS.lrem X.here hx rfl (hb q hd) rfl hz (by rw [lrem_mod]; exact r)
theorem W.dup {v : Value} (A : W l Z n0 y bytes maxl ret R G h pc Ls (v :: St) C S) (hd : decode bytes pc = .ok (.dup, 1)) (hc : v.category = 1) (hp : pc + 1 = pc') : W l Z n0 y bytes maxl ret R G h pc' Ls (v :: v :: St) C S := by
  subst hp; exact A.step fun X hx _ _ q _ r => XS.dup X.here hx rfl (hb q hd) rfl hc r
theorem W.pop {v : Value} (A : W l Z n0 y bytes maxl ret R G h pc Ls (v :: St) C S) (hd : decode bytes pc = .ok (.pop, 1)) (hc : v.category = 1) (hp : pc + 1 = pc') : W l Z n0 y bytes maxl ret R G h pc' Ls St C S := by
  subst hp; exact A.step fun X hx _ _ q _ r => XS.pop X.here hx rfl (hb q hd) rfl hc r
theorem W.dupX1 {v w : Value} (A : W l Z n0 y bytes maxl ret R G h pc Ls (v :: w :: St) C S) (hd : decode bytes pc = .ok (.dup_x1, 1)) (hc : v.category = 1) (hc' : w.category = 1) (hp : pc + 1 = pc') : W l Z n0 y bytes maxl ret R G h pc' Ls (v :: w :: v :: St) C S := by
  subst hp; exact A.step fun X hx _ _ q _ r => XS.dupX1 X.here hx rfl (hb q hd) rfl hc hc' r
theorem W.dup2 {v w : Value} (A : W l Z n0 y bytes maxl ret R G h pc Ls (v :: w :: St) C S) (hd : decode bytes pc = .ok (.dup2, 1)) (hc : v.category = 1) (hc' : w.category = 1) (hp : pc + 1 = pc') : W l Z n0 y bytes maxl ret R G h pc' Ls (v :: w :: v :: w :: St) C S := by
  subst hp; exact A.step fun X hx _ _ q _ r => XT.dup2 X.here hx rfl (hb q hd) rfl hc hc' r
theorem W.dup2L {x : Int64} (A : W l Z n0 y bytes maxl ret R G h pc Ls (.long x :: St) C S) (hd : decode bytes pc = .ok (.dup2, 1)) (hp : pc + 1 = pc') : W l Z n0 y bytes maxl ret R G h pc' Ls (.long x :: .long x :: St) C S := by
  subst hp; exact A.step fun X hx _ _ q _ r => XT.dup2L X.here hx rfl (hb q hd) rfl r
theorem W.goto (A : W l Z n0 y bytes maxl ret R G h pc Ls St C S) {o : Int} (hd : decode bytes pc = .ok (.goto o, 3)) (ho : 0 ≤ (pc : Int) + o) (hp : ((pc : Int) + o).toNat = pc') : W l Z n0 y bytes maxl ret R G h pc' Ls St C S :=
  A.step fun X hx _ _ q _ r => XS.goto X.here hx rfl rfl (hb q hd) ho hp r
theorem W.ifYes {x : Int32} (A : W l Z n0 y bytes maxl ret R G h pc Ls (.int x :: St) C S) {cd : ClassFile.Cond} {o : Int} (hd : decode bytes pc = .ok (.ifCond cd o, 3)) (hc : if_icmp.holds cd x 0 = true) (ho : 0 ≤ (pc : Int) + o) (hp : ((pc : Int) + o).toNat = pc') : W l Z n0 y bytes maxl ret R G h pc' Ls St C S :=
  A.step fun X hx _ _ q _ r => XS.ifYes X.here hx rfl rfl (hb q hd) rfl ((if0 _ _).trans hc) ho hp r
theorem W.ifNo {x : Int32} (A : W l Z n0 y bytes maxl ret R G h pc Ls (.int x :: St) C S) {cd : ClassFile.Cond} {o : Int} (hd : decode bytes pc = .ok (.ifCond cd o, 3)) (hc : if_icmp.holds cd x 0 = false) (hp : pc + 3 = pc') : W l Z n0 y bytes maxl ret R G h pc' Ls St C S := by
  subst hp; exact A.step fun X hx _ _ q _ r => XS.ifNo X.here hx rfl (hb q hd) rfl ((if0 _ _).trans hc) r
theorem W.icmpYes {x z : Int32} (A : W l Z n0 y bytes maxl ret R G h pc Ls (.int z :: .int x :: St) C S) {cd : ClassFile.Cond} {o : Int} (hd : decode bytes pc = .ok (.if_icmp cd o, 3)) (hc : if_icmp.holds cd x z = true) (ho : 0 ≤ (pc : Int) + o) (hp : ((pc : Int) + o).toNat = pc') : W l Z n0 y bytes maxl ret R G h pc' Ls St C S :=
  A.step fun X hx _ _ q _ r => XS.icmpYes X.here hx rfl rfl (hb q hd) rfl hc ho hp r
theorem W.icmpNo {x z : Int32} (A : W l Z n0 y bytes maxl ret R G h pc Ls (.int z :: .int x :: St) C S) {cd : ClassFile.Cond} {o : Int} (hd : decode bytes pc = .ok (.if_icmp cd o, 3)) (hc : if_icmp.holds cd x z = false) (hp : pc + 3 = pc') : W l Z n0 y bytes maxl ret R G h pc' Ls St C S := by
  subst hp; exact A.step fun X hx _ _ q _ r => XS.icmpNo X.here hx rfl (hb q hd) rfl hc r
theorem W.ifnullYes (A : W l Z n0 y bytes maxl ret R G h pc Ls (.null :: St) C S) {o : Int} (hd : decode bytes pc = .ok (.ifnull o, 3)) (ho : 0 ≤ (pc : Int) + o) (hp : ((pc : Int) + o).toNat = pc') : W l Z n0 y bytes maxl ret R G h pc' Ls St C S :=
  A.step fun X hx _ _ q _ r => XS.ifnullYes X.here hx rfl rfl (hb q hd) rfl ho hp r
theorem W.ifnullNo {a : Addr} (A : W l Z n0 y bytes maxl ret R G h pc Ls (.ref a :: St) C S) {o : Int} (hd : decode bytes pc = .ok (.ifnull o, 3)) (hp : pc + 3 = pc') : W l Z n0 y bytes maxl ret R G h pc' Ls St C S := by
  subst hp; exact A.step fun X hx _ _ q _ r => XS.ifnullNo X.here hx rfl (hb q hd) rfl r
theorem W.ifnonnullNo (A : W l Z n0 y bytes maxl ret R G h pc Ls (.null :: St) C S) {o : Int} (hd : decode bytes pc = .ok (.ifnonnull o, 3)) (hp : pc + 3 = pc') : W l Z n0 y bytes maxl ret R G h pc' Ls St C S := by
  subst hp; exact A.step fun X hx _ _ q _ r => XS.ifnonnullNo X.here hx rfl (hb q hd) rfl r
theorem W.ifnonnullYes {a : Addr} (A : W l Z n0 y bytes maxl ret R G h pc Ls (.ref a :: St) C S) {o : Int} (hd : decode bytes pc = .ok (.ifnonnull o, 3)) (ho : 0 ≤ (pc : Int) + o) (hp : ((pc : Int) + o).toNat = pc') : W l Z n0 y bytes maxl ret R G h pc' Ls St C S :=
  A.step fun X hx _ _ q _ r => XS.ifnonnullYes X.here hx rfl rfl (hb q hd) rfl ho hp r
/-! C. the returns -/
theorem W.fin {v : Option Value} (A : W l Z n0 y bytes maxl ret R G h pc Ls St C S) (hC : C ≤ R.cells) (hS : S ≤ R.slots) (hv : ret = none → v = none) (hQ : Q v h)
    (f : ∀ {p : Program} {e : Env} {s : State} {m : MethodId} {args : Array Value} {below : List Frame} {meth : Method} {c : Code} {T : State} {locs : List Loc} {fs : List Frame}, Stand p l e R s m args below meth c T locs C S → p.tables.exec = Jvm.exec → c.code = bytes → meth.sig.returnType = ret → (∀ (f : JFrame) (acts : List Action), f.method = m → f.locked = none → f.entered = [] → (doReturn e (T.setTop f) acts v).1 = T.setFrames fs) → Steps p.tables e below (T.setTop (mkF m pc Ls St)) (T.setFrames fs)) : Gl R n0 G Q := by
  obtain ⟨p, e, s, m, args, below, meth, c, st⟩ := G
  obtain ⟨hx, hZ, hby, hml, hown, hnm, hrt, hlk, hn0, T, locs, X, N, eT, k⟩ := A
  obtain ⟨fs, hr, hrun, hended, hW, hsame⟩ := X.leave (v := v) (fun q => hv (hrt.symm.trans q)) hlk
  show ∃ s₂ o, _
  refine ⟨_, _, k _ (f X hx hby hrt hr), hrun, hended, v, locs, rfl, ⟨N, ?_⟩, ⟨_, rfl⟩, hW, hsame.mono hC hS⟩
  show Q v T.heap
  rw [eT]; exact hQ
theorem W.retI {z : Int32} (A : W l Z n0 y bytes maxl (some .int) R G h pc Ls (.int z :: St) C S) (hd : decode bytes pc = .ok (.ireturn, 1)) (hC : C ≤ R.cells) (hS : S ≤ R.slots) (hQ : Q (some (.int z)) h) : Gl R n0 G Q :=
  A.fin hC hS (fun q => nomatch q) hQ fun X hx q hret hr => retOut X hx hret (t := .int) rfl (Or.inl ⟨rfl, Or.inl rfl, z, rfl⟩) (hb q hd) hr
theorem W.retN {z z' : Int32} {t : FieldType} (A : W l Z n0 y bytes maxl (some t) R G h pc Ls (.int z :: St) C S) (hd : decode bytes pc = .ok (.ireturn, 1)) (hC : C ≤ R.cells) (hS : S ≤ R.slots) (ht : t = .boolean ∨ t = .byte ∨ t = .char ∨ t = .short) (hz : nar t z = z') (hQ : Q (some (.int z')) h) : Gl R n0 G Q := by
  subst hz; exact A.fin hC hS (fun q => nomatch q) hQ fun X hx q hret hr => RoadKit.retN X hx hret ht (hb q hd) hr
theorem W.retJ {z : Int64} (A : W l Z n0 y bytes maxl (some .long) R G h pc Ls (.long z :: St) C S) (hd : decode bytes pc = .ok (.lreturn, 1)) (hC : C ≤ R.cells) (hS : S ≤ R.slots) (hQ : Q (some (.long z)) h) : Gl R n0 G Q :=
  A.fin hC hS (fun q => nomatch q) hQ fun X hx q hret hr => retOut X hx hret (t := .long) rfl (Or.inr (Or.inl ⟨rfl, rfl, z, rfl⟩)) (hb q hd) hr
theorem W.retA {v : Value} {t : FieldType} (A : W l Z n0 y bytes maxl (some t) R G h pc Ls (v :: St) C S) (hd : decode bytes pc = .ok (.areturn, 1)) (hC : C ≤ R.cells) (hS : S ≤ R.slots) (ht : t.isReference = true) (hv : v.isRef = true) (hn : narrow t v = v) (hQ : Q (some v) h) : Gl R n0 G Q :=
  A.fin hC hS (fun q => nomatch q) hQ fun X hx q hret hr => retOut X hx hret (t := t) hn (Or.inr (Or.inr (Or.inr (Or.inr ⟨rfl, ht, hv⟩)))) (hb q hd) hr
theorem W.retV (A : W l Z n0 y bytes maxl none R G h pc Ls [] C S) (hd : decode bytes pc = .ok (.return_, 1)) (hC : C ≤ R.cells) (hS : S ≤ R.slots) (hQ : Q none h) : Gl R n0 G Q :=
  A.fin hC hS (fun _ => rfl) hQ fun X hx q hret hr => X.returnOut hx hret (hb q hd) hr
/-! D. calls -/
theorem W.callS (A : W l Z n0 y bytes maxl ret R G h pc Ls St C S) {y' : MethodName} {bytes' : ByteArray} {maxl' : Nat} {ret' : Option FieldType} {R' : Room} {as : Array Value} {idx : Nat} {argsL rest : List Value} {ps : List FieldType} {rr : Option FieldType} (hd : decode bytes pc = .ok (.invokestatic idx, 3))
    (w1 : (Jvm.Cond.methodLink y.cls idx y').before a0 Z = true) (w2 : (Jvm.Cond.static y').before a0 Z = true) (w3 : (Jvm.Cond.initialized y'.cls).before a0 Z = true) (w4 : (Jvm.Cond.code y' bytes' maxl' ret').before a0 Z = true) (hM : Ctr l Z n0 y' bytes' maxl' ret' [] R' as h Q) (has : argsL.toArray = as) (hs : St = argsL.reverse ++ rest)
    (hpd : parseMethodDescriptor y'.desc = some ⟨ps, rr⟩) (hlen : argsL.length = ps.length) (hsz : Ls.size = maxl) (hy : y'.cls ≠ "java/lang/invoke/MethodHandle" ∧ y'.cls ≠ "java/lang/invoke/VarHandle") (hf : R'.frames + 1 ≤ R.frames) (hlo : (rest.map fun v => v.category).sum + (maxl' + 11) + R'.locals ≤ R.locals) (hC : C + R'.cells ≤ R.cells) (hS : S + R'.slots ≤ R.slots) (hC' : C + R'.cells = C') (hS' : S + R'.slots = S') (hp : pc + 3 = pc') :
    ∃ v h', Q v h' ∧ W l Z n0 y bytes maxl ret R G h' pc' Ls (v.toList ++ rest) C' S' := by
  subst hp hC' hS' has
  obtain ⟨p, e, s, m, args, below, meth, c, st⟩ := G
  obtain ⟨hx, hZ, hby, hml, hown, hnm, hrt, hlk, hn0, T, locs, X, N, eT, k⟩ := A
  obtain ⟨v, _, ⟨T', L', k', n'⟩, -, X', ⟨Lc, hQ, l1, y1, z1⟩, st'⟩ := Jvm.LawKit.callS X hx (y := y') hown (mvT hZ w1) (mvT hZ w2) (mvT hZ w3) (mvT hZ w4) hy (backOf (Q := fun v h L => Fr n0 L ∧ Q v h) (W := (rest.map fun v => v.category).sum) hM hZ w4 w3 hf hlo) (g := mkF m pc Ls St) rfl (by rw [hml]; exact hsz) (argsL := argsL) (rest := rest) (lenOf hpd hlen) hs (by show 2 * 0 + _ ≤ _; omega) (hb hby hd) (fun _ _ => ⟨rfl, eT, hC, hS⟩)
  dsimp only [Pt.U, Pt.locs, Pt.cells, Pt.slots] at X' l1 y1 z1 st' hQ
  subst l1 y1 z1
  exact ⟨v, T'.heap, hQ.2, W.mk hx hZ hby hml hown hnm hrt hlk hn0 X' (N.app hQ.1) rfl (fun t q => k t (st' t q))⟩
theorem W.callI (A : W l Z n0 y bytes maxl ret R G h pc Ls St C S) {a : Addr} {y' : MethodName} {bytes' : ByteArray} {maxl' : Nat} {R' : Room} {as : Array Value} {idx : Nat} {argsL rest : List Value} {ps : List FieldType} {rr : Option FieldType} (hd : decode bytes pc = .ok (.invokespecial idx, 3)) (hy1 : y'.name = "<init>")
    (w1 : (Jvm.Cond.methodLink y.cls idx y').before a0 Z = true) (w2 : (Jvm.Cond.instanceMethod y').before a0 Z = true) (w3 : (Jvm.Cond.initialized y'.cls).before a0 Z = true) (w4 : (Jvm.Cond.code y' bytes' maxl' none).before a0 Z = true) (hM : Ctr l Z n0 y' bytes' maxl' none [] R' as h Q) (has : (.ref a :: argsL).toArray = as) (hs : St = argsL.reverse ++ .ref a :: rest)
    (hpd : parseMethodDescriptor y'.desc = some ⟨ps, rr⟩) (hlen : argsL.length = ps.length) (hsz : Ls.size = maxl) (hy : y'.cls ≠ "java/lang/invoke/MethodHandle" ∧ y'.cls ≠ "java/lang/invoke/VarHandle") (hf : R'.frames + 1 ≤ R.frames) (hlo : (rest.map fun v => v.category).sum + (maxl' + 11) + R'.locals ≤ R.locals) (hC : C + R'.cells ≤ R.cells) (hS : S + R'.slots ≤ R.slots) (hC' : C + R'.cells = C') (hS' : S + R'.slots = S') (hp : pc + 3 = pc') :
    ∃ v h', Q v h' ∧ W l Z n0 y bytes maxl ret R G h' pc' Ls (v.toList ++ rest) C' S' := by
  subst hp hC' hS' has
  obtain ⟨p, e, s, m, args, below, meth, c, st⟩ := G
  obtain ⟨hx, hZ, hby, hml, hown, hnm, hrt, hlk, hn0, T, locs, X, N, eT, k⟩ := A
  obtain ⟨v, _, ⟨T', L', k', n'⟩, -, X', ⟨Lc, hQ, l1, y1, z1⟩, st'⟩ := X.specialBack hx (y := y') hy1 hown (mvT hZ w1) (mvT hZ w2) (mvT hZ w4) hy (backOf (Q := fun v h L => Fr n0 L ∧ Q v h) (W := (rest.map fun v => v.category).sum) hM hZ w4 w3 hf hlo) (g := mkF m pc Ls St) rfl (by rw [hml]; exact hsz) (Steps.refl _) (a := a) (argsL := argsL) (rest := rest) (lenOf hpd hlen) hs (by show 2 * 0 + _ ≤ _; omega) (hb hby hd) (fun _ _ => ⟨rfl, eT, hC, hS⟩)
  dsimp only [Pt.U, Pt.locs, Pt.cells, Pt.slots] at X' l1 y1 z1 st' hQ
  subst l1 y1 z1
  exact ⟨v, T'.heap, hQ.2, W.mk hx hZ hby hml hown hnm hrt hlk hn0 X' (N.app hQ.1) rfl (fun t q => k t (st'.trans q))⟩
theorem W.callV (A : W l Z n0 y bytes maxl ret R G h pc Ls St C S) {a : Addr} {K : String} {y' z' : MethodName} {bytes' : ByteArray} {maxl' : Nat} {ret' : Option FieldType} {R' : Room} {as : Array Value} {idx : Nat} {argsL rest : List Value} {ps : List FieldType} {rr : Option FieldType} (hd : decode bytes pc = .ok (.invokevirtual idx, 3)) (E : Exa Z h a K)
    (w1 : (Jvm.Cond.methodLink y.cls idx y').before a0 Z = true) (wd : (Jvm.Cond.declares y').before a0 Z = true) (hnf : ∀ {s : State}, Z.Warmed39 s.vm → NotFace s y') (ws : (Jvm.Cond.selects K y' z').before a0 Z = true) (w2 : (Jvm.Cond.instanceMethod z').before a0 Z = true) (w3 : (Jvm.Cond.initialized z'.cls).before a0 Z = true) (w4 : (Jvm.Cond.code z' bytes' maxl' ret').before a0 Z = true) (hM : Ctr l Z n0 z' bytes' maxl' ret' [] R' as h Q) (has : (.ref a :: argsL).toArray = as) (hs : St = argsL.reverse ++ .ref a :: rest)
    (hpd : parseMethodDescriptor y'.desc = some ⟨ps, rr⟩) (hlen : argsL.length = ps.length) (hsz : Ls.size = maxl) (hy : y'.cls ≠ "java/lang/invoke/MethodHandle" ∧ y'.cls ≠ "java/lang/invoke/VarHandle") (hf : R'.frames + 1 ≤ R.frames) (hlo : (rest.map fun v => v.category).sum + (maxl' + 11) + R'.locals ≤ R.locals) (hC : C + R'.cells ≤ R.cells) (hS : S + R'.slots ≤ R.slots) (hC' : C + R'.cells = C') (hS' : S + R'.slots = S') (hp : pc + 3 = pc') :
    ∃ v h', Q v h' ∧ W l Z n0 y bytes maxl ret R G h' pc' Ls (v.toList ++ rest) C' S' := by
  subst hp hC' hS' has
  obtain ⟨p, e, s, m, args, below, meth, c, st⟩ := G
  obtain ⟨hx, hZ, hby, hml, hown, hnm, hrt, hlk, hn0, T, locs, X, N, eT, k⟩ := A
  obtain ⟨cq, kq, qa, qb, qc⟩ := isOf hZ eT E
  obtain ⟨v, _, ⟨T', L', k', n'⟩, -, X', ⟨Lc, hQ, l1, y1, z1⟩, st'⟩ := X.virtualBack hx (y := y') (z := z') hown (mvT hZ w1) (mvT hZ wd) (hnf hZ) (mvT hZ ws) (mvT hZ w2) hy (backOf (Q := fun v h L => Fr n0 L ∧ Q v h) (W := (rest.map fun v => v.category).sum) hM hZ w4 w3 hf hlo) qa qc (g := mkF m pc Ls St) rfl (by rw [hml]; exact hsz) (Steps.refl _) (argsL := argsL) (rest := rest) (lenOf hpd hlen) hs (by show 2 * 0 + _ ≤ _; omega) (hb hby hd) (fun _ _ => ⟨rfl, eT, hC, hS⟩)
  dsimp only [Pt.U, Pt.locs, Pt.cells, Pt.slots] at X' l1 y1 z1 st' hQ
  subst l1 y1 z1
  exact ⟨v, T'.heap, hQ.2, W.mk hx hZ hby hml hown hnm hrt hlk hn0 X' (N.app hQ.1) rfl (fun t q => k t (st'.trans q))⟩
theorem W.kI {P : Int32 → Heap → Prop} {rest : List Value} (q : ∃ v h', QI P v h' ∧ W l Z n0 y bytes maxl ret R G h' pc Ls (v.toList ++ rest) C S) : ∃ r h', P r h' ∧ W l Z n0 y bytes maxl ret R G h' pc Ls (.int r :: rest) C S := by
  obtain ⟨v, h', ⟨r, rfl, hP⟩, A⟩ := q; exact ⟨r, h', hP, A⟩
theorem W.kJ {P : Int64 → Heap → Prop} {rest : List Value} (q : ∃ v h', QJ P v h' ∧ W l Z n0 y bytes maxl ret R G h' pc Ls (v.toList ++ rest) C S) : ∃ r h', P r h' ∧ W l Z n0 y bytes maxl ret R G h' pc Ls (.long r :: rest) C S := by
  obtain ⟨v, h', ⟨r, rfl, hP⟩, A⟩ := q; exact ⟨r, h', hP, A⟩
theorem W.kA {P : Addr → Heap → Prop} {rest : List Value} (q : ∃ v h', QA P v h' ∧ W l Z n0 y bytes maxl ret R G h' pc Ls (v.toList ++ rest) C S) : ∃ r h', P r h' ∧ W l Z n0 y bytes maxl ret R G h' pc Ls (.ref r :: rest) C S := by
  obtain ⟨v, h', ⟨r, rfl, hP⟩, A⟩ := q; exact ⟨r, h', hP, A⟩
theorem W.kV {P : Heap → Prop} {rest : List Value} (q : ∃ v h', QV P v h' ∧ W l Z n0 y bytes maxl ret R G h' pc Ls (v.toList ++ rest) C S) : ∃ h', P h' ∧ W l Z n0 y bytes maxl ret R G h' pc Ls rest C S := by
  obtain ⟨v, h', ⟨rfl, hP⟩, A⟩ := q; exact ⟨h', hP, A⟩
end Walk
end Jvm.Pilot.@@N@@
namespace Jvm.Pilot.@@N@@
open Jvm Jvm.ClassFile Sem Op Lib Jvm.Free Jvm.Stand Jvm.LawKit Jvm.RoadKit Bundle
/-! numbers -/
theorem rng32 (x : Int32) : -2147483648 ≤ x.toInt ∧ x.toInt < 2147483648 := ⟨x.le_toInt, x.toInt_lt⟩
theorem rng64 (x : Int64) : -9223372036854775808 ≤ x.toInt ∧ x.toInt < 9223372036854775808 := ⟨x.le_toInt, x.toInt_lt⟩
theorem add32 (x y : Int32) (h1 : -2147483648 ≤ x.toInt + y.toInt) (h2 : x.toInt + y.toInt < 2147483648) : (x + y).toInt = x.toInt + y.toInt := by
  have e := c_iadd x y; have r := rng32 (x + y); omega
theorem sub32 (x y : Int32) (h1 : -2147483648 ≤ x.toInt - y.toInt) (h2 : x.toInt - y.toInt < 2147483648) : (x - y).toInt = x.toInt - y.toInt := by
  have e := c_isub x y; have r := rng32 (x - y); omega
theorem mul32 (x y : Int32) (h1 : -2147483648 ≤ x.toInt * y.toInt) (h2 : x.toInt * y.toInt < 2147483648) : (x * y).toInt = x.toInt * y.toInt := by
  have e := c_imul x y; have r := rng32 (x * y); generalize x.toInt * y.toInt = z at *; omega
theorem add64 (x y : Int64) (h1 : -9223372036854775808 ≤ x.toInt + y.toInt) (h2 : x.toInt + y.toInt < 9223372036854775808) : (x + y).toInt = x.toInt + y.toInt := by
  have e := c_ladd x y; have r := rng64 (x + y); omega
theorem sub64 (x y : Int64) (h1 : -9223372036854775808 ≤ x.toInt - y.toInt) (h2 : x.toInt - y.toInt < 9223372036854775808) : (x - y).toInt = x.toInt - y.toInt := by
  have e := c_lsub x y; have r := rng64 (x - y); omega
theorem mul64 (x y : Int64) (h1 : -9223372036854775808 ≤ x.toInt * y.toInt) (h2 : x.toInt * y.toInt < 9223372036854775808) : (x * y).toInt = x.toInt * y.toInt := by
  have e := c_lmul x y; have r := rng64 (x * y); generalize x.toInt * y.toInt = z at *; omega
theorem mulc32 (x c : Int32) (k : Int) (hc : c.toInt = k) (h1 : -2147483648 ≤ x.toInt * k) (h2 : x.toInt * k < 2147483648) : (x * c).toInt = x.toInt * k := by
  subst hc; exact mul32 x c h1 h2
theorem mulc64 (x c : Int64) (k : Int) (hc : c.toInt = k) (h1 : -9223372036854775808 ≤ x.toInt * k) (h2 : x.toInt * k < 9223372036854775808) : (x * c).toInt = x.toInt * k := by
  subst hc; exact mul64 x c h1 h2
theorem addc32 (x c : Int32) (k : Int) (hc : c.toInt = k) (h1 : -2147483648 ≤ x.toInt + k) (h2 : x.toInt + k < 2147483648) : (x + c).toInt = x.toInt + k := by
  subst hc; exact add32 x c h1 h2
theorem subc32 (x c : Int32) (k : Int) (hc : c.toInt = k) (h1 : -2147483648 ≤ x.toInt - k) (h2 : x.toInt - k < 2147483648) : (x - c).toInt = x.toInt - k := by
  subst hc; exact sub32 x c h1 h2
theorem sta_int {args : Array Value} {s : State} {C n d : String} {v : Int32} (h : (Jvm.Cond.eq (Jvm.Term.static C n d) (Jvm.Term.int v)).value args s none s [] = some true) : (Jvm.Term.static C n d).eval args s none [] s = some (.int v) := by
  obtain ⟨a, b, h1, h2, -, -⟩ := cmp_v (Or.inl h)
  cases Option.some.inj (h2.symm.trans (rfl : (Jvm.Term.int v).eval args s none [] s = some (.int v)))
  rw [h1]; cases a <;> simp [Cond.value, h1, h2] at h ⊢; exact h
theorem sta_long {args : Array Value} {s : State} {C n d : String} {v : Int64} (h : (Jvm.Cond.eq (Jvm.Term.static C n d) (Jvm.Term.long v)).value args s none s [] = some true) : (Jvm.Term.static C n d).eval args s none [] s = some (.long v) := by
  obtain ⟨a, b, h1, h2, -, -⟩ := cmp_v (Or.inl h)
  cases Option.some.inj (h2.symm.trans (rfl : (Jvm.Term.long v).eval args s none [] s = some (.long v)))
  rw [h1]; cases a <;> simp [Cond.value, h1, h2] at h ⊢; exact h
/-- (y & 0x7fffffff) % m -/
theorem pmod32 (x m : Int32) (M : Int) (hm : m.toInt = M) (hM : 0 < M) : ((x &&& (2147483647 : Int32)) % m).toInt = (x.toInt % 2147483648) % M ∧ 0 ≤ ((x &&& (2147483647 : Int32)) % m).toInt ∧ ((x &&& (2147483647 : Int32)) % m).toInt < M := by
  have e : (x &&& (2147483647 : Int32)).toInt = x.toInt % 2147483648 := c_mask x 2147483647 31 (by decide) (by decide)
  have q := (c_irem (x &&& (2147483647 : Int32)) m M hm).1 (by omega)
  have := Int.emod_nonneg (x.toInt % 2147483648) (show M ≠ 0 by omega)
  have := Int.emod_lt_of_pos (x.toInt % 2147483648) hM
  rw [q, e]; omega
/-- (x & Long.MAX_VALUE) % m -/
theorem pmod64 (x m : Int64) (M : Int) (hm : m.toInt = M) (hM : 0 < M) : 0 ≤ ((x &&& (9223372036854775807 : Int64)) % m).toInt ∧ ((x &&& (9223372036854775807 : Int64)) % m).toInt < M := by
  have e : (x &&& (9223372036854775807 : Int64)).toInt = x.toInt % 9223372036854775808 := c_maskL x 9223372036854775807 63 (by decide) (by decide)
  have q := (c_lrem (x &&& (9223372036854775807 : Int64)) m M hm).1 (by omega)
  rw [lrem_mod] at q
  have := Int.emod_nonneg (x.toInt % 9223372036854775808) (show M ≠ 0 by omega)
  have := Int.emod_lt_of_pos (x.toInt % 9223372036854775808) hM
  rw [q, e]; omega
end Jvm.Pilot.@@N@@
namespace Jvm.Pilot.@@N@@
open Jvm Jvm.ClassFile Sem Op Lib Jvm.Free Jvm.Stand Jvm.LawKit Jvm.RoadKit Bundle Jvm.Pilot.@@N@@.Jvm.D
section Heaps
variable {l : Launch} {Z : State} {n0 : Nat} {y : MethodName} {bytes : ByteArray} {maxl : Nat} {ret : Option FieldType} {R : Room} {G : Cx} {h h' : Heap} {pc pc' : Nat} {Ls : Array Slot} {St : List Value} {C S C' S' : Nat} {Q : Option Value → Heap → Prop} {a0 : Array Value} {a b : Addr}
/-- a step that moves the state and keeps the heap -/
theorem W.stepT (A : W l Z n0 y bytes maxl ret R G h pc Ls St C S) {Ls' : Array Slot} {St' : List Value}
    (f : ∀ {p : Program} {e : Env} {s : State} {m : MethodId} {args : Array Value} {below : List Frame} {meth : Method} {c : Code} {T : State} {locs : List Loc}, Stand p l e R s m args below meth c T locs C S → p.tables.exec = Jvm.exec → Z.Warmed39 s.vm → s.vm.findClass y.cls = some m.cls → c.code = bytes → c.maxLocals = maxl → T.heap = h →
      ∃ T', Stand p l e R s m args below meth c T' locs C S ∧ T'.heap = h ∧ ∀ t, Steps p.tables e below (T'.setTop (mkF m pc' Ls' St')) t → Steps p.tables e below (T.setTop (mkF m pc Ls St)) t) : W l Z n0 y bytes maxl ret R G h pc' Ls' St' C S := by
  obtain ⟨p, e, s, m, args, below, meth, c, st⟩ := G
  obtain ⟨hx, hZ, hby, hml, hown, hnm, hrt, hlk, hn0, T, locs, X, N, eT, k⟩ := A
  obtain ⟨T', X', e', st'⟩ := f X hx hZ hown hby hml eT
  exact W.mk hx hZ hby hml hown hnm hrt hlk hn0 X' N e' (fun t q => k t (st' t q))
theorem W.getF (A : W l Z n0 y bytes maxl ret R G h pc Ls (.ref a :: St) C S) {index : Nat} {R0 O n d host : String} {v : Value} (hd : decode bytes pc = .ok (.getfield index, 3)) (w : (Jvm.Cond.fieldLink y.cls index R0 n d).before a0 Z = true ∨ (Jvm.Cond.fieldLinkNest y.cls index R0 n d host).before a0 Z = true) (via : Via Z R0 O n d) (F : Fld Z h a O n d v) (hp : pc + 3 = pc') : W l Z n0 y bytes maxl ret R G h pc' Ls (v :: St) C S := by
  subst hp; exact A.stepT fun X hx hZ hown q _ eT => RoadKit.getF X hx hZ hown w via eT F (g := mkF _ _ _ _) rfl rfl (hb q hd)
theorem W.getS (A : W l Z n0 y bytes maxl ret R G h pc Ls St C S) {index : Nat} {R0 O n d host : String} {v : Value} (hd : decode bytes pc = .ok (.getstatic index, 3)) (w : (Jvm.Cond.fieldLink y.cls index R0 n d).before a0 Z = true ∨ (Jvm.Cond.fieldLinkNest y.cls index R0 n d host).before a0 Z = true) (via : Via Z R0 O n d) (F : Sta Z h O n d v) (hp : pc + 3 = pc') : W l Z n0 y bytes maxl ret R G h pc' Ls (v :: St) C S := by
  subst hp; exact A.stepT fun X hx hZ hown q _ eT => getS2 X hx hZ hown w via eT F (g := mkF _ _ _ _) rfl (hb q hd)
theorem W.initO (A : W l Z n0 y bytes maxl ret R G h pc Ls (.ref a :: St) C S) {idx : Nat} (hd : decode bytes pc = .ok (.invokespecial idx, 3)) (w1 : (Jvm.Cond.methodLink y.cls idx Lib.objectInit).before a0 Z = true) (w2 : (Jvm.Cond.instanceMethod Lib.objectInit).before a0 Z = true) (w3 : (Jvm.Cond.code Lib.objectInit ⟨#[0xb1]⟩ 1 none).before a0 Z = true) (hsz : Ls.size = maxl) (hf : 1 ≤ R.frames) (hlo : (St.map fun v => v.category).sum + 12 ≤ R.locals) (hp : pc + 3 = pc') : W l Z n0 y bytes maxl ret R G h pc' Ls St C S := by
  subst hp; exact A.stepT fun X hx hZ hown q hml eT => RoadKit.initO X hx hZ hown w1 w2 w3 eT (g := mkF _ _ _ _) rfl (by rw [hml]; exact hsz) rfl (hb q hd) hf (W := (St.map fun v => v.category).sum) (by show 2 * 0 + _ ≤ _; omega) hlo
theorem W.cast0 (A : W l Z n0 y bytes maxl ret R G h pc Ls (.ref a :: St) C S) {index : Nat} {K : String} (hd : decode bytes pc = .ok (.checkcast index, 3)) (w : (Jvm.Cond.classLink y.cls index K).before a0 Z = true) (F : Ins Z h a K true) (hp : pc + 3 = pc') : W l Z n0 y bytes maxl ret R G h pc' Ls (.ref a :: St) C S := by
  subst hp; exact A.stepT fun X hx hZ hown q _ eT => castY X hx hZ hown w eT F (g := mkF _ _ _ _) rfl rfl (hb q hd)
theorem W.inst1 (A : W l Z n0 y bytes maxl ret R G h pc Ls (.ref a :: St) C S) {index : Nat} {K : String} (hd : decode bytes pc = .ok (.instanceof index, 3)) (w : (Jvm.Cond.classLink y.cls index K).before a0 Z = true) (F : Ins Z h a K true) (hp : pc + 3 = pc') : W l Z n0 y bytes maxl ret R G h pc' Ls (.int 1 :: St) C S := by
  subst hp; exact A.stepT fun X hx hZ hown q _ eT => instY X hx hZ hown w eT F (g := mkF _ _ _ _) rfl rfl (hb q hd)
theorem W.putF {v : Value} (A : W l Z n0 y bytes maxl ret R G h pc Ls (v :: .ref a :: St) C S) {index kk : Nat} {R0 O n d host K : String} {ty : FieldType} {old : Value} (hd : decode bytes pc = .ok (.putfield index, 3)) (w : (Jvm.Cond.fieldLink y.cls index R0 n d).before a0 Z = true ∨ (Jvm.Cond.fieldLinkNest y.cls index R0 n d host).before a0 Z = true) (via : Via Z R0 O n d)
    (F : Fld Z h a O n d old) (E : Exa Z h a K) (Lw : (Jvm.Cond.lays K O n d).before a0 Z = true ∨ ((Jvm.Cond.laysFinal K O n d).before a0 Z = true ∧ y.cls = O ∧ y.name = "<init>")) (wi : (Jvm.Cond.instantiable K kk).before a0 Z = true) (hty : parseFieldDescriptor d = some ty) (hn : narrow ty v = v) (hf : fits ty v = true) (ga : n0 ≤ a) (hp : pc + 3 = pc') :
    ∃ h', Wr h h' a (Jvm.RoadKit.slotOf Z O n d) v ∧ W l Z n0 y bytes maxl ret R G h' pc' Ls St C S := by
  subst hp
  obtain ⟨p, e, s, m, args, below, meth, c, st⟩ := G
  obtain ⟨hx, hZ, hby, hml, hown, hnm, hrt, hlk, hn0, T, locs, X, N, eT, k⟩ := A
  obtain ⟨T', h', X', e', W', st'⟩ := RoadKit.putF X hx hZ hown w via eT F E (Lw.imp id fun q => ⟨q.1, q.2.1, hnm.trans q.2.2⟩) wi hty hn hf (g := mkF m pc Ls _) rfl rfl (hb hby hd)
  exact ⟨h', W', W.mk hx hZ hby hml hown hnm hrt hlk hn0 X' (Fr.snoc X' N ga) e' (fun t q => k t (st' t q))⟩
theorem W.putFN {v v' : Value} (A : W l Z n0 y bytes maxl ret R G h pc Ls (v :: .ref a :: St) C S) {index kk : Nat} {R0 O n d K : String} {ty : FieldType} {old : Value} (hd : decode bytes pc = .ok (.putfield index, 3)) (w : (Jvm.Cond.fieldLink y.cls index R0 n d).before a0 Z = true) (via : Via Z R0 O n d)
    (F : Fld Z h a O n d old) (E : Exa Z h a K) (Lw : (Jvm.Cond.lays K O n d).before a0 Z = true ∨ ((Jvm.Cond.laysFinal K O n d).before a0 Z = true ∧ y.cls = O ∧ y.name = "<init>")) (wi : (Jvm.Cond.instantiable K kk).before a0 Z = true) (hty : parseFieldDescriptor d = some ty) (hn : narrow ty v = v') (hf : fits ty v' = true) (ga : n0 ≤ a) (hp : pc + 3 = pc') :
    ∃ h', Wr h h' a (Jvm.RoadKit.slotOf Z O n d) v' ∧ W l Z n0 y bytes maxl ret R G h' pc' Ls St C S := by
  subst hp
  obtain ⟨p, e, s, m, args, below, meth, c, st⟩ := G
  obtain ⟨hx, hZ, hby, hml, hown, hnm, hrt, hlk, hn0, T, locs, X, N, eT, k⟩ := A
  obtain ⟨T', h', X', e', W', st'⟩ := RoadKit.putFN X hx hZ hown w via eT F E (Lw.imp id fun q => ⟨q.1, q.2.1, hnm.trans q.2.2⟩) wi hty hn hf (g := mkF m pc Ls _) rfl rfl (hb hby hd)
  exact ⟨h', W', W.mk hx hZ hby hml hown hnm hrt hlk hn0 X' (Fr.snoc X' N ga) e' (fun t q => k t (st' t q))⟩
theorem W.newO (A : W l Z n0 y bytes maxl ret R G h pc Ls St C S) {index n : Nat} {K : String} (hd : decode bytes pc = .ok (.new index, 3)) (w : (Jvm.Cond.classLink y.cls index K).before a0 Z = true) (wi : (Jvm.Cond.instantiable K n).before a0 Z = true) (wz : (Jvm.Cond.initialized K).before a0 Z = true) (hC : C + 1 ≤ R.cells) (hS : S + n ≤ R.slots) (hC' : C + 1 = C') (hS' : S + n = S') (hp : pc + 3 = pc') :
    ∃ h' b, b = h.size ∧ n0 ≤ b ∧ Ext h h' ∧ Exa Z h' b K ∧ (∀ {O nm d : String} {ty : FieldType}, Laid Z a0 K O nm d → parseFieldDescriptor d = some ty → Fld Z h' b O nm d (defaultValue ty)) ∧ W l Z n0 y bytes maxl ret R G h' pc' Ls (.ref b :: St) C' S' := by
  subst hp hC' hS'
  have hsz := A.size
  obtain ⟨p, e, s, m, args, below, meth, c, st⟩ := G
  obtain ⟨hx, hZ, hby, hml, hown, hnm, hrt, hlk, hn0, T, locs, X, N, eT, k⟩ := A
  obtain ⟨T', h', X', e', E', A', D', -, st'⟩ := RoadKit.newO X hx hZ hown w wi wz eT (g := mkF m pc Ls St) rfl (hb hby hd) hC hS
  exact ⟨h', h.size, rfl, hsz, E', A', D', W.mk hx hZ hby hml hown hnm hrt hlk hn0 X' N e' (fun t q => k t (st' t q))⟩
/-! arrays: what each place holds, by a function of the place -/
def Ars (Z : State) (h : Heap) (a : Addr) (ty : FieldType) (N : Nat) (f : Nat → Value) : Prop := ∃ c : Cell, Arr Z h a c ty ∧ c.slots.size = N ∧ N < 2 ^ 31 ∧ ∀ j, j < N → c.slots[j]? = some (f j)
def upd (f : Nat → Value) (i : Nat) (v : Value) : Nat → Value := fun j => if j = i then v else f j
theorem upd_same (f : Nat → Value) (i : Nat) (v : Value) : upd f i v i = v := by simp [upd]
theorem upd_ne (f : Nat → Value) {i j : Nat} (v : Value) (q : j ≠ i) : upd f i v j = f j := by simp [upd, q]
variable {ty : FieldType} {N : Nat} {f : Nat → Value} {ws : List Addr} {sl : Nat} {v : Value}
theorem Ars.lt (F : Ars Z h a ty N f) : a < h.size := by obtain ⟨c, A, -⟩ := F; exact A.lt
theorem Ars.ext (F : Ars Z h a ty N f) (E : Ext h h') : Ars Z h' a ty N f := by obtain ⟨c, A, r⟩ := F; exact ⟨c, A.ext E, r⟩
theorem Ars.other (F : Ars Z h b ty N f) (V : Wr h h' a sl v) (q : b ≠ a) : Ars Z h' b ty N f := by obtain ⟨c, A, r⟩ := F; exact ⟨c, A.other V q, r⟩
theorem Ars.keep (F : Ars Z h a ty N f) (K : Keep h h' ws) (q : a ∉ ws) : Ars Z h' a ty N f := by obtain ⟨c, A, r⟩ := F; exact ⟨c, ⟨K.2.1 a c A.1 q, A.2⟩, r⟩
theorem Ars.same {i : Nat} (F : Ars Z h a ty N f) (V : Wr h h' a i v) (hi : i < N) : Ars Z h' a ty N (upd f i v) := by
  obtain ⟨c, A, hs, hN, hv⟩ := F
  refine ⟨_, A.same V, by rw [sz_set]; exact hs, hN, fun j hj => ?_⟩
  by_cases q : j = i
  · subst q; simp [Cell.setSlot, upd, hs, hj]
  · simp only [Cell.setSlot, upd, if_neg q]; rw [Array.getElem?_setIfInBounds_ne (Ne.symm q)]; exact hv j hj
theorem Ars.fn {g : Nat → Value} (F : Ars Z h a ty N f) (q : ∀ j, j < N → f j = g j) : Ars Z h a ty N g := by
  obtain ⟨c, A, hs, hN, hv⟩ := F; exact ⟨c, A, hs, hN, fun j hj => by rw [← q j hj]; exact hv j hj⟩
theorem Ars.size (F : Ars Z h a ty N f) : N < 2 ^ 31 := by obtain ⟨c, A, hs, hN, hv⟩ := F; exact hN
theorem inb {j : Int32} {i N : Nat} {c : Cell} (hs : c.slots.size = N) (hj : j.toInt = i) (hi : i < N) : ¬ (j < 0 ∨ c.slots.size ≤ j.toNatClampNeg) ∧ j.toNatClampNeg = i := by
  have e0 : (0 : Int32).toInt = 0 := rfl
  rw [hs, Int32.lt_iff_toInt_lt]; simp only [Int32.toNatClampNeg]; omega
theorem W.newP (A : W l Z n0 y bytes maxl ret R G h pc Ls (.int z :: St) C S) {aty : ArrayType} {N cap : Nat} (hd : decode bytes pc = .ok (.newarray aty, 2)) (w : (Jvm.Cond.arrayClass (newarray.typeOf aty)).before a0 Z = true) (hz : z.toInt = N) (hcap : N ≤ cap) (hcb : cap * 8 ≤ 536870912) (hC : C + 1 ≤ R.cells) (hS : S + cap ≤ R.slots) (hC' : C + 1 = C') (hS' : S + cap = S') (hp : pc + 2 = pc') :
    ∃ h' b, b = h.size ∧ n0 ≤ b ∧ Ext h h' ∧ Ars Z h' b (newarray.typeOf aty) N (fun _ => defaultValue (newarray.typeOf aty)) ∧ W l Z n0 y bytes maxl ret R G h' pc' Ls (.ref b :: St) C' S' := by
  subst hp hC' hS'
  have hsz := A.size
  have e0 : (0 : Int32).toInt = 0 := rfl
  have hneg : ¬ z < 0 := by rw [Int32.lt_iff_toInt_lt]; omega
  have hcl : z.toNatClampNeg = N := by simp only [Int32.toNatClampNeg]; omega
  obtain ⟨p, e, s, m, args, below, meth, c, st⟩ := G
  obtain ⟨hx, hZ, hby, hml, hown, hnm, hrt, hlk, hn0, T, locs, X, Nf, eT, k⟩ := A
  obtain ⟨T', h', kA, X', e', E', A', st'⟩ := RoadKit.newP X hx hZ w eT (g := mkF m pc Ls _) rfl (hb hby hd) rfl hneg (cap := cap) (by omega) hcb hC hS
  refine ⟨h', h.size, rfl, hsz, E', ⟨_, A', by rw [sz_new, hcl], by omega, fun j hj => ?_⟩, W.mk hx hZ hby hml hown hnm hrt hlk hn0 X' Nf e' (fun t q => k t (st' t q))⟩
  simp [newA, hcl, hj]
theorem W.alen (A : W l Z n0 y bytes maxl ret R G h pc Ls (.ref a :: St) C S) (hd : decode bytes pc = .ok (.arraylength, 1)) (F : Ars Z h a ty N f) {z : Int32} (hz : z.toInt = N) (hp : pc + 1 = pc') : W l Z n0 y bytes maxl ret R G h pc' Ls (.int z :: St) C S := by
  subst hp
  obtain ⟨cl, Ar, hs, hN, hv⟩ := F
  have e0 : (0 : Int32).toInt = 0 := rfl
  have hneg : ¬ z < 0 := by rw [Int32.lt_iff_toInt_lt]; omega
  have hcl : cl.slots.size = z.toNatClampNeg := by simp only [Int32.toNatClampNeg]; omega
  exact A.step fun X hx hZ hown q eT r => X.arraylength hx (by rw [eT]; exact Ar.1) (State.isArrayOf_alike hZ.alike Ar.2.1) (g := mkF _ _ _ _) rfl rfl (hb q hd) _ (by rw [len_of hcl hneg]; exact r)
theorem W.iaload {j : Int32} (A : W l Z n0 y bytes maxl ret R G h pc Ls (.int j :: .ref a :: St) C S) (hd : decode bytes pc = .ok (.iaload, 1)) (F : Ars Z h a .int N f) {i : Nat} (hj : j.toInt = i) (hi : i < N) {v : Value} (hv : f i = v) (hp : pc + 1 = pc') : W l Z n0 y bytes maxl ret R G h pc' Ls (v :: St) C S := by
  subst hp
  obtain ⟨cl, Ar, hs, hN, hf⟩ := F
  obtain ⟨q1, q2⟩ := inb hs hj hi
  exact A.step fun X hx hZ hown q eT r => X.iaload hx (by rw [eT]; exact Ar.1) (State.isArrayOf_alike hZ.alike Ar.2.1) Ar.2.2 q1 (by rw [q2, hf i hi, hv]) (g := mkF _ _ _ _) rfl rfl (hb q hd) _ r
theorem W.laload {j : Int32} (A : W l Z n0 y bytes maxl ret R G h pc Ls (.int j :: .ref a :: St) C S) (hd : decode bytes pc = .ok (.laload, 1)) (F : Ars Z h a .long N f) {i : Nat} (hj : j.toInt = i) (hi : i < N) {v : Value} (hv : f i = v) (hp : pc + 1 = pc') : W l Z n0 y bytes maxl ret R G h pc' Ls (v :: St) C S := by
  subst hp
  obtain ⟨cl, Ar, hs, hN, hf⟩ := F
  obtain ⟨q1, q2⟩ := inb hs hj hi
  exact A.step fun X hx hZ hown q eT r => X.laload hx (by rw [eT]; exact Ar.1) (State.isArrayOf_alike hZ.alike Ar.2.1) Ar.2.2 q1 (by rw [q2, hf i hi, hv]) (g := mkF _ _ _ _) rfl rfl (hb q hd) _ r
theorem W.baload {j : Int32} (A : W l Z n0 y bytes maxl ret R G h pc Ls (.int j :: .ref a :: St) C S) (hd : decode bytes pc = .ok (.baload, 1)) (F : Ars Z h a .byte N f) {i : Nat} (hj : j.toInt = i) (hi : i < N) {v : Value} (hv : f i = v) (hp : pc + 1 = pc') : W l Z n0 y bytes maxl ret R G h pc' Ls (v :: St) C S := by
  subst hp
  obtain ⟨cl, Ar, hs, hN, hf⟩ := F
  obtain ⟨q1, q2⟩ := inb hs hj hi
  exact A.step fun X hx hZ hown q eT r => X.baloadBytes hx (by rw [eT]; exact Ar.1) (State.isArrayOf_alike hZ.alike Ar.2.1) Ar.2.2 q1 (by rw [q2, hf i hi, hv]) (g := mkF _ _ _ _) rfl rfl (hb q hd) _ r
theorem W.caload {j : Int32} (A : W l Z n0 y bytes maxl ret R G h pc Ls (.int j :: .ref a :: St) C S) (hd : decode bytes pc = .ok (.caload, 1)) (F : Ars Z h a .char N f) {i : Nat} (hj : j.toInt = i) (hi : i < N) {v : Value} (hv : f i = v) (hp : pc + 1 = pc') : W l Z n0 y bytes maxl ret R G h pc' Ls (v :: St) C S := by
  subst hp
  obtain ⟨cl, Ar, hs, hN, hf⟩ := F
  obtain ⟨q1, q2⟩ := inb hs hj hi
  exact A.step fun X hx hZ hown q eT r => X.caload hx (by rw [eT]; exact Ar.1) (State.isArrayOf_alike hZ.alike Ar.2.1) Ar.2.2 q1 (by rw [q2, hf i hi, hv]) (g := mkF _ _ _ _) rfl rfl (hb q hd) _ r
theorem W.iastore {j x : Int32} (A : W l Z n0 y bytes maxl ret R G h pc Ls (.int x :: .int j :: .ref a :: St) C S) (hd : decode bytes pc = .ok (.iastore, 1)) (F : Ars Z h a .int N f) {i : Nat} (hj : j.toInt = i) (hi : i < N) (ga : n0 ≤ a) (hp : pc + 1 = pc') : ∃ h', Wr h h' a i (.int x) ∧ Ars Z h' a .int N (upd f i (.int x)) ∧ W l Z n0 y bytes maxl ret R G h' pc' Ls St C S := by
  subst hp
  have F0 := F
  obtain ⟨cl, Ar, hs, hN, hf⟩ := F
  obtain ⟨q1, q2⟩ := inb hs hj hi
  obtain ⟨p, e, s, m, args, below, meth, c, st⟩ := G
  obtain ⟨hx, hZ, hby, hml, hown, hnm, hrt, hlk, hn0, T, locs, X, Nf, eT, k⟩ := A
  obtain ⟨T', h', X', e', W', st'⟩ := stI X hx hZ eT Ar q1 (g := mkF m pc Ls _) rfl rfl (hb hby hd)
  rw [q2] at W'
  exact ⟨h', W', F0.same W' hi, W.mk hx hZ hby hml hown hnm hrt hlk hn0 X' (Fr.snoc X' Nf ga) e' (fun t q => k t (st' t q))⟩
theorem W.lastore {j : Int32} {x : Int64} (A : W l Z n0 y bytes maxl ret R G h pc Ls (.long x :: .int j :: .ref a :: St) C S) (hd : decode bytes pc = .ok (.lastore, 1)) (F : Ars Z h a .long N f) {i : Nat} (hj : j.toInt = i) (hi : i < N) (ga : n0 ≤ a) (hp : pc + 1 = pc') : ∃ h', Wr h h' a i (.long x) ∧ Ars Z h' a .long N (upd f i (.long x)) ∧ W l Z n0 y bytes maxl ret R G h' pc' Ls St C S := by
  subst hp
  have F0 := F
  obtain ⟨cl, Ar, hs, hN, hf⟩ := F
  obtain ⟨q1, q2⟩ := inb hs hj hi
  obtain ⟨p, e, s, m, args, below, meth, c, st⟩ := G
  obtain ⟨hx, hZ, hby, hml, hown, hnm, hrt, hlk, hn0, T, locs, X, Nf, eT, k⟩ := A
  obtain ⟨T', h', X', e', W', st'⟩ := stJ X hx hZ eT Ar q1 (g := mkF m pc Ls _) rfl rfl (hb hby hd)
  rw [q2] at W'
  exact ⟨h', W', F0.same W' hi, W.mk hx hZ hby hml hown hnm hrt hlk hn0 X' (Fr.snoc X' Nf ga) e' (fun t q => k t (st' t q))⟩
theorem W.bastore {j x : Int32} (A : W l Z n0 y bytes maxl ret R G h pc Ls (.int x :: .int j :: .ref a :: St) C S) (hd : decode bytes pc = .ok (.bastore, 1)) (F : Ars Z h a .byte N f) {i : Nat} (hj : j.toInt = i) (hi : i < N) (ga : n0 ≤ a) (hp : pc + 1 = pc') : ∃ h', Wr h h' a i (.int x.toInt8.toInt32) ∧ Ars Z h' a .byte N (upd f i (.int x.toInt8.toInt32)) ∧ W l Z n0 y bytes maxl ret R G h' pc' Ls St C S := by
  subst hp
  have F0 := F
  obtain ⟨cl, Ar, hs, hN, hf⟩ := F
  obtain ⟨q1, q2⟩ := inb hs hj hi
  obtain ⟨p, e, s, m, args, below, meth, c, st⟩ := G
  obtain ⟨hx, hZ, hby, hml, hown, hnm, hrt, hlk, hn0, T, locs, X, Nf, eT, k⟩ := A
  obtain ⟨T', h', X', e', W', st'⟩ := stB X hx hZ eT Ar q1 (g := mkF m pc Ls _) rfl rfl (hb hby hd)
  rw [q2] at W'
  exact ⟨h', W', F0.same W' hi, W.mk hx hZ hby hml hown hnm hrt hlk hn0 X' (Fr.snoc X' Nf ga) e' (fun t q => k t (st' t q))⟩
theorem W.castore {j x : Int32} (A : W l Z n0 y bytes maxl ret R G h pc Ls (.int x :: .int j :: .ref a :: St) C S) (hd : decode bytes pc = .ok (.castore, 1)) (F : Ars Z h a .char N f) {i : Nat} (hj : j.toInt = i) (hi : i < N) (ga : n0 ≤ a) (hp : pc + 1 = pc') : ∃ h', Wr h h' a i (.int (nar .char x)) ∧ Ars Z h' a .char N (upd f i (.int (nar .char x))) ∧ W l Z n0 y bytes maxl ret R G h' pc' Ls St C S := by
  subst hp
  have F0 := F
  obtain ⟨cl, Ar, hs, hN, hf⟩ := F
  obtain ⟨q1, q2⟩ := inb hs hj hi
  obtain ⟨p, e, s, m, args, below, meth, c, st⟩ := G
  obtain ⟨hx, hZ, hby, hml, hown, hnm, hrt, hlk, hn0, T, locs, X, Nf, eT, k⟩ := A
  obtain ⟨T', h', X', e', W', st'⟩ := stC X hx hZ eT Ar q1 (g := mkF m pc Ls _) rfl rfl (hb hby hd)
  rw [q2] at W'
  exact ⟨h', W', F0.same W' hi, W.mk hx hZ hby hml hown hnm hrt hlk hn0 X' (Fr.snoc X' Nf ga) e' (fun t q => k t (st' t q))⟩
end Heaps
end Jvm.Pilot.@@N@@
namespace Jvm.Pilot.@@N@@
open Jvm Jvm.ClassFile Sem Op Lib Jvm.Free Jvm.Stand Jvm.LawKit Jvm.RoadKit Bundle Jvm.Pilot.@@N@@.Jvm.D
theorem own_m8 (x : Int32) : 0 ≤ (x &&& (255 : Int32)).toInt ∧ (x &&& (255 : Int32)).toInt ≤ 255 := by
  have e : (x &&& (255 : Int32)).toInt = x.toInt % 256 := c_mask x 255 8 (by decide) (by decide)
  omega
theorem own_m16 (x : Int32) : 0 ≤ (x &&& (65535 : Int32)).toInt ∧ (x &&& (65535 : Int32)).toInt ≤ 65535 := by
  have e : (x &&& (65535 : Int32)).toInt = x.toInt % 65536 := c_mask x 65535 16 (by decide) (by decide)
  omega
theorem own_len (a x : Int32) (h1 : 0 ≤ a.toInt) (h2 : a.toInt ≤ 100000) (hx : 0 ≤ x.toInt ∧ x.toInt ≤ 255) : a.toInt ≤ (a + x).toInt ∧ (a + x).toInt ≤ a.toInt + 255 := by
  have := add32 a x (by omega) (by omega); omega
theorem own_gap (a x : Int32) (h1 : 0 ≤ a.toInt) (h2 : a.toInt ≤ 100000) (hx : 0 ≤ x.toInt ∧ x.toInt ≤ 255) : a.toInt < ((a + x) + (1 : Int32)).toInt ∧ ((a + x) + (1 : Int32)).toInt ≤ a.toInt + 256 := by
  have := add32 a x (by omega) (by omega)
  have := addc32 (a + x) (1 : Int32) 1 rfl (by omega) (by omega); omega
theorem own_five (k : Int32) : (k &&& (7 : Int32)) % (5 : Int32) = 0 ∨ (k &&& (7 : Int32)) % (5 : Int32) = 1 ∨ (k &&& (7 : Int32)) % (5 : Int32) = 2 ∨ (k &&& (7 : Int32)) % (5 : Int32) = 3 ∨ (k &&& (7 : Int32)) % (5 : Int32) = 4 := by
  have e : (k &&& (7 : Int32)).toInt = k.toInt % 8 := c_mask k 7 3 (by decide) (by decide)
  have q := (c_irem (k &&& (7 : Int32)) (5 : Int32) 5 rfl).1 (by omega)
  have h : ((k &&& (7 : Int32)) % (5 : Int32)).toInt = 0 ∨ ((k &&& (7 : Int32)) % (5 : Int32)).toInt = 1 ∨ ((k &&& (7 : Int32)) % (5 : Int32)).toInt = 2 ∨ ((k &&& (7 : Int32)) % (5 : Int32)).toInt = 3 ∨ ((k &&& (7 : Int32)) % (5 : Int32)).toInt = 4 := by omega
  rcases h with h | h | h | h | h
  · exact Or.inl (Int32.toInt_inj.mp h)
  · exact Or.inr (Or.inl (Int32.toInt_inj.mp h))
  · exact Or.inr (Or.inr (Or.inl (Int32.toInt_inj.mp h)))
  · exact Or.inr (Or.inr (Or.inr (Or.inl (Int32.toInt_inj.mp h))))
  · exact Or.inr (Or.inr (Or.inr (Or.inr (Int32.toInt_inj.mp h))))
theorem pd_0 : parseMethodDescriptor "(IIIIIIIII)[I" = some ⟨[.int, .int, .int, .int, .int, .int, .int, .int, .int], some (.array .int)⟩ := by decide +kernel
theorem pd_1 : parseMethodDescriptor "([II)Z" = some ⟨[(.array .int), .int], some .boolean⟩ := by decide +kernel
theorem pd_2 : parseMethodDescriptor "(III)Z" = some ⟨[.int, .int, .int], some .boolean⟩ := by decide +kernel
theorem pn2 : plainFor (⟨"com/example/dialekt/dialekt/regex/CodePointRangesContainsPinLaw", "in", "(III)Z"⟩ : MethodName) = true := by first | exact plainFor_of_name (by first | (simp [plainName, overriddenIn]; done) | decide +kernel) | exact Jvm.Free.JP.mathPlain rfl (by decide +kernel) | decide +kernel
theorem d2_0 : decode method_2_code 0 = .ok (.iload_n 1, 1) := by decide +kernel
theorem d2_1 : decode method_2_code 1 = .ok (.iload_n 0, 1) := by decide +kernel
theorem d2_2 : decode method_2_code 2 = .ok (.if_icmp .gt 12, 3) := by decide +kernel
theorem d2_5 : decode method_2_code 5 = .ok (.iload_n 0, 1) := by decide +kernel
theorem d2_6 : decode method_2_code 6 = .ok (.iload_n 2, 1) := by decide +kernel
theorem d2_7 : decode method_2_code 7 = .ok (.if_icmp .gt 7, 3) := by decide +kernel
theorem d2_10 : decode method_2_code 10 = .ok (.iconst 1, 1) := by decide +kernel
theorem d2_11 : decode method_2_code 11 = .ok (.goto 4, 3) := by decide +kernel
theorem d2_14 : decode method_2_code 14 = .ok (.iconst 0, 1) := by decide +kernel
theorem d2_15 : decode method_2_code 15 = .ok (.ireturn, 1) := by decide +kernel
abbrev y2 : MethodName := (⟨"com/example/dialekt/dialekt/regex/CodePointRangesContainsPinLaw", "in", "(III)Z"⟩ : MethodName)
abbrev R2 : Room := { frames := 0, cells := 0, slots := 0, locals := 0 }
set_option maxRecDepth 65536 in
set_option maxHeartbeats 4000000 in
theorem ef2 (c : Int32) (lo : Int32) (hi : Int32) (mid : MethodId) : entryFrame mid #[(.int c), (.int lo), (.int hi)] 3 = mkF mid 0 #[.val (.int c), .val (.int lo), .val (.int hi)] [] := by first | (simp [entryFrame, mkF, argsToLocals, Value.category]; done) | rfl
set_option maxRecDepth 65536 in
set_option maxHeartbeats 40000000 in
theorem rm2 (l : Launch) (Z : State) (a0 : Array Value) (hw : ∀ d ∈ tables_1, d.before a0 Z = true) (n0 : Nat) (ws : List Jvm.Cond) (c : Int32) (lo : Int32) (hi : Int32)  (h0 : Heap) (hn0 : n0 ≤ h0.size)  :
    Ctr l Z n0 y2 method_2_code 3 (some .boolean) ws R2 #[(.int c), (.int lo), (.int hi)] h0 (QI fun r h => (h0 = h) ∧ ((r.toInt = 1 ∧ (lo.toInt ≤ c.toInt ∧ c.toInt ≤ hi.toInt)) ∨ (r.toInt = 0 ∧ ¬ (lo.toInt ≤ c.toInt ∧ c.toInt ≤ hi.toInt)))) := by
  refine ctr_of pn2 hn0 (ef2 c lo hi) fun G A0 => ?_
  have A1 := A0.iloadN (v := lo) (pc' := 1) d2_0 rfl rfl
  have A2 := A1.iloadN (v := c) (pc' := 2) d2_1 rfl rfl
  by_cases c3 : c.toInt < lo.toInt
  · have A4 := A2.icmpYes (pc' := 14) d2_2 (tlt (igt (x := lo) (y := c) rfl rfl c3)).2.2.1 (by decide) (by decide)
    have A5 := A4.iconst (z := (0 : Int32)) (pc' := 15) d2_14 rfl rfl
    refine A5.retN (t := .boolean) (z' := (0 : Int32)) d2_15 (by decide) (by decide) (by simp) rfl ⟨_, rfl, ⟨rfl, ?_⟩⟩
    have elit : (0 : Int32).toInt = 0 := rfl
    omega
  · have A6 := A2.icmpNo (pc' := 5) d2_2 (flt (ingt (x := lo) (y := c) rfl rfl c3)).2.2.1 rfl
    have A7 := A6.iloadN (v := c) (pc' := 6) d2_5 rfl rfl
    have A8 := A7.iloadN (v := hi) (pc' := 7) d2_6 rfl rfl
    by_cases c9 : hi.toInt < c.toInt
    · have A10 := A8.icmpYes (pc' := 14) d2_7 (tlt (igt (x := c) (y := hi) rfl rfl c9)).2.2.1 (by decide) (by decide)
      have A11 := A10.iconst (z := (0 : Int32)) (pc' := 15) d2_14 rfl rfl
      refine A11.retN (t := .boolean) (z' := (0 : Int32)) d2_15 (by decide) (by decide) (by simp) rfl ⟨_, rfl, ⟨rfl, ?_⟩⟩
      have elit : (0 : Int32).toInt = 0 := rfl
      omega
    · have A12 := A8.icmpNo (pc' := 10) d2_7 (flt (ingt (x := c) (y := hi) rfl rfl c9)).2.2.1 rfl
      have A13 := A12.iconst (z := (1 : Int32)) (pc' := 11) d2_10 rfl rfl
      have A14 := A13.goto (pc' := 15) d2_11 (by decide) (by decide)
      refine A14.retN (t := .boolean) (z' := (1 : Int32)) d2_15 (by decide) (by decide) (by simp) rfl ⟨_, rfl, ⟨rfl, ?_⟩⟩
      have elit : (1 : Int32).toInt = 1 := rfl
      omega
theorem pn1 : plainFor (⟨"com/example/dialekt/dialekt/regex/CodePointRangesContainsPinLaw", "table", "(IIIIIIIII)[I"⟩ : MethodName) = true := by first | exact plainFor_of_name (by first | (simp [plainName, overriddenIn]; done) | decide +kernel) | exact Jvm.Free.JP.mathPlain rfl (by decide +kernel) | decide +kernel
theorem d1_0 : decode method_3_code 0 = .ok (.iload_n 0, 1) := by decide +kernel
theorem d1_1 : decode method_3_code 1 = .ok (.ifCond .ne 7, 3) := by decide +kernel
theorem d1_4 : decode method_3_code 4 = .ok (.iconst 0, 1) := by decide +kernel
theorem d1_5 : decode method_3_code 5 = .ok (.newarray .int, 2) := by decide +kernel
theorem d1_7 : decode method_3_code 7 = .ok (.areturn, 1) := by decide +kernel
abbrev y1_0 : MethodName := (⟨"com/example/dialekt/dialekt/regex/CodePointRangesContainsPinLaw", "table", "(IIIIIIIII)[I"⟩ : MethodName)
abbrev R1_0 : Room := { frames := 0, cells := 1, slots := 0, locals := 0 }
set_option maxRecDepth 65536 in
set_option maxHeartbeats 4000000 in
theorem ef1_0 (p0 : Int32) (p1 : Int32) (p2 : Int32) (p3 : Int32) (p4 : Int32) (p5 : Int32) (p6 : Int32) (p7 : Int32) (mid : MethodId) : entryFrame mid #[(.int (0 : Int32)), (.int p0), (.int p1), (.int p2), (.int p3), (.int p4), (.int p5), (.int p6), (.int p7)] 9 = mkF mid 0 #[.val (.int (0 : Int32)), .val (.int p0), .val (.int p1), .val (.int p2), .val (.int p3), .val (.int p4), .val (.int p5), .val (.int p6), .val (.int p7)] [] := by first | (simp [entryFrame, mkF, argsToLocals, Value.category]; done) | rfl
set_option maxRecDepth 65536 in
set_option maxHeartbeats 40000000 in
theorem rm1_0 (l : Launch) (Z : State) (a0 : Array Value) (hw : ∀ d ∈ tables_1, d.before a0 Z = true) (n0 : Nat) (ws : List Jvm.Cond) (p0 : Int32) (p1 : Int32) (p2 : Int32) (p3 : Int32) (p4 : Int32) (p5 : Int32) (p6 : Int32) (p7 : Int32)  (h0 : Heap) (hn0 : n0 ≤ h0.size)  :
    Ctr l Z n0 y1_0 method_3_code 9 (some (.array .int)) ws R1_0 #[(.int (0 : Int32)), (.int p0), (.int p1), (.int p2), (.int p3), (.int p4), (.int p5), (.int p6), (.int p7)] h0 (QA fun r h => (Keep h0 h []) ∧ (n0 ≤ r) ∧ (h0.size ≤ r) ∧ (Ars Z h r .int 0 (fun _ => (.int (0 : Int32)))) ∧ (True)) := by
  refine ctr_of pn1 hn0 (ef1_0 p0 p1 p2 p3 p4 p5 p6 p7) fun G A0 => ?_
  have A1 := A0.iloadN (v := (0 : Int32)) (pc' := 1) d1_0 rfl rfl
  have A3 := A1.ifNo (pc' := 4) d1_1 (teq (ieq (x := (0 : Int32)) (y := (0 : Int32)) rfl rfl (by decide : (0 : Int) = 0))).2 rfl
  have A4 := A3.iconst (z := (0 : Int32)) (pc' := 5) d1_4 rfl rfl
  obtain ⟨h5, b6, eb7, g8, E9, X10, A11⟩ := A4.newP (z := (0 : Int32)) (N := 0) (cap := 0) (C' := 1) (S' := 0) (pc' := 7) d1_5 (hw _ (List.mem_of_getElem? (i := 5) rfl)) rfl (by decide) (by decide) (by decide) (by decide) rfl rfl rfl
  change Ars Z h5 b6 .int 0 (fun _ => (.int (0 : Int32))) at X10
  have K12 : Keep h0 h5 [] := ((Keep.refl h0 []).ext E9)
  have z13 : h0.size ≤ b6 := Nat.le_trans (Nat.le_refl _) (Nat.le_of_eq eb7.symm)
  refine A11.retA d1_7 (by decide) (by decide) rfl rfl rfl ⟨_, rfl, ⟨K12, g8, z13, X10, ?_⟩⟩
  trivial
theorem pn3 : plainFor (⟨"com/example/dialekt/dialekt/regex/CodePointRanges", "contains", "([II)Z"⟩ : MethodName) = true := by first | exact plainFor_of_name (by first | (simp [plainName, overriddenIn]; done) | decide +kernel) | exact Jvm.Free.JP.mathPlain rfl (by decide +kernel) | decide +kernel
theorem d3_0 : decode prog_36_method_3_code 0 = .ok (.iconst 0, 1) := by decide +kernel
theorem d3_1 : decode prog_36_method_3_code 1 = .ok (.istore_n 2, 1) := by decide +kernel
theorem d3_2 : decode prog_36_method_3_code 2 = .ok (.aload_n 0, 1) := by decide +kernel
theorem d3_3 : decode prog_36_method_3_code 3 = .ok (.arraylength, 1) := by decide +kernel
theorem d3_4 : decode prog_36_method_3_code 4 = .ok (.iconst 2, 1) := by decide +kernel
theorem d3_5 : decode prog_36_method_3_code 5 = .ok (.idiv, 1) := by decide +kernel
theorem d3_6 : decode prog_36_method_3_code 6 = .ok (.iconst 1, 1) := by decide +kernel
theorem d3_7 : decode prog_36_method_3_code 7 = .ok (.isub, 1) := by decide +kernel
theorem d3_8 : decode prog_36_method_3_code 8 = .ok (.istore_n 3, 1) := by decide +kernel
theorem d3_9 : decode prog_36_method_3_code 9 = .ok (.iload_n 2, 1) := by decide +kernel
theorem d3_10 : decode prog_36_method_3_code 10 = .ok (.iload_n 3, 1) := by decide +kernel
theorem d3_11 : decode prog_36_method_3_code 11 = .ok (.if_icmp .ge 36, 3) := by decide +kernel
theorem d3_47 : decode prog_36_method_3_code 47 = .ok (.iload_n 3, 1) := by decide +kernel
theorem d3_48 : decode prog_36_method_3_code 48 = .ok (.ifCond .lt 27, 3) := by decide +kernel
theorem d3_75 : decode prog_36_method_3_code 75 = .ok (.iconst 0, 1) := by decide +kernel
theorem d3_76 : decode prog_36_method_3_code 76 = .ok (.ireturn, 1) := by decide +kernel
abbrev y3_0 : MethodName := (⟨"com/example/dialekt/dialekt/regex/CodePointRanges", "contains", "([II)Z"⟩ : MethodName)
abbrev R3_0 : Room := { frames := 0, cells := 0, slots := 0, locals := 0 }
set_option maxRecDepth 65536 in
set_option maxHeartbeats 4000000 in
theorem ef3_0 (a : Addr) (c : Int32) (mid : MethodId) : entryFrame mid #[(.ref a), (.int c)] 5 = mkF mid 0 #[.val (.ref a), .val (.int c), .unset, .unset, .unset] [] := by first | (simp [entryFrame, mkF, argsToLocals, Value.category]; done) | rfl
set_option maxRecDepth 65536 in
set_option maxHeartbeats 40000000 in
theorem rm3_0 (l : Launch) (Z : State) (a0 : Array Value) (hw : ∀ d ∈ tables_1, d.before a0 Z = true) (n0 : Nat) (ws : List Jvm.Cond) (a : Addr) (c : Int32) (f : Nat → Value) (h0 : Heap) (hn0 : n0 ≤ h0.size) (e0 : Ars Z h0 a .int 0 f) (e1 : True) :
    Ctr l Z n0 y3_0 prog_36_method_3_code 5 (some .boolean) ws R3_0 #[(.ref a), (.int c)] h0 (QI fun r h => (h0 = h) ∧ ((r.toInt = 1 ∧ (1 ≤ (0 : Int))) ∨ (r.toInt = 0 ∧ ¬ (1 ≤ (0 : Int))))) := by
  refine ctr_of pn3 hn0 (ef3_0 a c) fun G A0 => ?_
  have A1 := A0.iconst (z := (0 : Int32)) (pc' := 1) d3_0 rfl rfl
  have A2 := A1.istoreN (Ls' := #[.val (.ref a), .val (.int c), .val (.int (0 : Int32)), .unset, .unset]) (pc' := 2) d3_1 rfl rfl
  have A3 := A2.aloadN (v := (.ref a)) (pc' := 3) d3_2 rfl rfl rfl
  have A4 := A3.alen (z := (0 : Int32)) (pc' := 4) d3_3 e0 rfl rfl
  have A5 := A4.iconst (z := (2 : Int32)) (pc' := 5) d3_4 rfl rfl
  have A6 := A5.idiv (pc' := 6) d3_5 (by decide) rfl
  have A7 := A6.topI (z := (0 : Int32)) (by decide)
  have A8 := A7.iconst (z := (1 : Int32)) (pc' := 7) d3_6 rfl rfl
  have A9 := A8.isub (pc' := 8) d3_7 rfl
  have A10 := A9.topI (z := (-1 : Int32)) (by decide)
  have A11 := A10.istoreN (Ls' := #[.val (.ref a), .val (.int c), .val (.int (0 : Int32)), .val (.int (-1 : Int32)), .unset]) (pc' := 9) d3_8 rfl rfl
  have A12 := A11.iloadN (v := (0 : Int32)) (pc' := 10) d3_9 rfl rfl
  have A13 := A12.iloadN (v := (-1 : Int32)) (pc' := 11) d3_10 rfl rfl
  have A15 := A13.icmpYes (pc' := 47) d3_11 (flt (inlt (x := (0 : Int32)) (y := (-1 : Int32)) rfl rfl (by decide : ¬ ((0 : Int) < (-1))))).2.1 (by decide) (by decide)
  have A16 := A15.iloadN (v := (-1 : Int32)) (pc' := 48) d3_47 rfl rfl
  have A18 := A16.ifYes (pc' := 75) d3_48 (tlt (ilt (x := (-1 : Int32)) (y := (0 : Int32)) rfl rfl (by decide : ((-1) : Int) < 0))).1 (by decide) (by decide)
  have A19 := A18.iconst (z := (0 : Int32)) (pc' := 76) d3_75 rfl rfl
  refine A19.retN (t := .boolean) (z' := (0 : Int32)) d3_76 (by decide) (by decide) (by simp) rfl ⟨_, rfl, ⟨rfl, ?_⟩⟩
  have elit : (0 : Int32).toInt = 0 := rfl
  omega
theorem d1_8 : decode method_3_code 8 = .ok (.iload_n 0, 1) := by decide +kernel
theorem d1_9 : decode method_3_code 9 = .ok (.iconst 1, 1) := by decide +kernel
theorem d1_10 : decode method_3_code 10 = .ok (.if_icmp .ne 15, 3) := by decide +kernel
theorem d1_13 : decode method_3_code 13 = .ok (.iconst 2, 1) := by decide +kernel
theorem d1_14 : decode method_3_code 14 = .ok (.newarray .int, 2) := by decide +kernel
theorem d1_16 : decode method_3_code 16 = .ok (.dup, 1) := by decide +kernel
theorem d1_17 : decode method_3_code 17 = .ok (.iconst 0, 1) := by decide +kernel
theorem d1_18 : decode method_3_code 18 = .ok (.iload_n 1, 1) := by decide +kernel
theorem d1_19 : decode method_3_code 19 = .ok (.iastore, 1) := by decide +kernel
theorem d1_20 : decode method_3_code 20 = .ok (.dup, 1) := by decide +kernel
theorem d1_21 : decode method_3_code 21 = .ok (.iconst 1, 1) := by decide +kernel
theorem d1_22 : decode method_3_code 22 = .ok (.iload_n 2, 1) := by decide +kernel
theorem d1_23 : decode method_3_code 23 = .ok (.iastore, 1) := by decide +kernel
theorem d1_24 : decode method_3_code 24 = .ok (.areturn, 1) := by decide +kernel
abbrev y1_1 : MethodName := (⟨"com/example/dialekt/dialekt/regex/CodePointRangesContainsPinLaw", "table", "(IIIIIIIII)[I"⟩ : MethodName)
abbrev R1_1 : Room := { frames := 0, cells := 1, slots := 2, locals := 0 }
set_option maxRecDepth 65536 in
set_option maxHeartbeats 4000000 in
theorem ef1_1 (p0 : Int32) (p1 : Int32) (p2 : Int32) (p3 : Int32) (p4 : Int32) (p5 : Int32) (p6 : Int32) (p7 : Int32) (mid : MethodId) : entryFrame mid #[(.int (1 : Int32)), (.int p0), (.int p1), (.int p2), (.int p3), (.int p4), (.int p5), (.int p6), (.int p7)] 9 = mkF mid 0 #[.val (.int (1 : Int32)), .val (.int p0), .val (.int p1), .val (.int p2), .val (.int p3), .val (.int p4), .val (.int p5), .val (.int p6), .val (.int p7)] [] := by first | (simp [entryFrame, mkF, argsToLocals, Value.category]; done) | rfl
set_option maxRecDepth 65536 in
set_option maxHeartbeats 40000000 in
theorem rm1_1 (l : Launch) (Z : State) (a0 : Array Value) (hw : ∀ d ∈ tables_1, d.before a0 Z = true) (n0 : Nat) (ws : List Jvm.Cond) (p0 : Int32) (p1 : Int32) (p2 : Int32) (p3 : Int32) (p4 : Int32) (p5 : Int32) (p6 : Int32) (p7 : Int32)  (h0 : Heap) (hn0 : n0 ≤ h0.size)  :
    Ctr l Z n0 y1_1 method_3_code 9 (some (.array .int)) ws R1_1 #[(.int (1 : Int32)), (.int p0), (.int p1), (.int p2), (.int p3), (.int p4), (.int p5), (.int p6), (.int p7)] h0 (QA fun r h => (Keep h0 h []) ∧ (n0 ≤ r) ∧ (h0.size ≤ r) ∧ (Ars Z h r .int 2 (upd (upd (fun _ => (.int (0 : Int32))) 0 (.int p0)) 1 (.int p1))) ∧ (True)) := by
  refine ctr_of pn1 hn0 (ef1_1 p0 p1 p2 p3 p4 p5 p6 p7) fun G A0 => ?_
  have A1 := A0.iloadN (v := (1 : Int32)) (pc' := 1) d1_0 rfl rfl
  have A3 := A1.ifYes (pc' := 8) d1_1 (feq (ine (x := (1 : Int32)) (y := (0 : Int32)) rfl rfl (by decide : ¬ ((1 : Int) = 0)))).2 (by decide) (by decide)
  have A4 := A3.iloadN (v := (1 : Int32)) (pc' := 9) d1_8 rfl rfl
  have A5 := A4.iconst (z := (1 : Int32)) (pc' := 10) d1_9 rfl rfl
  have A7 := A5.icmpNo (pc' := 13) d1_10 (teq (ieq (x := (1 : Int32)) (y := (1 : Int32)) rfl rfl (by decide : (1 : Int) = 1))).2 rfl
  have A8 := A7.iconst (z := (2 : Int32)) (pc' := 14) d1_13 rfl rfl
  obtain ⟨h9, b10, eb11, g12, E13, X14, A15⟩ := A8.newP (z := (2 : Int32)) (N := 2) (cap := 2) (C' := 1) (S' := 2) (pc' := 16) d1_14 (hw _ (List.mem_of_getElem? (i := 5) rfl)) rfl (by decide) (by decide) (by decide) (by decide) rfl rfl rfl
  change Ars Z h9 b10 .int 2 (fun _ => (.int (0 : Int32))) at X14
  have A16 := A15.dup (pc' := 17) d1_16 rfl rfl
  have A17 := A16.iconst (z := (0 : Int32)) (pc' := 18) d1_17 rfl rfl
  have A18 := A17.iloadN (v := p0) (pc' := 19) d1_18 rfl rfl
  obtain ⟨h19, w20, X21, A22⟩ := A18.iastore (i := 0) (pc' := 20) d1_19 X14 rfl (by decide) g12 rfl
  have A23 := A22.dup (pc' := 21) d1_20 rfl rfl
  have A24 := A23.iconst (z := (1 : Int32)) (pc' := 22) d1_21 rfl rfl
  have A25 := A24.iloadN (v := p1) (pc' := 23) d1_22 rfl rfl
  obtain ⟨h26, w27, X28, A29⟩ := A25.iastore (i := 1) (pc' := 24) d1_23 X21 rfl (by decide) g12 rfl
  have z30 : h0.size ≤ b10 := Nat.le_trans (Nat.le_refl _) (Nat.le_of_eq eb11.symm)
  have K31 : Keep h0 h26 [] := ((((Keep.refl h0 []).ext E13).wr w20 (Or.inr z30)).wr w27 (Or.inr z30))
  refine A29.retA d1_24 (by decide) (by decide) rfl rfl rfl ⟨_, rfl, ⟨K31, g12, z30, X28, ?_⟩⟩
  trivial
theorem d3_51 : decode prog_36_method_3_code 51 = .ok (.aload_n 0, 1) := by decide +kernel
theorem d3_52 : decode prog_36_method_3_code 52 = .ok (.iconst 2, 1) := by decide +kernel
theorem d3_53 : decode prog_36_method_3_code 53 = .ok (.iload_n 2, 1) := by decide +kernel
theorem d3_54 : decode prog_36_method_3_code 54 = .ok (.imul, 1) := by decide +kernel
theorem d3_55 : decode prog_36_method_3_code 55 = .ok (.iaload, 1) := by decide +kernel
theorem d3_56 : decode prog_36_method_3_code 56 = .ok (.iload_n 1, 1) := by decide +kernel
theorem d3_57 : decode prog_36_method_3_code 57 = .ok (.if_icmp .gt 18, 3) := by decide +kernel
theorem d3_60 : decode prog_36_method_3_code 60 = .ok (.iload_n 1, 1) := by decide +kernel
theorem d3_61 : decode prog_36_method_3_code 61 = .ok (.aload_n 0, 1) := by decide +kernel
theorem d3_62 : decode prog_36_method_3_code 62 = .ok (.iconst 2, 1) := by decide +kernel
theorem d3_63 : decode prog_36_method_3_code 63 = .ok (.iload_n 2, 1) := by decide +kernel
theorem d3_64 : decode prog_36_method_3_code 64 = .ok (.imul, 1) := by decide +kernel
theorem d3_65 : decode prog_36_method_3_code 65 = .ok (.iconst 1, 1) := by decide +kernel
theorem d3_66 : decode prog_36_method_3_code 66 = .ok (.iadd, 1) := by decide +kernel
theorem d3_67 : decode prog_36_method_3_code 67 = .ok (.iaload, 1) := by decide +kernel
theorem d3_68 : decode prog_36_method_3_code 68 = .ok (.if_icmp .gt 7, 3) := by decide +kernel
theorem d3_71 : decode prog_36_method_3_code 71 = .ok (.iconst 1, 1) := by decide +kernel
theorem d3_72 : decode prog_36_method_3_code 72 = .ok (.goto 4, 3) := by decide +kernel
abbrev y3_1 : MethodName := (⟨"com/example/dialekt/dialekt/regex/CodePointRanges", "contains", "([II)Z"⟩ : MethodName)
abbrev R3_1 : Room := { frames := 0, cells := 0, slots := 0, locals := 0 }
set_option maxRecDepth 65536 in
set_option maxHeartbeats 4000000 in
theorem ef3_1 (a : Addr) (c : Int32) (mid : MethodId) : entryFrame mid #[(.ref a), (.int c)] 5 = mkF mid 0 #[.val (.ref a), .val (.int c), .unset, .unset, .unset] [] := by first | (simp [entryFrame, mkF, argsToLocals, Value.category]; done) | rfl
set_option maxRecDepth 65536 in
set_option maxHeartbeats 40000000 in
theorem rm3_1 (l : Launch) (Z : State) (a0 : Array Value) (hw : ∀ d ∈ tables_1, d.before a0 Z = true) (n0 : Nat) (ws : List Jvm.Cond) (a : Addr) (c : Int32) (f : Nat → Value) (v0 : Int32) (v1 : Int32) (h0 : Heap) (hn0 : n0 ≤ h0.size) (e0 : Ars Z h0 a .int 2 f) (e1 : f 0 = .int v0) (e2 : f 1 = .int v1) (e3 : v0.toInt ≤ v1.toInt) :
    Ctr l Z n0 y3_1 prog_36_method_3_code 5 (some .boolean) ws R3_1 #[(.ref a), (.int c)] h0 (QI fun r h => (h0 = h) ∧ ((r.toInt = 1 ∧ (v0.toInt ≤ c.toInt ∧ c.toInt ≤ v1.toInt)) ∨ (r.toInt = 0 ∧ ¬ (v0.toInt ≤ c.toInt ∧ c.toInt ≤ v1.toInt)))) := by
  refine ctr_of pn3 hn0 (ef3_1 a c) fun G A0 => ?_
  have A1 := A0.iconst (z := (0 : Int32)) (pc' := 1) d3_0 rfl rfl
  have A2 := A1.istoreN (Ls' := #[.val (.ref a), .val (.int c), .val (.int (0 : Int32)), .unset, .unset]) (pc' := 2) d3_1 rfl rfl
  have A3 := A2.aloadN (v := (.ref a)) (pc' := 3) d3_2 rfl rfl rfl
  have A4 := A3.alen (z := (2 : Int32)) (pc' := 4) d3_3 e0 rfl rfl
  have A5 := A4.iconst (z := (2 : Int32)) (pc' := 5) d3_4 rfl rfl
  have A6 := A5.idiv (pc' := 6) d3_5 (by decide) rfl
  have A7 := A6.topI (z := (1 : Int32)) (by decide)
  have A8 := A7.iconst (z := (1 : Int32)) (pc' := 7) d3_6 rfl rfl
  have A9 := A8.isub (pc' := 8) d3_7 rfl
  have A10 := A9.topI (z := (0 : Int32)) (by decide)
  have A11 := A10.istoreN (Ls' := #[.val (.ref a), .val (.int c), .val (.int (0 : Int32)), .val (.int (0 : Int32)), .unset]) (pc' := 9) d3_8 rfl rfl
  have A12 := A11.iloadN (v := (0 : Int32)) (pc' := 10) d3_9 rfl rfl
  have A13 := A12.iloadN (v := (0 : Int32)) (pc' := 11) d3_10 rfl rfl
  have A15 := A13.icmpYes (pc' := 47) d3_11 (flt (inlt (x := (0 : Int32)) (y := (0 : Int32)) rfl rfl (by decide : ¬ ((0 : Int) < 0)))).2.1 (by decide) (by decide)
  have A16 := A15.iloadN (v := (0 : Int32)) (pc' := 48) d3_47 rfl rfl
  have A18 := A16.ifNo (pc' := 51) d3_48 (flt (inlt (x := (0 : Int32)) (y := (0 : Int32)) rfl rfl (by decide : ¬ ((0 : Int) < 0)))).1 rfl
  have A19 := A18.aloadN (v := (.ref a)) (pc' := 52) d3_51 rfl rfl rfl
  have A20 := A19.iconst (z := (2 : Int32)) (pc' := 53) d3_52 rfl rfl
  have A21 := A20.iloadN (v := (0 : Int32)) (pc' := 54) d3_53 rfl rfl
  have A22 := A21.imul (pc' := 55) d3_54 rfl
  have A23 := A22.topI (z := (0 : Int32)) (by decide)
  have A24 := A23.iaload (i := 0) (v := (.int v0)) (pc' := 56) d3_55 e0 rfl (by decide) e1 rfl
  have A25 := A24.iloadN (v := c) (pc' := 57) d3_56 rfl rfl
  by_cases c26 : c.toInt < v0.toInt
  · have A27 := A25.icmpYes (pc' := 75) d3_57 (tlt (igt (x := v0) (y := c) rfl rfl c26)).2.2.1 (by decide) (by decide)
    have A28 := A27.iconst (z := (0 : Int32)) (pc' := 76) d3_75 rfl rfl
    refine A28.retN (t := .boolean) (z' := (0 : Int32)) d3_76 (by decide) (by decide) (by simp) rfl ⟨_, rfl, ⟨rfl, ?_⟩⟩
    have elit : (0 : Int32).toInt = 0 := rfl
    omega
  · have A29 := A25.icmpNo (pc' := 60) d3_57 (flt (ingt (x := v0) (y := c) rfl rfl c26)).2.2.1 rfl
    have A30 := A29.iloadN (v := c) (pc' := 61) d3_60 rfl rfl
    have A31 := A30.aloadN (v := (.ref a)) (pc' := 62) d3_61 rfl rfl rfl
    have A32 := A31.iconst (z := (2 : Int32)) (pc' := 63) d3_62 rfl rfl
    have A33 := A32.iloadN (v := (0 : Int32)) (pc' := 64) d3_63 rfl rfl
    have A34 := A33.imul (pc' := 65) d3_64 rfl
    have A35 := A34.topI (z := (0 : Int32)) (by decide)
    have A36 := A35.iconst (z := (1 : Int32)) (pc' := 66) d3_65 rfl rfl
    have A37 := A36.iadd (pc' := 67) d3_66 rfl
    have A38 := A37.topI (z := (1 : Int32)) (by decide)
    have A39 := A38.iaload (i := 1) (v := (.int v1)) (pc' := 68) d3_67 e0 rfl (by decide) e2 rfl
    by_cases c40 : v1.toInt < c.toInt
    · have A41 := A39.icmpYes (pc' := 75) d3_68 (tlt (igt (x := c) (y := v1) rfl rfl c40)).2.2.1 (by decide) (by decide)
      have A42 := A41.iconst (z := (0 : Int32)) (pc' := 76) d3_75 rfl rfl
      refine A42.retN (t := .boolean) (z' := (0 : Int32)) d3_76 (by decide) (by decide) (by simp) rfl ⟨_, rfl, ⟨rfl, ?_⟩⟩
      have elit : (0 : Int32).toInt = 0 := rfl
      omega
    · have A43 := A39.icmpNo (pc' := 71) d3_68 (flt (ingt (x := c) (y := v1) rfl rfl c40)).2.2.1 rfl
      have A44 := A43.iconst (z := (1 : Int32)) (pc' := 72) d3_71 rfl rfl
      have A45 := A44.goto (pc' := 76) d3_72 (by decide) (by decide)
      refine A45.retN (t := .boolean) (z' := (1 : Int32)) d3_76 (by decide) (by decide) (by simp) rfl ⟨_, rfl, ⟨rfl, ?_⟩⟩
      have elit : (1 : Int32).toInt = 1 := rfl
      omega
theorem d1_25 : decode method_3_code 25 = .ok (.iload_n 0, 1) := by decide +kernel
theorem d1_26 : decode method_3_code 26 = .ok (.iconst 2, 1) := by decide +kernel
theorem d1_27 : decode method_3_code 27 = .ok (.if_icmp .ne 24, 3) := by decide +kernel
theorem d1_30 : decode method_3_code 30 = .ok (.iconst 4, 1) := by decide +kernel
theorem d1_31 : decode method_3_code 31 = .ok (.newarray .int, 2) := by decide +kernel
theorem d1_33 : decode method_3_code 33 = .ok (.dup, 1) := by decide +kernel
theorem d1_34 : decode method_3_code 34 = .ok (.iconst 0, 1) := by decide +kernel
theorem d1_35 : decode method_3_code 35 = .ok (.iload_n 1, 1) := by decide +kernel
theorem d1_36 : decode method_3_code 36 = .ok (.iastore, 1) := by decide +kernel
theorem d1_37 : decode method_3_code 37 = .ok (.dup, 1) := by decide +kernel
theorem d1_38 : decode method_3_code 38 = .ok (.iconst 1, 1) := by decide +kernel
theorem d1_39 : decode method_3_code 39 = .ok (.iload_n 2, 1) := by decide +kernel
theorem d1_40 : decode method_3_code 40 = .ok (.iastore, 1) := by decide +kernel
theorem d1_41 : decode method_3_code 41 = .ok (.dup, 1) := by decide +kernel
theorem d1_42 : decode method_3_code 42 = .ok (.iconst 2, 1) := by decide +kernel
theorem d1_43 : decode method_3_code 43 = .ok (.iload_n 3, 1) := by decide +kernel
theorem d1_44 : decode method_3_code 44 = .ok (.iastore, 1) := by decide +kernel
theorem d1_45 : decode method_3_code 45 = .ok (.dup, 1) := by decide +kernel
theorem d1_46 : decode method_3_code 46 = .ok (.iconst 3, 1) := by decide +kernel
theorem d1_47 : decode method_3_code 47 = .ok (.iload 4, 2) := by decide +kernel
theorem d1_49 : decode method_3_code 49 = .ok (.iastore, 1) := by decide +kernel
theorem d1_50 : decode method_3_code 50 = .ok (.areturn, 1) := by decide +kernel
abbrev y1_2 : MethodName := (⟨"com/example/dialekt/dialekt/regex/CodePointRangesContainsPinLaw", "table", "(IIIIIIIII)[I"⟩ : MethodName)
abbrev R1_2 : Room := { frames := 0, cells := 1, slots := 4, locals := 0 }
set_option maxRecDepth 65536 in
set_option maxHeartbeats 4000000 in
theorem ef1_2 (p0 : Int32) (p1 : Int32) (p2 : Int32) (p3 : Int32) (p4 : Int32) (p5 : Int32) (p6 : Int32) (p7 : Int32) (mid : MethodId) : entryFrame mid #[(.int (2 : Int32)), (.int p0), (.int p1), (.int p2), (.int p3), (.int p4), (.int p5), (.int p6), (.int p7)] 9 = mkF mid 0 #[.val (.int (2 : Int32)), .val (.int p0), .val (.int p1), .val (.int p2), .val (.int p3), .val (.int p4), .val (.int p5), .val (.int p6), .val (.int p7)] [] := by first | (simp [entryFrame, mkF, argsToLocals, Value.category]; done) | rfl
set_option maxRecDepth 65536 in
set_option maxHeartbeats 40000000 in
theorem rm1_2 (l : Launch) (Z : State) (a0 : Array Value) (hw : ∀ d ∈ tables_1, d.before a0 Z = true) (n0 : Nat) (ws : List Jvm.Cond) (p0 : Int32) (p1 : Int32) (p2 : Int32) (p3 : Int32) (p4 : Int32) (p5 : Int32) (p6 : Int32) (p7 : Int32)  (h0 : Heap) (hn0 : n0 ≤ h0.size)  :
    Ctr l Z n0 y1_2 method_3_code 9 (some (.array .int)) ws R1_2 #[(.int (2 : Int32)), (.int p0), (.int p1), (.int p2), (.int p3), (.int p4), (.int p5), (.int p6), (.int p7)] h0 (QA fun r h => (Keep h0 h []) ∧ (n0 ≤ r) ∧ (h0.size ≤ r) ∧ (Ars Z h r .int 4 (upd (upd (upd (upd (fun _ => (.int (0 : Int32))) 0 (.int p0)) 1 (.int p1)) 2 (.int p2)) 3 (.int p3))) ∧ (True)) := by
  refine ctr_of pn1 hn0 (ef1_2 p0 p1 p2 p3 p4 p5 p6 p7) fun G A0 => ?_
  have A1 := A0.iloadN (v := (2 : Int32)) (pc' := 1) d1_0 rfl rfl
  have A3 := A1.ifYes (pc' := 8) d1_1 (feq (ine (x := (2 : Int32)) (y := (0 : Int32)) rfl rfl (by decide : ¬ ((2 : Int) = 0)))).2 (by decide) (by decide)
  have A4 := A3.iloadN (v := (2 : Int32)) (pc' := 9) d1_8 rfl rfl
  have A5 := A4.iconst (z := (1 : Int32)) (pc' := 10) d1_9 rfl rfl
  have A7 := A5.icmpYes (pc' := 25) d1_10 (feq (ine (x := (2 : Int32)) (y := (1 : Int32)) rfl rfl (by decide : ¬ ((2 : Int) = 1)))).2 (by decide) (by decide)
  have A8 := A7.iloadN (v := (2 : Int32)) (pc' := 26) d1_25 rfl rfl
  have A9 := A8.iconst (z := (2 : Int32)) (pc' := 27) d1_26 rfl rfl
  have A11 := A9.icmpNo (pc' := 30) d1_27 (teq (ieq (x := (2 : Int32)) (y := (2 : Int32)) rfl rfl (by decide : (2 : Int) = 2))).2 rfl
  have A12 := A11.iconst (z := (4 : Int32)) (pc' := 31) d1_30 rfl rfl
  obtain ⟨h13, b14, eb15, g16, E17, X18, A19⟩ := A12.newP (z := (4 : Int32)) (N := 4) (cap := 4) (C' := 1) (S' := 4) (pc' := 33) d1_31 (hw _ (List.mem_of_getElem? (i := 5) rfl)) rfl (by decide) (by decide) (by decide) (by decide) rfl rfl rfl
  change Ars Z h13 b14 .int 4 (fun _ => (.int (0 : Int32))) at X18
  have A20 := A19.dup (pc' := 34) d1_33 rfl rfl
  have A21 := A20.iconst (z := (0 : Int32)) (pc' := 35) d1_34 rfl rfl
  have A22 := A21.iloadN (v := p0) (pc' := 36) d1_35 rfl rfl
  obtain ⟨h23, w24, X25, A26⟩ := A22.iastore (i := 0) (pc' := 37) d1_36 X18 rfl (by decide) g16 rfl
  have A27 := A26.dup (pc' := 38) d1_37 rfl rfl
  have A28 := A27.iconst (z := (1 : Int32)) (pc' := 39) d1_38 rfl rfl
  have A29 := A28.iloadN (v := p1) (pc' := 40) d1_39 rfl rfl
  obtain ⟨h30, w31, X32, A33⟩ := A29.iastore (i := 1) (pc' := 41) d1_40 X25 rfl (by decide) g16 rfl
  have A34 := A33.dup (pc' := 42) d1_41 rfl rfl
  have A35 := A34.iconst (z := (2 : Int32)) (pc' := 43) d1_42 rfl rfl
  have A36 := A35.iloadN (v := p2) (pc' := 44) d1_43 rfl rfl
  obtain ⟨h37, w38, X39, A40⟩ := A36.iastore (i := 2) (pc' := 45) d1_44 X32 rfl (by decide) g16 rfl
  have A41 := A40.dup (pc' := 46) d1_45 rfl rfl
  have A42 := A41.iconst (z := (3 : Int32)) (pc' := 47) d1_46 rfl rfl
  have A43 := A42.iload (v := p3) (pc' := 49) d1_47 rfl rfl
  obtain ⟨h44, w45, X46, A47⟩ := A43.iastore (i := 3) (pc' := 50) d1_49 X39 rfl (by decide) g16 rfl
  have z48 : h0.size ≤ b14 := Nat.le_trans (Nat.le_refl _) (Nat.le_of_eq eb15.symm)
  have K49 : Keep h0 h44 [] := ((((((Keep.refl h0 []).ext E17).wr w24 (Or.inr z48)).wr w31 (Or.inr z48)).wr w38 (Or.inr z48)).wr w45 (Or.inr z48))
  refine A47.retA d1_50 (by decide) (by decide) rfl rfl rfl ⟨_, rfl, ⟨K49, g16, z48, X46, ?_⟩⟩
  trivial
theorem d3_14 : decode prog_36_method_3_code 14 = .ok (.iload_n 2, 1) := by decide +kernel
theorem d3_15 : decode prog_36_method_3_code 15 = .ok (.iload_n 3, 1) := by decide +kernel
theorem d3_16 : decode prog_36_method_3_code 16 = .ok (.iadd, 1) := by decide +kernel
theorem d3_17 : decode prog_36_method_3_code 17 = .ok (.iconst 1, 1) := by decide +kernel
theorem d3_18 : decode prog_36_method_3_code 18 = .ok (.iadd, 1) := by decide +kernel
theorem d3_19 : decode prog_36_method_3_code 19 = .ok (.iconst 1, 1) := by decide +kernel
theorem d3_20 : decode prog_36_method_3_code 20 = .ok (.iushr, 1) := by decide +kernel
theorem d3_21 : decode prog_36_method_3_code 21 = .ok (.istore 4, 2) := by decide +kernel
theorem d3_23 : decode prog_36_method_3_code 23 = .ok (.aload_n 0, 1) := by decide +kernel
theorem d3_24 : decode prog_36_method_3_code 24 = .ok (.iconst 2, 1) := by decide +kernel
theorem d3_25 : decode prog_36_method_3_code 25 = .ok (.iload 4, 2) := by decide +kernel
theorem d3_27 : decode prog_36_method_3_code 27 = .ok (.imul, 1) := by decide +kernel
theorem d3_28 : decode prog_36_method_3_code 28 = .ok (.iaload, 1) := by decide +kernel
theorem d3_29 : decode prog_36_method_3_code 29 = .ok (.iload_n 1, 1) := by decide +kernel
theorem d3_30 : decode prog_36_method_3_code 30 = .ok (.if_icmp .gt 9, 3) := by decide +kernel
theorem d3_33 : decode prog_36_method_3_code 33 = .ok (.iload 4, 2) := by decide +kernel
theorem d3_35 : decode prog_36_method_3_code 35 = .ok (.istore_n 2, 1) := by decide +kernel
theorem d3_36 : decode prog_36_method_3_code 36 = .ok (.goto 8, 3) := by decide +kernel
theorem d3_39 : decode prog_36_method_3_code 39 = .ok (.iload 4, 2) := by decide +kernel
theorem d3_41 : decode prog_36_method_3_code 41 = .ok (.iconst 1, 1) := by decide +kernel
theorem d3_42 : decode prog_36_method_3_code 42 = .ok (.isub, 1) := by decide +kernel
theorem d3_43 : decode prog_36_method_3_code 43 = .ok (.istore_n 3, 1) := by decide +kernel
theorem d3_44 : decode prog_36_method_3_code 44 = .ok (.goto (-35), 3) := by decide +kernel
abbrev y3_2 : MethodName := (⟨"com/example/dialekt/dialekt/regex/CodePointRanges", "contains", "([II)Z"⟩ : MethodName)
abbrev R3_2 : Room := { frames := 0, cells := 0, slots := 0, locals := 0 }
set_option maxRecDepth 65536 in
set_option maxHeartbeats 4000000 in
theorem ef3_2 (a : Addr) (c : Int32) (mid : MethodId) : entryFrame mid #[(.ref a), (.int c)] 5 = mkF mid 0 #[.val (.ref a), .val (.int c), .unset, .unset, .unset] [] := by first | (simp [entryFrame, mkF, argsToLocals, Value.category]; done) | rfl
set_option maxRecDepth 65536 in
set_option maxHeartbeats 40000000 in
theorem rm3_2 (l : Launch) (Z : State) (a0 : Array Value) (hw : ∀ d ∈ tables_1, d.before a0 Z = true) (n0 : Nat) (ws : List Jvm.Cond) (a : Addr) (c : Int32) (f : Nat → Value) (v0 : Int32) (v1 : Int32) (v2 : Int32) (v3 : Int32) (h0 : Heap) (hn0 : n0 ≤ h0.size) (e0 : Ars Z h0 a .int 4 f) (e1 : f 0 = .int v0) (e2 : f 1 = .int v1) (e3 : f 2 = .int v2) (e4 : f 3 = .int v3) (e5 : v0.toInt ≤ v1.toInt ∧ v1.toInt < v2.toInt ∧ v2.toInt ≤ v3.toInt) :
    Ctr l Z n0 y3_2 prog_36_method_3_code 5 (some .boolean) ws R3_2 #[(.ref a), (.int c)] h0 (QI fun r h => (h0 = h) ∧ ((r.toInt = 1 ∧ (v0.toInt ≤ c.toInt ∧ c.toInt ≤ v1.toInt ∨ v2.toInt ≤ c.toInt ∧ c.toInt ≤ v3.toInt)) ∨ (r.toInt = 0 ∧ ¬ (v0.toInt ≤ c.toInt ∧ c.toInt ≤ v1.toInt ∨ v2.toInt ≤ c.toInt ∧ c.toInt ≤ v3.toInt)))) := by
  refine ctr_of pn3 hn0 (ef3_2 a c) fun G A0 => ?_
  have A1 := A0.iconst (z := (0 : Int32)) (pc' := 1) d3_0 rfl rfl
  have A2 := A1.istoreN (Ls' := #[.val (.ref a), .val (.int c), .val (.int (0 : Int32)), .unset, .unset]) (pc' := 2) d3_1 rfl rfl
  have A3 := A2.aloadN (v := (.ref a)) (pc' := 3) d3_2 rfl rfl rfl
  have A4 := A3.alen (z := (4 : Int32)) (pc' := 4) d3_3 e0 rfl rfl
  have A5 := A4.iconst (z := (2 : Int32)) (pc' := 5) d3_4 rfl rfl
  have A6 := A5.idiv (pc' := 6) d3_5 (by decide) rfl
  have A7 := A6.topI (z := (2 : Int32)) (by decide)
  have A8 := A7.iconst (z := (1 : Int32)) (pc' := 7) d3_6 rfl rfl
  have A9 := A8.isub (pc' := 8) d3_7 rfl
  have A10 := A9.topI (z := (1 : Int32)) (by decide)
  have A11 := A10.istoreN (Ls' := #[.val (.ref a), .val (.int c), .val (.int (0 : Int32)), .val (.int (1 : Int32)), .unset]) (pc' := 9) d3_8 rfl rfl
  have A12 := A11.iloadN (v := (0 : Int32)) (pc' := 10) d3_9 rfl rfl
  have A13 := A12.iloadN (v := (1 : Int32)) (pc' := 11) d3_10 rfl rfl
  have A15 := A13.icmpNo (pc' := 14) d3_11 (tlt (ilt (x := (0 : Int32)) (y := (1 : Int32)) rfl rfl (by decide : (0 : Int) < 1))).2.1 rfl
  have A16 := A15.iloadN (v := (0 : Int32)) (pc' := 15) d3_14 rfl rfl
  have A17 := A16.iloadN (v := (1 : Int32)) (pc' := 16) d3_15 rfl rfl
  have A18 := A17.iadd (pc' := 17) d3_16 rfl
  have A19 := A18.topI (z := (1 : Int32)) (by decide)
  have A20 := A19.iconst (z := (1 : Int32)) (pc' := 18) d3_17 rfl rfl
  have A21 := A20.iadd (pc' := 19) d3_18 rfl
  have A22 := A21.topI (z := (2 : Int32)) (by decide)
  have A23 := A22.iconst (z := (1 : Int32)) (pc' := 20) d3_19 rfl rfl
  have A24 := A23.iushr (pc' := 21) d3_20 rfl
  have A25 := A24.topI (z := (1 : Int32)) (by decide)
  have A26 := A25.istore (Ls' := #[.val (.ref a), .val (.int c), .val (.int (0 : Int32)), .val (.int (1 : Int32)), .val (.int (1 : Int32))]) (pc' := 23) d3_21 rfl rfl
  have A27 := A26.aloadN (v := (.ref a)) (pc' := 24) d3_23 rfl rfl rfl
  have A28 := A27.iconst (z := (2 : Int32)) (pc' := 25) d3_24 rfl rfl
  have A29 := A28.iload (v := (1 : Int32)) (pc' := 27) d3_25 rfl rfl
  have A30 := A29.imul (pc' := 28) d3_27 rfl
  have A31 := A30.topI (z := (2 : Int32)) (by decide)
  have A32 := A31.iaload (i := 2) (v := (.int v2)) (pc' := 29) d3_28 e0 rfl (by decide) e3 rfl
  have A33 := A32.iloadN (v := c) (pc' := 30) d3_29 rfl rfl
  by_cases c34 : c.toInt < v2.toInt
  · have A35 := A33.icmpYes (pc' := 39) d3_30 (tlt (igt (x := v2) (y := c) rfl rfl c34)).2.2.1 (by decide) (by decide)
    have A36 := A35.iload (v := (1 : Int32)) (pc' := 41) d3_39 rfl rfl
    have A37 := A36.iconst (z := (1 : Int32)) (pc' := 42) d3_41 rfl rfl
    have A38 := A37.isub (pc' := 43) d3_42 rfl
    have A39 := A38.topI (z := (0 : Int32)) (by decide)
    have A40 := A39.istoreN (Ls' := #[.val (.ref a), .val (.int c), .val (.int (0 : Int32)), .val (.int (0 : Int32)), .val (.int (1 : Int32))]) (pc' := 44) d3_43 rfl rfl
    have A41 := A40.goto (pc' := 9) d3_44 (by decide) (by decide)
    have A42 := A41.iloadN (v := (0 : Int32)) (pc' := 10) d3_9 rfl rfl
    have A43 := A42.iloadN (v := (0 : Int32)) (pc' := 11) d3_10 rfl rfl
    have A45 := A43.icmpYes (pc' := 47) d3_11 (flt (inlt (x := (0 : Int32)) (y := (0 : Int32)) rfl rfl (by decide : ¬ ((0 : Int) < 0)))).2.1 (by decide) (by decide)
    have A46 := A45.iloadN (v := (0 : Int32)) (pc' := 48) d3_47 rfl rfl
    have A48 := A46.ifNo (pc' := 51) d3_48 (flt (inlt (x := (0 : Int32)) (y := (0 : Int32)) rfl rfl (by decide : ¬ ((0 : Int) < 0)))).1 rfl
    have A49 := A48.aloadN (v := (.ref a)) (pc' := 52) d3_51 rfl rfl rfl
    have A50 := A49.iconst (z := (2 : Int32)) (pc' := 53) d3_52 rfl rfl
    have A51 := A50.iloadN (v := (0 : Int32)) (pc' := 54) d3_53 rfl rfl
    have A52 := A51.imul (pc' := 55) d3_54 rfl
    have A53 := A52.topI (z := (0 : Int32)) (by decide)
    have A54 := A53.iaload (i := 0) (v := (.int v0)) (pc' := 56) d3_55 e0 rfl (by decide) e1 rfl
    have A55 := A54.iloadN (v := c) (pc' := 57) d3_56 rfl rfl
    by_cases c56 : c.toInt < v0.toInt
    · have A57 := A55.icmpYes (pc' := 75) d3_57 (tlt (igt (x := v0) (y := c) rfl rfl c56)).2.2.1 (by decide) (by decide)
      have A58 := A57.iconst (z := (0 : Int32)) (pc' := 76) d3_75 rfl rfl
      refine A58.retN (t := .boolean) (z' := (0 : Int32)) d3_76 (by decide) (by decide) (by simp) rfl ⟨_, rfl, ⟨rfl, ?_⟩⟩
      have elit : (0 : Int32).toInt = 0 := rfl
      omega
    · have A59 := A55.icmpNo (pc' := 60) d3_57 (flt (ingt (x := v0) (y := c) rfl rfl c56)).2.2.1 rfl
      have A60 := A59.iloadN (v := c) (pc' := 61) d3_60 rfl rfl
      have A61 := A60.aloadN (v := (.ref a)) (pc' := 62) d3_61 rfl rfl rfl
      have A62 := A61.iconst (z := (2 : Int32)) (pc' := 63) d3_62 rfl rfl
      have A63 := A62.iloadN (v := (0 : Int32)) (pc' := 64) d3_63 rfl rfl
      have A64 := A63.imul (pc' := 65) d3_64 rfl
      have A65 := A64.topI (z := (0 : Int32)) (by decide)
      have A66 := A65.iconst (z := (1 : Int32)) (pc' := 66) d3_65 rfl rfl
      have A67 := A66.iadd (pc' := 67) d3_66 rfl
      have A68 := A67.topI (z := (1 : Int32)) (by decide)
      have A69 := A68.iaload (i := 1) (v := (.int v1)) (pc' := 68) d3_67 e0 rfl (by decide) e2 rfl
      by_cases c70 : v1.toInt < c.toInt
      · have A71 := A69.icmpYes (pc' := 75) d3_68 (tlt (igt (x := c) (y := v1) rfl rfl c70)).2.2.1 (by decide) (by decide)
        have A72 := A71.iconst (z := (0 : Int32)) (pc' := 76) d3_75 rfl rfl
        refine A72.retN (t := .boolean) (z' := (0 : Int32)) d3_76 (by decide) (by decide) (by simp) rfl ⟨_, rfl, ⟨rfl, ?_⟩⟩
        have elit : (0 : Int32).toInt = 0 := rfl
        omega
      · have A73 := A69.icmpNo (pc' := 71) d3_68 (flt (ingt (x := c) (y := v1) rfl rfl c70)).2.2.1 rfl
        have A74 := A73.iconst (z := (1 : Int32)) (pc' := 72) d3_71 rfl rfl
        have A75 := A74.goto (pc' := 76) d3_72 (by decide) (by decide)
        refine A75.retN (t := .boolean) (z' := (1 : Int32)) d3_76 (by decide) (by decide) (by simp) rfl ⟨_, rfl, ⟨rfl, ?_⟩⟩
        have elit : (1 : Int32).toInt = 1 := rfl
        omega
  · have A76 := A33.icmpNo (pc' := 33) d3_30 (flt (ingt (x := v2) (y := c) rfl rfl c34)).2.2.1 rfl
    have A77 := A76.iload (v := (1 : Int32)) (pc' := 35) d3_33 rfl rfl
    have A78 := A77.istoreN (Ls' := #[.val (.ref a), .val (.int c), .val (.int (1 : Int32)), .val (.int (1 : Int32)), .val (.int (1 : Int32))]) (pc' := 36) d3_35 rfl rfl
    have A79 := A78.goto (pc' := 44) d3_36 (by decide) (by decide)
    have A80 := A79.goto (pc' := 9) d3_44 (by decide) (by decide)
    have A81 := A80.iloadN (v := (1 : Int32)) (pc' := 10) d3_9 rfl rfl
    have A82 := A81.iloadN (v := (1 : Int32)) (pc' := 11) d3_10 rfl rfl
    have A84 := A82.icmpYes (pc' := 47) d3_11 (flt (inlt (x := (1 : Int32)) (y := (1 : Int32)) rfl rfl (by decide : ¬ ((1 : Int) < 1)))).2.1 (by decide) (by decide)
    have A85 := A84.iloadN (v := (1 : Int32)) (pc' := 48) d3_47 rfl rfl
    have A87 := A85.ifNo (pc' := 51) d3_48 (flt (inlt (x := (1 : Int32)) (y := (0 : Int32)) rfl rfl (by decide : ¬ ((1 : Int) < 0)))).1 rfl
    have A88 := A87.aloadN (v := (.ref a)) (pc' := 52) d3_51 rfl rfl rfl
    have A89 := A88.iconst (z := (2 : Int32)) (pc' := 53) d3_52 rfl rfl
    have A90 := A89.iloadN (v := (1 : Int32)) (pc' := 54) d3_53 rfl rfl
    have A91 := A90.imul (pc' := 55) d3_54 rfl
    have A92 := A91.topI (z := (2 : Int32)) (by decide)
    have A93 := A92.iaload (i := 2) (v := (.int v2)) (pc' := 56) d3_55 e0 rfl (by decide) e3 rfl
    have A94 := A93.iloadN (v := c) (pc' := 57) d3_56 rfl rfl
    by_cases c95 : c.toInt < v2.toInt
    · have A96 := A94.icmpYes (pc' := 75) d3_57 (tlt (igt (x := v2) (y := c) rfl rfl c95)).2.2.1 (by decide) (by decide)
      have A97 := A96.iconst (z := (0 : Int32)) (pc' := 76) d3_75 rfl rfl
      refine A97.retN (t := .boolean) (z' := (0 : Int32)) d3_76 (by decide) (by decide) (by simp) rfl ⟨_, rfl, ⟨rfl, ?_⟩⟩
      have elit : (0 : Int32).toInt = 0 := rfl
      omega
    · have A98 := A94.icmpNo (pc' := 60) d3_57 (flt (ingt (x := v2) (y := c) rfl rfl c95)).2.2.1 rfl
      have A99 := A98.iloadN (v := c) (pc' := 61) d3_60 rfl rfl
      have A100 := A99.aloadN (v := (.ref a)) (pc' := 62) d3_61 rfl rfl rfl
      have A101 := A100.iconst (z := (2 : Int32)) (pc' := 63) d3_62 rfl rfl
      have A102 := A101.iloadN (v := (1 : Int32)) (pc' := 64) d3_63 rfl rfl
      have A103 := A102.imul (pc' := 65) d3_64 rfl
      have A104 := A103.topI (z := (2 : Int32)) (by decide)
      have A105 := A104.iconst (z := (1 : Int32)) (pc' := 66) d3_65 rfl rfl
      have A106 := A105.iadd (pc' := 67) d3_66 rfl
      have A107 := A106.topI (z := (3 : Int32)) (by decide)
      have A108 := A107.iaload (i := 3) (v := (.int v3)) (pc' := 68) d3_67 e0 rfl (by decide) e4 rfl
      by_cases c109 : v3.toInt < c.toInt
      · have A110 := A108.icmpYes (pc' := 75) d3_68 (tlt (igt (x := c) (y := v3) rfl rfl c109)).2.2.1 (by decide) (by decide)
        have A111 := A110.iconst (z := (0 : Int32)) (pc' := 76) d3_75 rfl rfl
        refine A111.retN (t := .boolean) (z' := (0 : Int32)) d3_76 (by decide) (by decide) (by simp) rfl ⟨_, rfl, ⟨rfl, ?_⟩⟩
        have elit : (0 : Int32).toInt = 0 := rfl
        omega
      · have A112 := A108.icmpNo (pc' := 71) d3_68 (flt (ingt (x := c) (y := v3) rfl rfl c109)).2.2.1 rfl
        have A113 := A112.iconst (z := (1 : Int32)) (pc' := 72) d3_71 rfl rfl
        have A114 := A113.goto (pc' := 76) d3_72 (by decide) (by decide)
        refine A114.retN (t := .boolean) (z' := (1 : Int32)) d3_76 (by decide) (by decide) (by simp) rfl ⟨_, rfl, ⟨rfl, ?_⟩⟩
        have elit : (1 : Int32).toInt = 1 := rfl
        omega
theorem d1_51 : decode method_3_code 51 = .ok (.iload_n 0, 1) := by decide +kernel
theorem d1_52 : decode method_3_code 52 = .ok (.iconst 3, 1) := by decide +kernel
theorem d1_53 : decode method_3_code 53 = .ok (.if_icmp .ne 35, 3) := by decide +kernel
theorem d1_56 : decode method_3_code 56 = .ok (.bipush 6, 2) := by decide +kernel
theorem d1_58 : decode method_3_code 58 = .ok (.newarray .int, 2) := by decide +kernel
theorem d1_60 : decode method_3_code 60 = .ok (.dup, 1) := by decide +kernel
theorem d1_61 : decode method_3_code 61 = .ok (.iconst 0, 1) := by decide +kernel
theorem d1_62 : decode method_3_code 62 = .ok (.iload_n 1, 1) := by decide +kernel
theorem d1_63 : decode method_3_code 63 = .ok (.iastore, 1) := by decide +kernel
theorem d1_64 : decode method_3_code 64 = .ok (.dup, 1) := by decide +kernel
theorem d1_65 : decode method_3_code 65 = .ok (.iconst 1, 1) := by decide +kernel
theorem d1_66 : decode method_3_code 66 = .ok (.iload_n 2, 1) := by decide +kernel
theorem d1_67 : decode method_3_code 67 = .ok (.iastore, 1) := by decide +kernel
theorem d1_68 : decode method_3_code 68 = .ok (.dup, 1) := by decide +kernel
theorem d1_69 : decode method_3_code 69 = .ok (.iconst 2, 1) := by decide +kernel
theorem d1_70 : decode method_3_code 70 = .ok (.iload_n 3, 1) := by decide +kernel
theorem d1_71 : decode method_3_code 71 = .ok (.iastore, 1) := by decide +kernel
theorem d1_72 : decode method_3_code 72 = .ok (.dup, 1) := by decide +kernel
theorem d1_73 : decode method_3_code 73 = .ok (.iconst 3, 1) := by decide +kernel
theorem d1_74 : decode method_3_code 74 = .ok (.iload 4, 2) := by decide +kernel
theorem d1_76 : decode method_3_code 76 = .ok (.iastore, 1) := by decide +kernel
theorem d1_77 : decode method_3_code 77 = .ok (.dup, 1) := by decide +kernel
theorem d1_78 : decode method_3_code 78 = .ok (.iconst 4, 1) := by decide +kernel
theorem d1_79 : decode method_3_code 79 = .ok (.iload 5, 2) := by decide +kernel
theorem d1_81 : decode method_3_code 81 = .ok (.iastore, 1) := by decide +kernel
theorem d1_82 : decode method_3_code 82 = .ok (.dup, 1) := by decide +kernel
theorem d1_83 : decode method_3_code 83 = .ok (.iconst 5, 1) := by decide +kernel
theorem d1_84 : decode method_3_code 84 = .ok (.iload 6, 2) := by decide +kernel
theorem d1_86 : decode method_3_code 86 = .ok (.iastore, 1) := by decide +kernel
theorem d1_87 : decode method_3_code 87 = .ok (.areturn, 1) := by decide +kernel
abbrev y1_3 : MethodName := (⟨"com/example/dialekt/dialekt/regex/CodePointRangesContainsPinLaw", "table", "(IIIIIIIII)[I"⟩ : MethodName)
abbrev R1_3 : Room := { frames := 0, cells := 1, slots := 6, locals := 0 }
set_option maxRecDepth 65536 in
set_option maxHeartbeats 4000000 in
theorem ef1_3 (p0 : Int32) (p1 : Int32) (p2 : Int32) (p3 : Int32) (p4 : Int32) (p5 : Int32) (p6 : Int32) (p7 : Int32) (mid : MethodId) : entryFrame mid #[(.int (3 : Int32)), (.int p0), (.int p1), (.int p2), (.int p3), (.int p4), (.int p5), (.int p6), (.int p7)] 9 = mkF mid 0 #[.val (.int (3 : Int32)), .val (.int p0), .val (.int p1), .val (.int p2), .val (.int p3), .val (.int p4), .val (.int p5), .val (.int p6), .val (.int p7)] [] := by first | (simp [entryFrame, mkF, argsToLocals, Value.category]; done) | rfl
set_option maxRecDepth 65536 in
set_option maxHeartbeats 40000000 in
theorem rm1_3 (l : Launch) (Z : State) (a0 : Array Value) (hw : ∀ d ∈ tables_1, d.before a0 Z = true) (n0 : Nat) (ws : List Jvm.Cond) (p0 : Int32) (p1 : Int32) (p2 : Int32) (p3 : Int32) (p4 : Int32) (p5 : Int32) (p6 : Int32) (p7 : Int32)  (h0 : Heap) (hn0 : n0 ≤ h0.size)  :
    Ctr l Z n0 y1_3 method_3_code 9 (some (.array .int)) ws R1_3 #[(.int (3 : Int32)), (.int p0), (.int p1), (.int p2), (.int p3), (.int p4), (.int p5), (.int p6), (.int p7)] h0 (QA fun r h => (Keep h0 h []) ∧ (n0 ≤ r) ∧ (h0.size ≤ r) ∧ (Ars Z h r .int 6 (upd (upd (upd (upd (upd (upd (fun _ => (.int (0 : Int32))) 0 (.int p0)) 1 (.int p1)) 2 (.int p2)) 3 (.int p3)) 4 (.int p4)) 5 (.int p5))) ∧ (True)) := by
  refine ctr_of pn1 hn0 (ef1_3 p0 p1 p2 p3 p4 p5 p6 p7) fun G A0 => ?_
  have A1 := A0.iloadN (v := (3 : Int32)) (pc' := 1) d1_0 rfl rfl
  have A3 := A1.ifYes (pc' := 8) d1_1 (feq (ine (x := (3 : Int32)) (y := (0 : Int32)) rfl rfl (by decide : ¬ ((3 : Int) = 0)))).2 (by decide) (by decide)
  have A4 := A3.iloadN (v := (3 : Int32)) (pc' := 9) d1_8 rfl rfl
  have A5 := A4.iconst (z := (1 : Int32)) (pc' := 10) d1_9 rfl rfl
  have A7 := A5.icmpYes (pc' := 25) d1_10 (feq (ine (x := (3 : Int32)) (y := (1 : Int32)) rfl rfl (by decide : ¬ ((3 : Int) = 1)))).2 (by decide) (by decide)
  have A8 := A7.iloadN (v := (3 : Int32)) (pc' := 26) d1_25 rfl rfl
  have A9 := A8.iconst (z := (2 : Int32)) (pc' := 27) d1_26 rfl rfl
  have A11 := A9.icmpYes (pc' := 51) d1_27 (feq (ine (x := (3 : Int32)) (y := (2 : Int32)) rfl rfl (by decide : ¬ ((3 : Int) = 2)))).2 (by decide) (by decide)
  have A12 := A11.iloadN (v := (3 : Int32)) (pc' := 52) d1_51 rfl rfl
  have A13 := A12.iconst (z := (3 : Int32)) (pc' := 53) d1_52 rfl rfl
  have A15 := A13.icmpNo (pc' := 56) d1_53 (teq (ieq (x := (3 : Int32)) (y := (3 : Int32)) rfl rfl (by decide : (3 : Int) = 3))).2 rfl
  have A16 := A15.bipush (z := (6 : Int32)) (pc' := 58) d1_56 rfl rfl
  obtain ⟨h17, b18, eb19, g20, E21, X22, A23⟩ := A16.newP (z := (6 : Int32)) (N := 6) (cap := 6) (C' := 1) (S' := 6) (pc' := 60) d1_58 (hw _ (List.mem_of_getElem? (i := 5) rfl)) rfl (by decide) (by decide) (by decide) (by decide) rfl rfl rfl
  change Ars Z h17 b18 .int 6 (fun _ => (.int (0 : Int32))) at X22
  have A24 := A23.dup (pc' := 61) d1_60 rfl rfl
  have A25 := A24.iconst (z := (0 : Int32)) (pc' := 62) d1_61 rfl rfl
  have A26 := A25.iloadN (v := p0) (pc' := 63) d1_62 rfl rfl
  obtain ⟨h27, w28, X29, A30⟩ := A26.iastore (i := 0) (pc' := 64) d1_63 X22 rfl (by decide) g20 rfl
  have A31 := A30.dup (pc' := 65) d1_64 rfl rfl
  have A32 := A31.iconst (z := (1 : Int32)) (pc' := 66) d1_65 rfl rfl
  have A33 := A32.iloadN (v := p1) (pc' := 67) d1_66 rfl rfl
  obtain ⟨h34, w35, X36, A37⟩ := A33.iastore (i := 1) (pc' := 68) d1_67 X29 rfl (by decide) g20 rfl
  have A38 := A37.dup (pc' := 69) d1_68 rfl rfl
  have A39 := A38.iconst (z := (2 : Int32)) (pc' := 70) d1_69 rfl rfl
  have A40 := A39.iloadN (v := p2) (pc' := 71) d1_70 rfl rfl
  obtain ⟨h41, w42, X43, A44⟩ := A40.iastore (i := 2) (pc' := 72) d1_71 X36 rfl (by decide) g20 rfl
  have A45 := A44.dup (pc' := 73) d1_72 rfl rfl
  have A46 := A45.iconst (z := (3 : Int32)) (pc' := 74) d1_73 rfl rfl
  have A47 := A46.iload (v := p3) (pc' := 76) d1_74 rfl rfl
  obtain ⟨h48, w49, X50, A51⟩ := A47.iastore (i := 3) (pc' := 77) d1_76 X43 rfl (by decide) g20 rfl
  have A52 := A51.dup (pc' := 78) d1_77 rfl rfl
  have A53 := A52.iconst (z := (4 : Int32)) (pc' := 79) d1_78 rfl rfl
  have A54 := A53.iload (v := p4) (pc' := 81) d1_79 rfl rfl
  obtain ⟨h55, w56, X57, A58⟩ := A54.iastore (i := 4) (pc' := 82) d1_81 X50 rfl (by decide) g20 rfl
  have A59 := A58.dup (pc' := 83) d1_82 rfl rfl
  have A60 := A59.iconst (z := (5 : Int32)) (pc' := 84) d1_83 rfl rfl
  have A61 := A60.iload (v := p5) (pc' := 86) d1_84 rfl rfl
  obtain ⟨h62, w63, X64, A65⟩ := A61.iastore (i := 5) (pc' := 87) d1_86 X57 rfl (by decide) g20 rfl
  have z66 : h0.size ≤ b18 := Nat.le_trans (Nat.le_refl _) (Nat.le_of_eq eb19.symm)
  have K67 : Keep h0 h62 [] := ((((((((Keep.refl h0 []).ext E21).wr w28 (Or.inr z66)).wr w35 (Or.inr z66)).wr w42 (Or.inr z66)).wr w49 (Or.inr z66)).wr w56 (Or.inr z66)).wr w63 (Or.inr z66))
  refine A65.retA d1_87 (by decide) (by decide) rfl rfl rfl ⟨_, rfl, ⟨K67, g20, z66, X64, ?_⟩⟩
  trivial
abbrev y3_3 : MethodName := (⟨"com/example/dialekt/dialekt/regex/CodePointRanges", "contains", "([II)Z"⟩ : MethodName)
abbrev R3_3 : Room := { frames := 0, cells := 0, slots := 0, locals := 0 }
set_option maxRecDepth 65536 in
set_option maxHeartbeats 4000000 in
theorem ef3_3 (a : Addr) (c : Int32) (mid : MethodId) : entryFrame mid #[(.ref a), (.int c)] 5 = mkF mid 0 #[.val (.ref a), .val (.int c), .unset, .unset, .unset] [] := by first | (simp [entryFrame, mkF, argsToLocals, Value.category]; done) | rfl
set_option maxRecDepth 65536 in
set_option maxHeartbeats 40000000 in
theorem rm3_3 (l : Launch) (Z : State) (a0 : Array Value) (hw : ∀ d ∈ tables_1, d.before a0 Z = true) (n0 : Nat) (ws : List Jvm.Cond) (a : Addr) (c : Int32) (f : Nat → Value) (v0 : Int32) (v1 : Int32) (v2 : Int32) (v3 : Int32) (v4 : Int32) (v5 : Int32) (h0 : Heap) (hn0 : n0 ≤ h0.size) (e0 : Ars Z h0 a .int 6 f) (e1 : f 0 = .int v0) (e2 : f 1 = .int v1) (e3 : f 2 = .int v2) (e4 : f 3 = .int v3) (e5 : f 4 = .int v4) (e6 : f 5 = .int v5) (e7 : v0.toInt ≤ v1.toInt ∧ v1.toInt < v2.toInt ∧ v2.toInt ≤ v3.toInt ∧ v3.toInt < v4.toInt ∧ v4.toInt ≤ v5.toInt) :
    Ctr l Z n0 y3_3 prog_36_method_3_code 5 (some .boolean) ws R3_3 #[(.ref a), (.int c)] h0 (QI fun r h => (h0 = h) ∧ ((r.toInt = 1 ∧ (v0.toInt ≤ c.toInt ∧ c.toInt ≤ v1.toInt ∨ v2.toInt ≤ c.toInt ∧ c.toInt ≤ v3.toInt ∨ v4.toInt ≤ c.toInt ∧ c.toInt ≤ v5.toInt)) ∨ (r.toInt = 0 ∧ ¬ (v0.toInt ≤ c.toInt ∧ c.toInt ≤ v1.toInt ∨ v2.toInt ≤ c.toInt ∧ c.toInt ≤ v3.toInt ∨ v4.toInt ≤ c.toInt ∧ c.toInt ≤ v5.toInt)))) := by
  refine ctr_of pn3 hn0 (ef3_3 a c) fun G A0 => ?_
  have A1 := A0.iconst (z := (0 : Int32)) (pc' := 1) d3_0 rfl rfl
  have A2 := A1.istoreN (Ls' := #[.val (.ref a), .val (.int c), .val (.int (0 : Int32)), .unset, .unset]) (pc' := 2) d3_1 rfl rfl
  have A3 := A2.aloadN (v := (.ref a)) (pc' := 3) d3_2 rfl rfl rfl
  have A4 := A3.alen (z := (6 : Int32)) (pc' := 4) d3_3 e0 rfl rfl
  have A5 := A4.iconst (z := (2 : Int32)) (pc' := 5) d3_4 rfl rfl
  have A6 := A5.idiv (pc' := 6) d3_5 (by decide) rfl
  have A7 := A6.topI (z := (3 : Int32)) (by decide)
  have A8 := A7.iconst (z := (1 : Int32)) (pc' := 7) d3_6 rfl rfl
  have A9 := A8.isub (pc' := 8) d3_7 rfl
  have A10 := A9.topI (z := (2 : Int32)) (by decide)
  have A11 := A10.istoreN (Ls' := #[.val (.ref a), .val (.int c), .val (.int (0 : Int32)), .val (.int (2 : Int32)), .unset]) (pc' := 9) d3_8 rfl rfl
  have A12 := A11.iloadN (v := (0 : Int32)) (pc' := 10) d3_9 rfl rfl
  have A13 := A12.iloadN (v := (2 : Int32)) (pc' := 11) d3_10 rfl rfl
  have A15 := A13.icmpNo (pc' := 14) d3_11 (tlt (ilt (x := (0 : Int32)) (y := (2 : Int32)) rfl rfl (by decide : (0 : Int) < 2))).2.1 rfl
  have A16 := A15.iloadN (v := (0 : Int32)) (pc' := 15) d3_14 rfl rfl
  have A17 := A16.iloadN (v := (2 : Int32)) (pc' := 16) d3_15 rfl rfl
  have A18 := A17.iadd (pc' := 17) d3_16 rfl
  have A19 := A18.topI (z := (2 : Int32)) (by decide)
  have A20 := A19.iconst (z := (1 : Int32)) (pc' := 18) d3_17 rfl rfl
  have A21 := A20.iadd (pc' := 19) d3_18 rfl
  have A22 := A21.topI (z := (3 : Int32)) (by decide)
  have A23 := A22.iconst (z := (1 : Int32)) (pc' := 20) d3_19 rfl rfl
  have A24 := A23.iushr (pc' := 21) d3_20 rfl
  have A25 := A24.topI (z := (1 : Int32)) (by decide)
  have A26 := A25.istore (Ls' := #[.val (.ref a), .val (.int c), .val (.int (0 : Int32)), .val (.int (2 : Int32)), .val (.int (1 : Int32))]) (pc' := 23) d3_21 rfl rfl
  have A27 := A26.aloadN (v := (.ref a)) (pc' := 24) d3_23 rfl rfl rfl
  have A28 := A27.iconst (z := (2 : Int32)) (pc' := 25) d3_24 rfl rfl
  have A29 := A28.iload (v := (1 : Int32)) (pc' := 27) d3_25 rfl rfl
  have A30 := A29.imul (pc' := 28) d3_27 rfl
  have A31 := A30.topI (z := (2 : Int32)) (by decide)
  have A32 := A31.iaload (i := 2) (v := (.int v2)) (pc' := 29) d3_28 e0 rfl (by decide) e3 rfl
  have A33 := A32.iloadN (v := c) (pc' := 30) d3_29 rfl rfl
  by_cases c34 : c.toInt < v2.toInt
  · have A35 := A33.icmpYes (pc' := 39) d3_30 (tlt (igt (x := v2) (y := c) rfl rfl c34)).2.2.1 (by decide) (by decide)
    have A36 := A35.iload (v := (1 : Int32)) (pc' := 41) d3_39 rfl rfl
    have A37 := A36.iconst (z := (1 : Int32)) (pc' := 42) d3_41 rfl rfl
    have A38 := A37.isub (pc' := 43) d3_42 rfl
    have A39 := A38.topI (z := (0 : Int32)) (by decide)
    have A40 := A39.istoreN (Ls' := #[.val (.ref a), .val (.int c), .val (.int (0 : Int32)), .val (.int (0 : Int32)), .val (.int (1 : Int32))]) (pc' := 44) d3_43 rfl rfl
    have A41 := A40.goto (pc' := 9) d3_44 (by decide) (by decide)
    have A42 := A41.iloadN (v := (0 : Int32)) (pc' := 10) d3_9 rfl rfl
    have A43 := A42.iloadN (v := (0 : Int32)) (pc' := 11) d3_10 rfl rfl
    have A45 := A43.icmpYes (pc' := 47) d3_11 (flt (inlt (x := (0 : Int32)) (y := (0 : Int32)) rfl rfl (by decide : ¬ ((0 : Int) < 0)))).2.1 (by decide) (by decide)
    have A46 := A45.iloadN (v := (0 : Int32)) (pc' := 48) d3_47 rfl rfl
    have A48 := A46.ifNo (pc' := 51) d3_48 (flt (inlt (x := (0 : Int32)) (y := (0 : Int32)) rfl rfl (by decide : ¬ ((0 : Int) < 0)))).1 rfl
    have A49 := A48.aloadN (v := (.ref a)) (pc' := 52) d3_51 rfl rfl rfl
    have A50 := A49.iconst (z := (2 : Int32)) (pc' := 53) d3_52 rfl rfl
    have A51 := A50.iloadN (v := (0 : Int32)) (pc' := 54) d3_53 rfl rfl
    have A52 := A51.imul (pc' := 55) d3_54 rfl
    have A53 := A52.topI (z := (0 : Int32)) (by decide)
    have A54 := A53.iaload (i := 0) (v := (.int v0)) (pc' := 56) d3_55 e0 rfl (by decide) e1 rfl
    have A55 := A54.iloadN (v := c) (pc' := 57) d3_56 rfl rfl
    by_cases c56 : c.toInt < v0.toInt
    · have A57 := A55.icmpYes (pc' := 75) d3_57 (tlt (igt (x := v0) (y := c) rfl rfl c56)).2.2.1 (by decide) (by decide)
      have A58 := A57.iconst (z := (0 : Int32)) (pc' := 76) d3_75 rfl rfl
      refine A58.retN (t := .boolean) (z' := (0 : Int32)) d3_76 (by decide) (by decide) (by simp) rfl ⟨_, rfl, ⟨rfl, ?_⟩⟩
      have elit : (0 : Int32).toInt = 0 := rfl
      omega
    · have A59 := A55.icmpNo (pc' := 60) d3_57 (flt (ingt (x := v0) (y := c) rfl rfl c56)).2.2.1 rfl
      have A60 := A59.iloadN (v := c) (pc' := 61) d3_60 rfl rfl
      have A61 := A60.aloadN (v := (.ref a)) (pc' := 62) d3_61 rfl rfl rfl
      have A62 := A61.iconst (z := (2 : Int32)) (pc' := 63) d3_62 rfl rfl
      have A63 := A62.iloadN (v := (0 : Int32)) (pc' := 64) d3_63 rfl rfl
      have A64 := A63.imul (pc' := 65) d3_64 rfl
      have A65 := A64.topI (z := (0 : Int32)) (by decide)
      have A66 := A65.iconst (z := (1 : Int32)) (pc' := 66) d3_65 rfl rfl
      have A67 := A66.iadd (pc' := 67) d3_66 rfl
      have A68 := A67.topI (z := (1 : Int32)) (by decide)
      have A69 := A68.iaload (i := 1) (v := (.int v1)) (pc' := 68) d3_67 e0 rfl (by decide) e2 rfl
      by_cases c70 : v1.toInt < c.toInt
      · have A71 := A69.icmpYes (pc' := 75) d3_68 (tlt (igt (x := c) (y := v1) rfl rfl c70)).2.2.1 (by decide) (by decide)
        have A72 := A71.iconst (z := (0 : Int32)) (pc' := 76) d3_75 rfl rfl
        refine A72.retN (t := .boolean) (z' := (0 : Int32)) d3_76 (by decide) (by decide) (by simp) rfl ⟨_, rfl, ⟨rfl, ?_⟩⟩
        have elit : (0 : Int32).toInt = 0 := rfl
        omega
      · have A73 := A69.icmpNo (pc' := 71) d3_68 (flt (ingt (x := c) (y := v1) rfl rfl c70)).2.2.1 rfl
        have A74 := A73.iconst (z := (1 : Int32)) (pc' := 72) d3_71 rfl rfl
        have A75 := A74.goto (pc' := 76) d3_72 (by decide) (by decide)
        refine A75.retN (t := .boolean) (z' := (1 : Int32)) d3_76 (by decide) (by decide) (by simp) rfl ⟨_, rfl, ⟨rfl, ?_⟩⟩
        have elit : (1 : Int32).toInt = 1 := rfl
        omega
  · have A76 := A33.icmpNo (pc' := 33) d3_30 (flt (ingt (x := v2) (y := c) rfl rfl c34)).2.2.1 rfl
    have A77 := A76.iload (v := (1 : Int32)) (pc' := 35) d3_33 rfl rfl
    have A78 := A77.istoreN (Ls' := #[.val (.ref a), .val (.int c), .val (.int (1 : Int32)), .val (.int (2 : Int32)), .val (.int (1 : Int32))]) (pc' := 36) d3_35 rfl rfl
    have A79 := A78.goto (pc' := 44) d3_36 (by decide) (by decide)
    have A80 := A79.goto (pc' := 9) d3_44 (by decide) (by decide)
    have A81 := A80.iloadN (v := (1 : Int32)) (pc' := 10) d3_9 rfl rfl
    have A82 := A81.iloadN (v := (2 : Int32)) (pc' := 11) d3_10 rfl rfl
    have A84 := A82.icmpNo (pc' := 14) d3_11 (tlt (ilt (x := (1 : Int32)) (y := (2 : Int32)) rfl rfl (by decide : (1 : Int) < 2))).2.1 rfl
    have A85 := A84.iloadN (v := (1 : Int32)) (pc' := 15) d3_14 rfl rfl
    have A86 := A85.iloadN (v := (2 : Int32)) (pc' := 16) d3_15 rfl rfl
    have A87 := A86.iadd (pc' := 17) d3_16 rfl
    have A88 := A87.topI (z := (3 : Int32)) (by decide)
    have A89 := A88.iconst (z := (1 : Int32)) (pc' := 18) d3_17 rfl rfl
    have A90 := A89.iadd (pc' := 19) d3_18 rfl
    have A91 := A90.topI (z := (4 : Int32)) (by decide)
    have A92 := A91.iconst (z := (1 : Int32)) (pc' := 20) d3_19 rfl rfl
    have A93 := A92.iushr (pc' := 21) d3_20 rfl
    have A94 := A93.topI (z := (2 : Int32)) (by decide)
    have A95 := A94.istore (Ls' := #[.val (.ref a), .val (.int c), .val (.int (1 : Int32)), .val (.int (2 : Int32)), .val (.int (2 : Int32))]) (pc' := 23) d3_21 rfl rfl
    have A96 := A95.aloadN (v := (.ref a)) (pc' := 24) d3_23 rfl rfl rfl
    have A97 := A96.iconst (z := (2 : Int32)) (pc' := 25) d3_24 rfl rfl
    have A98 := A97.iload (v := (2 : Int32)) (pc' := 27) d3_25 rfl rfl
    have A99 := A98.imul (pc' := 28) d3_27 rfl
    have A100 := A99.topI (z := (4 : Int32)) (by decide)
    have A101 := A100.iaload (i := 4) (v := (.int v4)) (pc' := 29) d3_28 e0 rfl (by decide) e5 rfl
    have A102 := A101.iloadN (v := c) (pc' := 30) d3_29 rfl rfl
    by_cases c103 : c.toInt < v4.toInt
    · have A104 := A102.icmpYes (pc' := 39) d3_30 (tlt (igt (x := v4) (y := c) rfl rfl c103)).2.2.1 (by decide) (by decide)
      have A105 := A104.iload (v := (2 : Int32)) (pc' := 41) d3_39 rfl rfl
      have A106 := A105.iconst (z := (1 : Int32)) (pc' := 42) d3_41 rfl rfl
      have A107 := A106.isub (pc' := 43) d3_42 rfl
      have A108 := A107.topI (z := (1 : Int32)) (by decide)
      have A109 := A108.istoreN (Ls' := #[.val (.ref a), .val (.int c), .val (.int (1 : Int32)), .val (.int (1 : Int32)), .val (.int (2 : Int32))]) (pc' := 44) d3_43 rfl rfl
      have A110 := A109.goto (pc' := 9) d3_44 (by decide) (by decide)
      have A111 := A110.iloadN (v := (1 : Int32)) (pc' := 10) d3_9 rfl rfl
      have A112 := A111.iloadN (v := (1 : Int32)) (pc' := 11) d3_10 rfl rfl
      have A114 := A112.icmpYes (pc' := 47) d3_11 (flt (inlt (x := (1 : Int32)) (y := (1 : Int32)) rfl rfl (by decide : ¬ ((1 : Int) < 1)))).2.1 (by decide) (by decide)
      have A115 := A114.iloadN (v := (1 : Int32)) (pc' := 48) d3_47 rfl rfl
      have A117 := A115.ifNo (pc' := 51) d3_48 (flt (inlt (x := (1 : Int32)) (y := (0 : Int32)) rfl rfl (by decide : ¬ ((1 : Int) < 0)))).1 rfl
      have A118 := A117.aloadN (v := (.ref a)) (pc' := 52) d3_51 rfl rfl rfl
      have A119 := A118.iconst (z := (2 : Int32)) (pc' := 53) d3_52 rfl rfl
      have A120 := A119.iloadN (v := (1 : Int32)) (pc' := 54) d3_53 rfl rfl
      have A121 := A120.imul (pc' := 55) d3_54 rfl
      have A122 := A121.topI (z := (2 : Int32)) (by decide)
      have A123 := A122.iaload (i := 2) (v := (.int v2)) (pc' := 56) d3_55 e0 rfl (by decide) e3 rfl
      have A124 := A123.iloadN (v := c) (pc' := 57) d3_56 rfl rfl
      by_cases c125 : c.toInt < v2.toInt
      · have A126 := A124.icmpYes (pc' := 75) d3_57 (tlt (igt (x := v2) (y := c) rfl rfl c125)).2.2.1 (by decide) (by decide)
        have A127 := A126.iconst (z := (0 : Int32)) (pc' := 76) d3_75 rfl rfl
        refine A127.retN (t := .boolean) (z' := (0 : Int32)) d3_76 (by decide) (by decide) (by simp) rfl ⟨_, rfl, ⟨rfl, ?_⟩⟩
        have elit : (0 : Int32).toInt = 0 := rfl
        omega
      · have A128 := A124.icmpNo (pc' := 60) d3_57 (flt (ingt (x := v2) (y := c) rfl rfl c125)).2.2.1 rfl
        have A129 := A128.iloadN (v := c) (pc' := 61) d3_60 rfl rfl
        have A130 := A129.aloadN (v := (.ref a)) (pc' := 62) d3_61 rfl rfl rfl
        have A131 := A130.iconst (z := (2 : Int32)) (pc' := 63) d3_62 rfl rfl
        have A132 := A131.iloadN (v := (1 : Int32)) (pc' := 64) d3_63 rfl rfl
        have A133 := A132.imul (pc' := 65) d3_64 rfl
        have A134 := A133.topI (z := (2 : Int32)) (by decide)
        have A135 := A134.iconst (z := (1 : Int32)) (pc' := 66) d3_65 rfl rfl
        have A136 := A135.iadd (pc' := 67) d3_66 rfl
        have A137 := A136.topI (z := (3 : Int32)) (by decide)
        have A138 := A137.iaload (i := 3) (v := (.int v3)) (pc' := 68) d3_67 e0 rfl (by decide) e4 rfl
        by_cases c139 : v3.toInt < c.toInt
        · have A140 := A138.icmpYes (pc' := 75) d3_68 (tlt (igt (x := c) (y := v3) rfl rfl c139)).2.2.1 (by decide) (by decide)
          have A141 := A140.iconst (z := (0 : Int32)) (pc' := 76) d3_75 rfl rfl
          refine A141.retN (t := .boolean) (z' := (0 : Int32)) d3_76 (by decide) (by decide) (by simp) rfl ⟨_, rfl, ⟨rfl, ?_⟩⟩
          have elit : (0 : Int32).toInt = 0 := rfl
          omega
        · have A142 := A138.icmpNo (pc' := 71) d3_68 (flt (ingt (x := c) (y := v3) rfl rfl c139)).2.2.1 rfl
          have A143 := A142.iconst (z := (1 : Int32)) (pc' := 72) d3_71 rfl rfl
          have A144 := A143.goto (pc' := 76) d3_72 (by decide) (by decide)
          refine A144.retN (t := .boolean) (z' := (1 : Int32)) d3_76 (by decide) (by decide) (by simp) rfl ⟨_, rfl, ⟨rfl, ?_⟩⟩
          have elit : (1 : Int32).toInt = 1 := rfl
          omega
    · have A145 := A102.icmpNo (pc' := 33) d3_30 (flt (ingt (x := v4) (y := c) rfl rfl c103)).2.2.1 rfl
      have A146 := A145.iload (v := (2 : Int32)) (pc' := 35) d3_33 rfl rfl
      have A147 := A146.istoreN (Ls' := #[.val (.ref a), .val (.int c), .val (.int (2 : Int32)), .val (.int (2 : Int32)), .val (.int (2 : Int32))]) (pc' := 36) d3_35 rfl rfl
      have A148 := A147.goto (pc' := 44) d3_36 (by decide) (by decide)
      have A149 := A148.goto (pc' := 9) d3_44 (by decide) (by decide)
      have A150 := A149.iloadN (v := (2 : Int32)) (pc' := 10) d3_9 rfl rfl
      have A151 := A150.iloadN (v := (2 : Int32)) (pc' := 11) d3_10 rfl rfl
      have A153 := A151.icmpYes (pc' := 47) d3_11 (flt (inlt (x := (2 : Int32)) (y := (2 : Int32)) rfl rfl (by decide : ¬ ((2 : Int) < 2)))).2.1 (by decide) (by decide)
      have A154 := A153.iloadN (v := (2 : Int32)) (pc' := 48) d3_47 rfl rfl
      have A156 := A154.ifNo (pc' := 51) d3_48 (flt (inlt (x := (2 : Int32)) (y := (0 : Int32)) rfl rfl (by decide : ¬ ((2 : Int) < 0)))).1 rfl
      have A157 := A156.aloadN (v := (.ref a)) (pc' := 52) d3_51 rfl rfl rfl
      have A158 := A157.iconst (z := (2 : Int32)) (pc' := 53) d3_52 rfl rfl
      have A159 := A158.iloadN (v := (2 : Int32)) (pc' := 54) d3_53 rfl rfl
      have A160 := A159.imul (pc' := 55) d3_54 rfl
      have A161 := A160.topI (z := (4 : Int32)) (by decide)
      have A162 := A161.iaload (i := 4) (v := (.int v4)) (pc' := 56) d3_55 e0 rfl (by decide) e5 rfl
      have A163 := A162.iloadN (v := c) (pc' := 57) d3_56 rfl rfl
      by_cases c164 : c.toInt < v4.toInt
      · have A165 := A163.icmpYes (pc' := 75) d3_57 (tlt (igt (x := v4) (y := c) rfl rfl c164)).2.2.1 (by decide) (by decide)
        have A166 := A165.iconst (z := (0 : Int32)) (pc' := 76) d3_75 rfl rfl
        refine A166.retN (t := .boolean) (z' := (0 : Int32)) d3_76 (by decide) (by decide) (by simp) rfl ⟨_, rfl, ⟨rfl, ?_⟩⟩
        have elit : (0 : Int32).toInt = 0 := rfl
        omega
      · have A167 := A163.icmpNo (pc' := 60) d3_57 (flt (ingt (x := v4) (y := c) rfl rfl c164)).2.2.1 rfl
        have A168 := A167.iloadN (v := c) (pc' := 61) d3_60 rfl rfl
        have A169 := A168.aloadN (v := (.ref a)) (pc' := 62) d3_61 rfl rfl rfl
        have A170 := A169.iconst (z := (2 : Int32)) (pc' := 63) d3_62 rfl rfl
        have A171 := A170.iloadN (v := (2 : Int32)) (pc' := 64) d3_63 rfl rfl
        have A172 := A171.imul (pc' := 65) d3_64 rfl
        have A173 := A172.topI (z := (4 : Int32)) (by decide)
        have A174 := A173.iconst (z := (1 : Int32)) (pc' := 66) d3_65 rfl rfl
        have A175 := A174.iadd (pc' := 67) d3_66 rfl
        have A176 := A175.topI (z := (5 : Int32)) (by decide)
        have A177 := A176.iaload (i := 5) (v := (.int v5)) (pc' := 68) d3_67 e0 rfl (by decide) e6 rfl
        by_cases c178 : v5.toInt < c.toInt
        · have A179 := A177.icmpYes (pc' := 75) d3_68 (tlt (igt (x := c) (y := v5) rfl rfl c178)).2.2.1 (by decide) (by decide)
          have A180 := A179.iconst (z := (0 : Int32)) (pc' := 76) d3_75 rfl rfl
          refine A180.retN (t := .boolean) (z' := (0 : Int32)) d3_76 (by decide) (by decide) (by simp) rfl ⟨_, rfl, ⟨rfl, ?_⟩⟩
          have elit : (0 : Int32).toInt = 0 := rfl
          omega
        · have A181 := A177.icmpNo (pc' := 71) d3_68 (flt (ingt (x := c) (y := v5) rfl rfl c178)).2.2.1 rfl
          have A182 := A181.iconst (z := (1 : Int32)) (pc' := 72) d3_71 rfl rfl
          have A183 := A182.goto (pc' := 76) d3_72 (by decide) (by decide)
          refine A183.retN (t := .boolean) (z' := (1 : Int32)) d3_76 (by decide) (by decide) (by simp) rfl ⟨_, rfl, ⟨rfl, ?_⟩⟩
          have elit : (1 : Int32).toInt = 1 := rfl
          omega
theorem d1_88 : decode method_3_code 88 = .ok (.bipush 8, 2) := by decide +kernel
theorem d1_90 : decode method_3_code 90 = .ok (.newarray .int, 2) := by decide +kernel
theorem d1_92 : decode method_3_code 92 = .ok (.dup, 1) := by decide +kernel
theorem d1_93 : decode method_3_code 93 = .ok (.iconst 0, 1) := by decide +kernel
theorem d1_94 : decode method_3_code 94 = .ok (.iload_n 1, 1) := by decide +kernel
theorem d1_95 : decode method_3_code 95 = .ok (.iastore, 1) := by decide +kernel
theorem d1_96 : decode method_3_code 96 = .ok (.dup, 1) := by decide +kernel
theorem d1_97 : decode method_3_code 97 = .ok (.iconst 1, 1) := by decide +kernel
theorem d1_98 : decode method_3_code 98 = .ok (.iload_n 2, 1) := by decide +kernel
theorem d1_99 : decode method_3_code 99 = .ok (.iastore, 1) := by decide +kernel
theorem d1_100 : decode method_3_code 100 = .ok (.dup, 1) := by decide +kernel
theorem d1_101 : decode method_3_code 101 = .ok (.iconst 2, 1) := by decide +kernel
theorem d1_102 : decode method_3_code 102 = .ok (.iload_n 3, 1) := by decide +kernel
theorem d1_103 : decode method_3_code 103 = .ok (.iastore, 1) := by decide +kernel
theorem d1_104 : decode method_3_code 104 = .ok (.dup, 1) := by decide +kernel
theorem d1_105 : decode method_3_code 105 = .ok (.iconst 3, 1) := by decide +kernel
theorem d1_106 : decode method_3_code 106 = .ok (.iload 4, 2) := by decide +kernel
theorem d1_108 : decode method_3_code 108 = .ok (.iastore, 1) := by decide +kernel
theorem d1_109 : decode method_3_code 109 = .ok (.dup, 1) := by decide +kernel
theorem d1_110 : decode method_3_code 110 = .ok (.iconst 4, 1) := by decide +kernel
theorem d1_111 : decode method_3_code 111 = .ok (.iload 5, 2) := by decide +kernel
theorem d1_113 : decode method_3_code 113 = .ok (.iastore, 1) := by decide +kernel
theorem d1_114 : decode method_3_code 114 = .ok (.dup, 1) := by decide +kernel
theorem d1_115 : decode method_3_code 115 = .ok (.iconst 5, 1) := by decide +kernel
theorem d1_116 : decode method_3_code 116 = .ok (.iload 6, 2) := by decide +kernel
theorem d1_118 : decode method_3_code 118 = .ok (.iastore, 1) := by decide +kernel
theorem d1_119 : decode method_3_code 119 = .ok (.dup, 1) := by decide +kernel
theorem d1_120 : decode method_3_code 120 = .ok (.bipush 6, 2) := by decide +kernel
theorem d1_122 : decode method_3_code 122 = .ok (.iload 7, 2) := by decide +kernel
theorem d1_124 : decode method_3_code 124 = .ok (.iastore, 1) := by decide +kernel
theorem d1_125 : decode method_3_code 125 = .ok (.dup, 1) := by decide +kernel
theorem d1_126 : decode method_3_code 126 = .ok (.bipush 7, 2) := by decide +kernel
theorem d1_128 : decode method_3_code 128 = .ok (.iload 8, 2) := by decide +kernel
theorem d1_130 : decode method_3_code 130 = .ok (.iastore, 1) := by decide +kernel
theorem d1_131 : decode method_3_code 131 = .ok (.areturn, 1) := by decide +kernel
abbrev y1_4 : MethodName := (⟨"com/example/dialekt/dialekt/regex/CodePointRangesContainsPinLaw", "table", "(IIIIIIIII)[I"⟩ : MethodName)
abbrev R1_4 : Room := { frames := 0, cells := 1, slots := 8, locals := 0 }
set_option maxRecDepth 65536 in
set_option maxHeartbeats 4000000 in
theorem ef1_4 (p0 : Int32) (p1 : Int32) (p2 : Int32) (p3 : Int32) (p4 : Int32) (p5 : Int32) (p6 : Int32) (p7 : Int32) (mid : MethodId) : entryFrame mid #[(.int (4 : Int32)), (.int p0), (.int p1), (.int p2), (.int p3), (.int p4), (.int p5), (.int p6), (.int p7)] 9 = mkF mid 0 #[.val (.int (4 : Int32)), .val (.int p0), .val (.int p1), .val (.int p2), .val (.int p3), .val (.int p4), .val (.int p5), .val (.int p6), .val (.int p7)] [] := by first | (simp [entryFrame, mkF, argsToLocals, Value.category]; done) | rfl
set_option maxRecDepth 65536 in
set_option maxHeartbeats 40000000 in
theorem rm1_4 (l : Launch) (Z : State) (a0 : Array Value) (hw : ∀ d ∈ tables_1, d.before a0 Z = true) (n0 : Nat) (ws : List Jvm.Cond) (p0 : Int32) (p1 : Int32) (p2 : Int32) (p3 : Int32) (p4 : Int32) (p5 : Int32) (p6 : Int32) (p7 : Int32)  (h0 : Heap) (hn0 : n0 ≤ h0.size)  :
    Ctr l Z n0 y1_4 method_3_code 9 (some (.array .int)) ws R1_4 #[(.int (4 : Int32)), (.int p0), (.int p1), (.int p2), (.int p3), (.int p4), (.int p5), (.int p6), (.int p7)] h0 (QA fun r h => (Keep h0 h []) ∧ (n0 ≤ r) ∧ (h0.size ≤ r) ∧ (Ars Z h r .int 8 (upd (upd (upd (upd (upd (upd (upd (upd (fun _ => (.int (0 : Int32))) 0 (.int p0)) 1 (.int p1)) 2 (.int p2)) 3 (.int p3)) 4 (.int p4)) 5 (.int p5)) 6 (.int p6)) 7 (.int p7))) ∧ (True)) := by
  refine ctr_of pn1 hn0 (ef1_4 p0 p1 p2 p3 p4 p5 p6 p7) fun G A0 => ?_
  have A1 := A0.iloadN (v := (4 : Int32)) (pc' := 1) d1_0 rfl rfl
  have A3 := A1.ifYes (pc' := 8) d1_1 (feq (ine (x := (4 : Int32)) (y := (0 : Int32)) rfl rfl (by decide : ¬ ((4 : Int) = 0)))).2 (by decide) (by decide)
  have A4 := A3.iloadN (v := (4 : Int32)) (pc' := 9) d1_8 rfl rfl
  have A5 := A4.iconst (z := (1 : Int32)) (pc' := 10) d1_9 rfl rfl
  have A7 := A5.icmpYes (pc' := 25) d1_10 (feq (ine (x := (4 : Int32)) (y := (1 : Int32)) rfl rfl (by decide : ¬ ((4 : Int) = 1)))).2 (by decide) (by decide)
  have A8 := A7.iloadN (v := (4 : Int32)) (pc' := 26) d1_25 rfl rfl
  have A9 := A8.iconst (z := (2 : Int32)) (pc' := 27) d1_26 rfl rfl
  have A11 := A9.icmpYes (pc' := 51) d1_27 (feq (ine (x := (4 : Int32)) (y := (2 : Int32)) rfl rfl (by decide : ¬ ((4 : Int) = 2)))).2 (by decide) (by decide)
  have A12 := A11.iloadN (v := (4 : Int32)) (pc' := 52) d1_51 rfl rfl
  have A13 := A12.iconst (z := (3 : Int32)) (pc' := 53) d1_52 rfl rfl
  have A15 := A13.icmpYes (pc' := 88) d1_53 (feq (ine (x := (4 : Int32)) (y := (3 : Int32)) rfl rfl (by decide : ¬ ((4 : Int) = 3)))).2 (by decide) (by decide)
  have A16 := A15.bipush (z := (8 : Int32)) (pc' := 90) d1_88 rfl rfl
  obtain ⟨h17, b18, eb19, g20, E21, X22, A23⟩ := A16.newP (z := (8 : Int32)) (N := 8) (cap := 8) (C' := 1) (S' := 8) (pc' := 92) d1_90 (hw _ (List.mem_of_getElem? (i := 5) rfl)) rfl (by decide) (by decide) (by decide) (by decide) rfl rfl rfl
  change Ars Z h17 b18 .int 8 (fun _ => (.int (0 : Int32))) at X22
  have A24 := A23.dup (pc' := 93) d1_92 rfl rfl
  have A25 := A24.iconst (z := (0 : Int32)) (pc' := 94) d1_93 rfl rfl
  have A26 := A25.iloadN (v := p0) (pc' := 95) d1_94 rfl rfl
  obtain ⟨h27, w28, X29, A30⟩ := A26.iastore (i := 0) (pc' := 96) d1_95 X22 rfl (by decide) g20 rfl
  have A31 := A30.dup (pc' := 97) d1_96 rfl rfl
  have A32 := A31.iconst (z := (1 : Int32)) (pc' := 98) d1_97 rfl rfl
  have A33 := A32.iloadN (v := p1) (pc' := 99) d1_98 rfl rfl
  obtain ⟨h34, w35, X36, A37⟩ := A33.iastore (i := 1) (pc' := 100) d1_99 X29 rfl (by decide) g20 rfl
  have A38 := A37.dup (pc' := 101) d1_100 rfl rfl
  have A39 := A38.iconst (z := (2 : Int32)) (pc' := 102) d1_101 rfl rfl
  have A40 := A39.iloadN (v := p2) (pc' := 103) d1_102 rfl rfl
  obtain ⟨h41, w42, X43, A44⟩ := A40.iastore (i := 2) (pc' := 104) d1_103 X36 rfl (by decide) g20 rfl
  have A45 := A44.dup (pc' := 105) d1_104 rfl rfl
  have A46 := A45.iconst (z := (3 : Int32)) (pc' := 106) d1_105 rfl rfl
  have A47 := A46.iload (v := p3) (pc' := 108) d1_106 rfl rfl
  obtain ⟨h48, w49, X50, A51⟩ := A47.iastore (i := 3) (pc' := 109) d1_108 X43 rfl (by decide) g20 rfl
  have A52 := A51.dup (pc' := 110) d1_109 rfl rfl
  have A53 := A52.iconst (z := (4 : Int32)) (pc' := 111) d1_110 rfl rfl
  have A54 := A53.iload (v := p4) (pc' := 113) d1_111 rfl rfl
  obtain ⟨h55, w56, X57, A58⟩ := A54.iastore (i := 4) (pc' := 114) d1_113 X50 rfl (by decide) g20 rfl
  have A59 := A58.dup (pc' := 115) d1_114 rfl rfl
  have A60 := A59.iconst (z := (5 : Int32)) (pc' := 116) d1_115 rfl rfl
  have A61 := A60.iload (v := p5) (pc' := 118) d1_116 rfl rfl
  obtain ⟨h62, w63, X64, A65⟩ := A61.iastore (i := 5) (pc' := 119) d1_118 X57 rfl (by decide) g20 rfl
  have A66 := A65.dup (pc' := 120) d1_119 rfl rfl
  have A67 := A66.bipush (z := (6 : Int32)) (pc' := 122) d1_120 rfl rfl
  have A68 := A67.iload (v := p6) (pc' := 124) d1_122 rfl rfl
  obtain ⟨h69, w70, X71, A72⟩ := A68.iastore (i := 6) (pc' := 125) d1_124 X64 rfl (by decide) g20 rfl
  have A73 := A72.dup (pc' := 126) d1_125 rfl rfl
  have A74 := A73.bipush (z := (7 : Int32)) (pc' := 128) d1_126 rfl rfl
  have A75 := A74.iload (v := p7) (pc' := 130) d1_128 rfl rfl
  obtain ⟨h76, w77, X78, A79⟩ := A75.iastore (i := 7) (pc' := 131) d1_130 X71 rfl (by decide) g20 rfl
  have z80 : h0.size ≤ b18 := Nat.le_trans (Nat.le_refl _) (Nat.le_of_eq eb19.symm)
  have K81 : Keep h0 h76 [] := ((((((((((Keep.refl h0 []).ext E21).wr w28 (Or.inr z80)).wr w35 (Or.inr z80)).wr w42 (Or.inr z80)).wr w49 (Or.inr z80)).wr w56 (Or.inr z80)).wr w63 (Or.inr z80)).wr w70 (Or.inr z80)).wr w77 (Or.inr z80))
  refine A79.retA d1_131 (by decide) (by decide) rfl rfl rfl ⟨_, rfl, ⟨K81, g20, z80, X78, ?_⟩⟩
  trivial
abbrev y3_4 : MethodName := (⟨"com/example/dialekt/dialekt/regex/CodePointRanges", "contains", "([II)Z"⟩ : MethodName)
abbrev R3_4 : Room := { frames := 0, cells := 0, slots := 0, locals := 0 }
set_option maxRecDepth 65536 in
set_option maxHeartbeats 4000000 in
theorem ef3_4 (a : Addr) (c : Int32) (mid : MethodId) : entryFrame mid #[(.ref a), (.int c)] 5 = mkF mid 0 #[.val (.ref a), .val (.int c), .unset, .unset, .unset] [] := by first | (simp [entryFrame, mkF, argsToLocals, Value.category]; done) | rfl
set_option maxRecDepth 65536 in
set_option maxHeartbeats 40000000 in
theorem rm3_4 (l : Launch) (Z : State) (a0 : Array Value) (hw : ∀ d ∈ tables_1, d.before a0 Z = true) (n0 : Nat) (ws : List Jvm.Cond) (a : Addr) (c : Int32) (f : Nat → Value) (v0 : Int32) (v1 : Int32) (v2 : Int32) (v3 : Int32) (v4 : Int32) (v5 : Int32) (v6 : Int32) (v7 : Int32) (h0 : Heap) (hn0 : n0 ≤ h0.size) (e0 : Ars Z h0 a .int 8 f) (e1 : f 0 = .int v0) (e2 : f 1 = .int v1) (e3 : f 2 = .int v2) (e4 : f 3 = .int v3) (e5 : f 4 = .int v4) (e6 : f 5 = .int v5) (e7 : f 6 = .int v6) (e8 : f 7 = .int v7) (e9 : v0.toInt ≤ v1.toInt ∧ v1.toInt < v2.toInt ∧ v2.toInt ≤ v3.toInt ∧ v3.toInt < v4.toInt ∧ v4.toInt ≤ v5.toInt ∧ v5.toInt < v6.toInt ∧ v6.toInt ≤ v7.toInt) :
    Ctr l Z n0 y3_4 prog_36_method_3_code 5 (some .boolean) ws R3_4 #[(.ref a), (.int c)] h0 (QI fun r h => (h0 = h) ∧ ((r.toInt = 1 ∧ (v0.toInt ≤ c.toInt ∧ c.toInt ≤ v1.toInt ∨ v2.toInt ≤ c.toInt ∧ c.toInt ≤ v3.toInt ∨ v4.toInt ≤ c.toInt ∧ c.toInt ≤ v5.toInt ∨ v6.toInt ≤ c.toInt ∧ c.toInt ≤ v7.toInt)) ∨ (r.toInt = 0 ∧ ¬ (v0.toInt ≤ c.toInt ∧ c.toInt ≤ v1.toInt ∨ v2.toInt ≤ c.toInt ∧ c.toInt ≤ v3.toInt ∨ v4.toInt ≤ c.toInt ∧ c.toInt ≤ v5.toInt ∨ v6.toInt ≤ c.toInt ∧ c.toInt ≤ v7.toInt)))) := by
  refine ctr_of pn3 hn0 (ef3_4 a c) fun G A0 => ?_
  have A1 := A0.iconst (z := (0 : Int32)) (pc' := 1) d3_0 rfl rfl
  have A2 := A1.istoreN (Ls' := #[.val (.ref a), .val (.int c), .val (.int (0 : Int32)), .unset, .unset]) (pc' := 2) d3_1 rfl rfl
  have A3 := A2.aloadN (v := (.ref a)) (pc' := 3) d3_2 rfl rfl rfl
  have A4 := A3.alen (z := (8 : Int32)) (pc' := 4) d3_3 e0 rfl rfl
  have A5 := A4.iconst (z := (2 : Int32)) (pc' := 5) d3_4 rfl rfl
  have A6 := A5.idiv (pc' := 6) d3_5 (by decide) rfl
  have A7 := A6.topI (z := (4 : Int32)) (by decide)
  have A8 := A7.iconst (z := (1 : Int32)) (pc' := 7) d3_6 rfl rfl
  have A9 := A8.isub (pc' := 8) d3_7 rfl
  have A10 := A9.topI (z := (3 : Int32)) (by decide)
  have A11 := A10.istoreN (Ls' := #[.val (.ref a), .val (.int c), .val (.int (0 : Int32)), .val (.int (3 : Int32)), .unset]) (pc' := 9) d3_8 rfl rfl
  have A12 := A11.iloadN (v := (0 : Int32)) (pc' := 10) d3_9 rfl rfl
  have A13 := A12.iloadN (v := (3 : Int32)) (pc' := 11) d3_10 rfl rfl
  have A15 := A13.icmpNo (pc' := 14) d3_11 (tlt (ilt (x := (0 : Int32)) (y := (3 : Int32)) rfl rfl (by decide : (0 : Int) < 3))).2.1 rfl
  have A16 := A15.iloadN (v := (0 : Int32)) (pc' := 15) d3_14 rfl rfl
  have A17 := A16.iloadN (v := (3 : Int32)) (pc' := 16) d3_15 rfl rfl
  have A18 := A17.iadd (pc' := 17) d3_16 rfl
  have A19 := A18.topI (z := (3 : Int32)) (by decide)
  have A20 := A19.iconst (z := (1 : Int32)) (pc' := 18) d3_17 rfl rfl
  have A21 := A20.iadd (pc' := 19) d3_18 rfl
  have A22 := A21.topI (z := (4 : Int32)) (by decide)
  have A23 := A22.iconst (z := (1 : Int32)) (pc' := 20) d3_19 rfl rfl
  have A24 := A23.iushr (pc' := 21) d3_20 rfl
  have A25 := A24.topI (z := (2 : Int32)) (by decide)
  have A26 := A25.istore (Ls' := #[.val (.ref a), .val (.int c), .val (.int (0 : Int32)), .val (.int (3 : Int32)), .val (.int (2 : Int32))]) (pc' := 23) d3_21 rfl rfl
  have A27 := A26.aloadN (v := (.ref a)) (pc' := 24) d3_23 rfl rfl rfl
  have A28 := A27.iconst (z := (2 : Int32)) (pc' := 25) d3_24 rfl rfl
  have A29 := A28.iload (v := (2 : Int32)) (pc' := 27) d3_25 rfl rfl
  have A30 := A29.imul (pc' := 28) d3_27 rfl
  have A31 := A30.topI (z := (4 : Int32)) (by decide)
  have A32 := A31.iaload (i := 4) (v := (.int v4)) (pc' := 29) d3_28 e0 rfl (by decide) e5 rfl
  have A33 := A32.iloadN (v := c) (pc' := 30) d3_29 rfl rfl
  by_cases c34 : c.toInt < v4.toInt
  · have A35 := A33.icmpYes (pc' := 39) d3_30 (tlt (igt (x := v4) (y := c) rfl rfl c34)).2.2.1 (by decide) (by decide)
    have A36 := A35.iload (v := (2 : Int32)) (pc' := 41) d3_39 rfl rfl
    have A37 := A36.iconst (z := (1 : Int32)) (pc' := 42) d3_41 rfl rfl
    have A38 := A37.isub (pc' := 43) d3_42 rfl
    have A39 := A38.topI (z := (1 : Int32)) (by decide)
    have A40 := A39.istoreN (Ls' := #[.val (.ref a), .val (.int c), .val (.int (0 : Int32)), .val (.int (1 : Int32)), .val (.int (2 : Int32))]) (pc' := 44) d3_43 rfl rfl
    have A41 := A40.goto (pc' := 9) d3_44 (by decide) (by decide)
    have A42 := A41.iloadN (v := (0 : Int32)) (pc' := 10) d3_9 rfl rfl
    have A43 := A42.iloadN (v := (1 : Int32)) (pc' := 11) d3_10 rfl rfl
    have A45 := A43.icmpNo (pc' := 14) d3_11 (tlt (ilt (x := (0 : Int32)) (y := (1 : Int32)) rfl rfl (by decide : (0 : Int) < 1))).2.1 rfl
    have A46 := A45.iloadN (v := (0 : Int32)) (pc' := 15) d3_14 rfl rfl
    have A47 := A46.iloadN (v := (1 : Int32)) (pc' := 16) d3_15 rfl rfl
    have A48 := A47.iadd (pc' := 17) d3_16 rfl
    have A49 := A48.topI (z := (1 : Int32)) (by decide)
    have A50 := A49.iconst (z := (1 : Int32)) (pc' := 18) d3_17 rfl rfl
    have A51 := A50.iadd (pc' := 19) d3_18 rfl
    have A52 := A51.topI (z := (2 : Int32)) (by decide)
    have A53 := A52.iconst (z := (1 : Int32)) (pc' := 20) d3_19 rfl rfl
    have A54 := A53.iushr (pc' := 21) d3_20 rfl
    have A55 := A54.topI (z := (1 : Int32)) (by decide)
    have A56 := A55.istore (Ls' := #[.val (.ref a), .val (.int c), .val (.int (0 : Int32)), .val (.int (1 : Int32)), .val (.int (1 : Int32))]) (pc' := 23) d3_21 rfl rfl
    have A57 := A56.aloadN (v := (.ref a)) (pc' := 24) d3_23 rfl rfl rfl
    have A58 := A57.iconst (z := (2 : Int32)) (pc' := 25) d3_24 rfl rfl
    have A59 := A58.iload (v := (1 : Int32)) (pc' := 27) d3_25 rfl rfl
    have A60 := A59.imul (pc' := 28) d3_27 rfl
    have A61 := A60.topI (z := (2 : Int32)) (by decide)
    have A62 := A61.iaload (i := 2) (v := (.int v2)) (pc' := 29) d3_28 e0 rfl (by decide) e3 rfl
    have A63 := A62.iloadN (v := c) (pc' := 30) d3_29 rfl rfl
    by_cases c64 : c.toInt < v2.toInt
    · have A65 := A63.icmpYes (pc' := 39) d3_30 (tlt (igt (x := v2) (y := c) rfl rfl c64)).2.2.1 (by decide) (by decide)
      have A66 := A65.iload (v := (1 : Int32)) (pc' := 41) d3_39 rfl rfl
      have A67 := A66.iconst (z := (1 : Int32)) (pc' := 42) d3_41 rfl rfl
      have A68 := A67.isub (pc' := 43) d3_42 rfl
      have A69 := A68.topI (z := (0 : Int32)) (by decide)
      have A70 := A69.istoreN (Ls' := #[.val (.ref a), .val (.int c), .val (.int (0 : Int32)), .val (.int (0 : Int32)), .val (.int (1 : Int32))]) (pc' := 44) d3_43 rfl rfl
      have A71 := A70.goto (pc' := 9) d3_44 (by decide) (by decide)
      have A72 := A71.iloadN (v := (0 : Int32)) (pc' := 10) d3_9 rfl rfl
      have A73 := A72.iloadN (v := (0 : Int32)) (pc' := 11) d3_10 rfl rfl
      have A75 := A73.icmpYes (pc' := 47) d3_11 (flt (inlt (x := (0 : Int32)) (y := (0 : Int32)) rfl rfl (by decide : ¬ ((0 : Int) < 0)))).2.1 (by decide) (by decide)
      have A76 := A75.iloadN (v := (0 : Int32)) (pc' := 48) d3_47 rfl rfl
      have A78 := A76.ifNo (pc' := 51) d3_48 (flt (inlt (x := (0 : Int32)) (y := (0 : Int32)) rfl rfl (by decide : ¬ ((0 : Int) < 0)))).1 rfl
      have A79 := A78.aloadN (v := (.ref a)) (pc' := 52) d3_51 rfl rfl rfl
      have A80 := A79.iconst (z := (2 : Int32)) (pc' := 53) d3_52 rfl rfl
      have A81 := A80.iloadN (v := (0 : Int32)) (pc' := 54) d3_53 rfl rfl
      have A82 := A81.imul (pc' := 55) d3_54 rfl
      have A83 := A82.topI (z := (0 : Int32)) (by decide)
      have A84 := A83.iaload (i := 0) (v := (.int v0)) (pc' := 56) d3_55 e0 rfl (by decide) e1 rfl
      have A85 := A84.iloadN (v := c) (pc' := 57) d3_56 rfl rfl
      by_cases c86 : c.toInt < v0.toInt
      · have A87 := A85.icmpYes (pc' := 75) d3_57 (tlt (igt (x := v0) (y := c) rfl rfl c86)).2.2.1 (by decide) (by decide)
        have A88 := A87.iconst (z := (0 : Int32)) (pc' := 76) d3_75 rfl rfl
        refine A88.retN (t := .boolean) (z' := (0 : Int32)) d3_76 (by decide) (by decide) (by simp) rfl ⟨_, rfl, ⟨rfl, ?_⟩⟩
        have elit : (0 : Int32).toInt = 0 := rfl
        omega
      · have A89 := A85.icmpNo (pc' := 60) d3_57 (flt (ingt (x := v0) (y := c) rfl rfl c86)).2.2.1 rfl
        have A90 := A89.iloadN (v := c) (pc' := 61) d3_60 rfl rfl
        have A91 := A90.aloadN (v := (.ref a)) (pc' := 62) d3_61 rfl rfl rfl
        have A92 := A91.iconst (z := (2 : Int32)) (pc' := 63) d3_62 rfl rfl
        have A93 := A92.iloadN (v := (0 : Int32)) (pc' := 64) d3_63 rfl rfl
        have A94 := A93.imul (pc' := 65) d3_64 rfl
        have A95 := A94.topI (z := (0 : Int32)) (by decide)
        have A96 := A95.iconst (z := (1 : Int32)) (pc' := 66) d3_65 rfl rfl
        have A97 := A96.iadd (pc' := 67) d3_66 rfl
        have A98 := A97.topI (z := (1 : Int32)) (by decide)
        have A99 := A98.iaload (i := 1) (v := (.int v1)) (pc' := 68) d3_67 e0 rfl (by decide) e2 rfl
        by_cases c100 : v1.toInt < c.toInt
        · have A101 := A99.icmpYes (pc' := 75) d3_68 (tlt (igt (x := c) (y := v1) rfl rfl c100)).2.2.1 (by decide) (by decide)
          have A102 := A101.iconst (z := (0 : Int32)) (pc' := 76) d3_75 rfl rfl
          refine A102.retN (t := .boolean) (z' := (0 : Int32)) d3_76 (by decide) (by decide) (by simp) rfl ⟨_, rfl, ⟨rfl, ?_⟩⟩
          have elit : (0 : Int32).toInt = 0 := rfl
          omega
        · have A103 := A99.icmpNo (pc' := 71) d3_68 (flt (ingt (x := c) (y := v1) rfl rfl c100)).2.2.1 rfl
          have A104 := A103.iconst (z := (1 : Int32)) (pc' := 72) d3_71 rfl rfl
          have A105 := A104.goto (pc' := 76) d3_72 (by decide) (by decide)
          refine A105.retN (t := .boolean) (z' := (1 : Int32)) d3_76 (by decide) (by decide) (by simp) rfl ⟨_, rfl, ⟨rfl, ?_⟩⟩
          have elit : (1 : Int32).toInt = 1 := rfl
          omega
    · have A106 := A63.icmpNo (pc' := 33) d3_30 (flt (ingt (x := v2) (y := c) rfl rfl c64)).2.2.1 rfl
      have A107 := A106.iload (v := (1 : Int32)) (pc' := 35) d3_33 rfl rfl
      have A108 := A107.istoreN (Ls' := #[.val (.ref a), .val (.int c), .val (.int (1 : Int32)), .val (.int (1 : Int32)), .val (.int (1 : Int32))]) (pc' := 36) d3_35 rfl rfl
      have A109 := A108.goto (pc' := 44) d3_36 (by decide) (by decide)
      have A110 := A109.goto (pc' := 9) d3_44 (by decide) (by decide)
      have A111 := A110.iloadN (v := (1 : Int32)) (pc' := 10) d3_9 rfl rfl
      have A112 := A111.iloadN (v := (1 : Int32)) (pc' := 11) d3_10 rfl rfl
      have A114 := A112.icmpYes (pc' := 47) d3_11 (flt (inlt (x := (1 : Int32)) (y := (1 : Int32)) rfl rfl (by decide : ¬ ((1 : Int) < 1)))).2.1 (by decide) (by decide)
      have A115 := A114.iloadN (v := (1 : Int32)) (pc' := 48) d3_47 rfl rfl
      have A117 := A115.ifNo (pc' := 51) d3_48 (flt (inlt (x := (1 : Int32)) (y := (0 : Int32)) rfl rfl (by decide : ¬ ((1 : Int) < 0)))).1 rfl
      have A118 := A117.aloadN (v := (.ref a)) (pc' := 52) d3_51 rfl rfl rfl
      have A119 := A118.iconst (z := (2 : Int32)) (pc' := 53) d3_52 rfl rfl
      have A120 := A119.iloadN (v := (1 : Int32)) (pc' := 54) d3_53 rfl rfl
      have A121 := A120.imul (pc' := 55) d3_54 rfl
      have A122 := A121.topI (z := (2 : Int32)) (by decide)
      have A123 := A122.iaload (i := 2) (v := (.int v2)) (pc' := 56) d3_55 e0 rfl (by decide) e3 rfl
      have A124 := A123.iloadN (v := c) (pc' := 57) d3_56 rfl rfl
      by_cases c125 : c.toInt < v2.toInt
      · have A126 := A124.icmpYes (pc' := 75) d3_57 (tlt (igt (x := v2) (y := c) rfl rfl c125)).2.2.1 (by decide) (by decide)
        have A127 := A126.iconst (z := (0 : Int32)) (pc' := 76) d3_75 rfl rfl
        refine A127.retN (t := .boolean) (z' := (0 : Int32)) d3_76 (by decide) (by decide) (by simp) rfl ⟨_, rfl, ⟨rfl, ?_⟩⟩
        have elit : (0 : Int32).toInt = 0 := rfl
        omega
      · have A128 := A124.icmpNo (pc' := 60) d3_57 (flt (ingt (x := v2) (y := c) rfl rfl c125)).2.2.1 rfl
        have A129 := A128.iloadN (v := c) (pc' := 61) d3_60 rfl rfl
        have A130 := A129.aloadN (v := (.ref a)) (pc' := 62) d3_61 rfl rfl rfl
        have A131 := A130.iconst (z := (2 : Int32)) (pc' := 63) d3_62 rfl rfl
        have A132 := A131.iloadN (v := (1 : Int32)) (pc' := 64) d3_63 rfl rfl
        have A133 := A132.imul (pc' := 65) d3_64 rfl
        have A134 := A133.topI (z := (2 : Int32)) (by decide)
        have A135 := A134.iconst (z := (1 : Int32)) (pc' := 66) d3_65 rfl rfl
        have A136 := A135.iadd (pc' := 67) d3_66 rfl
        have A137 := A136.topI (z := (3 : Int32)) (by decide)
        have A138 := A137.iaload (i := 3) (v := (.int v3)) (pc' := 68) d3_67 e0 rfl (by decide) e4 rfl
        by_cases c139 : v3.toInt < c.toInt
        · have A140 := A138.icmpYes (pc' := 75) d3_68 (tlt (igt (x := c) (y := v3) rfl rfl c139)).2.2.1 (by decide) (by decide)
          have A141 := A140.iconst (z := (0 : Int32)) (pc' := 76) d3_75 rfl rfl
          refine A141.retN (t := .boolean) (z' := (0 : Int32)) d3_76 (by decide) (by decide) (by simp) rfl ⟨_, rfl, ⟨rfl, ?_⟩⟩
          have elit : (0 : Int32).toInt = 0 := rfl
          omega
        · have A142 := A138.icmpNo (pc' := 71) d3_68 (flt (ingt (x := c) (y := v3) rfl rfl c139)).2.2.1 rfl
          have A143 := A142.iconst (z := (1 : Int32)) (pc' := 72) d3_71 rfl rfl
          have A144 := A143.goto (pc' := 76) d3_72 (by decide) (by decide)
          refine A144.retN (t := .boolean) (z' := (1 : Int32)) d3_76 (by decide) (by decide) (by simp) rfl ⟨_, rfl, ⟨rfl, ?_⟩⟩
          have elit : (1 : Int32).toInt = 1 := rfl
          omega
  · have A145 := A33.icmpNo (pc' := 33) d3_30 (flt (ingt (x := v4) (y := c) rfl rfl c34)).2.2.1 rfl
    have A146 := A145.iload (v := (2 : Int32)) (pc' := 35) d3_33 rfl rfl
    have A147 := A146.istoreN (Ls' := #[.val (.ref a), .val (.int c), .val (.int (2 : Int32)), .val (.int (3 : Int32)), .val (.int (2 : Int32))]) (pc' := 36) d3_35 rfl rfl
    have A148 := A147.goto (pc' := 44) d3_36 (by decide) (by decide)
    have A149 := A148.goto (pc' := 9) d3_44 (by decide) (by decide)
    have A150 := A149.iloadN (v := (2 : Int32)) (pc' := 10) d3_9 rfl rfl
    have A151 := A150.iloadN (v := (3 : Int32)) (pc' := 11) d3_10 rfl rfl
    have A153 := A151.icmpNo (pc' := 14) d3_11 (tlt (ilt (x := (2 : Int32)) (y := (3 : Int32)) rfl rfl (by decide : (2 : Int) < 3))).2.1 rfl
    have A154 := A153.iloadN (v := (2 : Int32)) (pc' := 15) d3_14 rfl rfl
    have A155 := A154.iloadN (v := (3 : Int32)) (pc' := 16) d3_15 rfl rfl
    have A156 := A155.iadd (pc' := 17) d3_16 rfl
    have A157 := A156.topI (z := (5 : Int32)) (by decide)
    have A158 := A157.iconst (z := (1 : Int32)) (pc' := 18) d3_17 rfl rfl
    have A159 := A158.iadd (pc' := 19) d3_18 rfl
    have A160 := A159.topI (z := (6 : Int32)) (by decide)
    have A161 := A160.iconst (z := (1 : Int32)) (pc' := 20) d3_19 rfl rfl
    have A162 := A161.iushr (pc' := 21) d3_20 rfl
    have A163 := A162.topI (z := (3 : Int32)) (by decide)
    have A164 := A163.istore (Ls' := #[.val (.ref a), .val (.int c), .val (.int (2 : Int32)), .val (.int (3 : Int32)), .val (.int (3 : Int32))]) (pc' := 23) d3_21 rfl rfl
    have A165 := A164.aloadN (v := (.ref a)) (pc' := 24) d3_23 rfl rfl rfl
    have A166 := A165.iconst (z := (2 : Int32)) (pc' := 25) d3_24 rfl rfl
    have A167 := A166.iload (v := (3 : Int32)) (pc' := 27) d3_25 rfl rfl
    have A168 := A167.imul (pc' := 28) d3_27 rfl
    have A169 := A168.topI (z := (6 : Int32)) (by decide)
    have A170 := A169.iaload (i := 6) (v := (.int v6)) (pc' := 29) d3_28 e0 rfl (by decide) e7 rfl
    have A171 := A170.iloadN (v := c) (pc' := 30) d3_29 rfl rfl
    by_cases c172 : c.toInt < v6.toInt
    · have A173 := A171.icmpYes (pc' := 39) d3_30 (tlt (igt (x := v6) (y := c) rfl rfl c172)).2.2.1 (by decide) (by decide)
      have A174 := A173.iload (v := (3 : Int32)) (pc' := 41) d3_39 rfl rfl
      have A175 := A174.iconst (z := (1 : Int32)) (pc' := 42) d3_41 rfl rfl
      have A176 := A175.isub (pc' := 43) d3_42 rfl
      have A177 := A176.topI (z := (2 : Int32)) (by decide)
      have A178 := A177.istoreN (Ls' := #[.val (.ref a), .val (.int c), .val (.int (2 : Int32)), .val (.int (2 : Int32)), .val (.int (3 : Int32))]) (pc' := 44) d3_43 rfl rfl
      have A179 := A178.goto (pc' := 9) d3_44 (by decide) (by decide)
      have A180 := A179.iloadN (v := (2 : Int32)) (pc' := 10) d3_9 rfl rfl
      have A181 := A180.iloadN (v := (2 : Int32)) (pc' := 11) d3_10 rfl rfl
      have A183 := A181.icmpYes (pc' := 47) d3_11 (flt (inlt (x := (2 : Int32)) (y := (2 : Int32)) rfl rfl (by decide : ¬ ((2 : Int) < 2)))).2.1 (by decide) (by decide)
      have A184 := A183.iloadN (v := (2 : Int32)) (pc' := 48) d3_47 rfl rfl
      have A186 := A184.ifNo (pc' := 51) d3_48 (flt (inlt (x := (2 : Int32)) (y := (0 : Int32)) rfl rfl (by decide : ¬ ((2 : Int) < 0)))).1 rfl
      have A187 := A186.aloadN (v := (.ref a)) (pc' := 52) d3_51 rfl rfl rfl
      have A188 := A187.iconst (z := (2 : Int32)) (pc' := 53) d3_52 rfl rfl
      have A189 := A188.iloadN (v := (2 : Int32)) (pc' := 54) d3_53 rfl rfl
      have A190 := A189.imul (pc' := 55) d3_54 rfl
      have A191 := A190.topI (z := (4 : Int32)) (by decide)
      have A192 := A191.iaload (i := 4) (v := (.int v4)) (pc' := 56) d3_55 e0 rfl (by decide) e5 rfl
      have A193 := A192.iloadN (v := c) (pc' := 57) d3_56 rfl rfl
      by_cases c194 : c.toInt < v4.toInt
      · have A195 := A193.icmpYes (pc' := 75) d3_57 (tlt (igt (x := v4) (y := c) rfl rfl c194)).2.2.1 (by decide) (by decide)
        have A196 := A195.iconst (z := (0 : Int32)) (pc' := 76) d3_75 rfl rfl
        refine A196.retN (t := .boolean) (z' := (0 : Int32)) d3_76 (by decide) (by decide) (by simp) rfl ⟨_, rfl, ⟨rfl, ?_⟩⟩
        have elit : (0 : Int32).toInt = 0 := rfl
        omega
      · have A197 := A193.icmpNo (pc' := 60) d3_57 (flt (ingt (x := v4) (y := c) rfl rfl c194)).2.2.1 rfl
        have A198 := A197.iloadN (v := c) (pc' := 61) d3_60 rfl rfl
        have A199 := A198.aloadN (v := (.ref a)) (pc' := 62) d3_61 rfl rfl rfl
        have A200 := A199.iconst (z := (2 : Int32)) (pc' := 63) d3_62 rfl rfl
        have A201 := A200.iloadN (v := (2 : Int32)) (pc' := 64) d3_63 rfl rfl
        have A202 := A201.imul (pc' := 65) d3_64 rfl
        have A203 := A202.topI (z := (4 : Int32)) (by decide)
        have A204 := A203.iconst (z := (1 : Int32)) (pc' := 66) d3_65 rfl rfl
        have A205 := A204.iadd (pc' := 67) d3_66 rfl
        have A206 := A205.topI (z := (5 : Int32)) (by decide)
        have A207 := A206.iaload (i := 5) (v := (.int v5)) (pc' := 68) d3_67 e0 rfl (by decide) e6 rfl
        by_cases c208 : v5.toInt < c.toInt
        · have A209 := A207.icmpYes (pc' := 75) d3_68 (tlt (igt (x := c) (y := v5) rfl rfl c208)).2.2.1 (by decide) (by decide)
          have A210 := A209.iconst (z := (0 : Int32)) (pc' := 76) d3_75 rfl rfl
          refine A210.retN (t := .boolean) (z' := (0 : Int32)) d3_76 (by decide) (by decide) (by simp) rfl ⟨_, rfl, ⟨rfl, ?_⟩⟩
          have elit : (0 : Int32).toInt = 0 := rfl
          omega
        · have A211 := A207.icmpNo (pc' := 71) d3_68 (flt (ingt (x := c) (y := v5) rfl rfl c208)).2.2.1 rfl
          have A212 := A211.iconst (z := (1 : Int32)) (pc' := 72) d3_71 rfl rfl
          have A213 := A212.goto (pc' := 76) d3_72 (by decide) (by decide)
          refine A213.retN (t := .boolean) (z' := (1 : Int32)) d3_76 (by decide) (by decide) (by simp) rfl ⟨_, rfl, ⟨rfl, ?_⟩⟩
          have elit : (1 : Int32).toInt = 1 := rfl
          omega
    · have A214 := A171.icmpNo (pc' := 33) d3_30 (flt (ingt (x := v6) (y := c) rfl rfl c172)).2.2.1 rfl
      have A215 := A214.iload (v := (3 : Int32)) (pc' := 35) d3_33 rfl rfl
      have A216 := A215.istoreN (Ls' := #[.val (.ref a), .val (.int c), .val (.int (3 : Int32)), .val (.int (3 : Int32)), .val (.int (3 : Int32))]) (pc' := 36) d3_35 rfl rfl
      have A217 := A216.goto (pc' := 44) d3_36 (by decide) (by decide)
      have A218 := A217.goto (pc' := 9) d3_44 (by decide) (by decide)
      have A219 := A218.iloadN (v := (3 : Int32)) (pc' := 10) d3_9 rfl rfl
      have A220 := A219.iloadN (v := (3 : Int32)) (pc' := 11) d3_10 rfl rfl
      have A222 := A220.icmpYes (pc' := 47) d3_11 (flt (inlt (x := (3 : Int32)) (y := (3 : Int32)) rfl rfl (by decide : ¬ ((3 : Int) < 3)))).2.1 (by decide) (by decide)
      have A223 := A222.iloadN (v := (3 : Int32)) (pc' := 48) d3_47 rfl rfl
      have A225 := A223.ifNo (pc' := 51) d3_48 (flt (inlt (x := (3 : Int32)) (y := (0 : Int32)) rfl rfl (by decide : ¬ ((3 : Int) < 0)))).1 rfl
      have A226 := A225.aloadN (v := (.ref a)) (pc' := 52) d3_51 rfl rfl rfl
      have A227 := A226.iconst (z := (2 : Int32)) (pc' := 53) d3_52 rfl rfl
      have A228 := A227.iloadN (v := (3 : Int32)) (pc' := 54) d3_53 rfl rfl
      have A229 := A228.imul (pc' := 55) d3_54 rfl
      have A230 := A229.topI (z := (6 : Int32)) (by decide)
      have A231 := A230.iaload (i := 6) (v := (.int v6)) (pc' := 56) d3_55 e0 rfl (by decide) e7 rfl
      have A232 := A231.iloadN (v := c) (pc' := 57) d3_56 rfl rfl
      by_cases c233 : c.toInt < v6.toInt
      · have A234 := A232.icmpYes (pc' := 75) d3_57 (tlt (igt (x := v6) (y := c) rfl rfl c233)).2.2.1 (by decide) (by decide)
        have A235 := A234.iconst (z := (0 : Int32)) (pc' := 76) d3_75 rfl rfl
        refine A235.retN (t := .boolean) (z' := (0 : Int32)) d3_76 (by decide) (by decide) (by simp) rfl ⟨_, rfl, ⟨rfl, ?_⟩⟩
        have elit : (0 : Int32).toInt = 0 := rfl
        omega
      · have A236 := A232.icmpNo (pc' := 60) d3_57 (flt (ingt (x := v6) (y := c) rfl rfl c233)).2.2.1 rfl
        have A237 := A236.iloadN (v := c) (pc' := 61) d3_60 rfl rfl
        have A238 := A237.aloadN (v := (.ref a)) (pc' := 62) d3_61 rfl rfl rfl
        have A239 := A238.iconst (z := (2 : Int32)) (pc' := 63) d3_62 rfl rfl
        have A240 := A239.iloadN (v := (3 : Int32)) (pc' := 64) d3_63 rfl rfl
        have A241 := A240.imul (pc' := 65) d3_64 rfl
        have A242 := A241.topI (z := (6 : Int32)) (by decide)
        have A243 := A242.iconst (z := (1 : Int32)) (pc' := 66) d3_65 rfl rfl
        have A244 := A243.iadd (pc' := 67) d3_66 rfl
        have A245 := A244.topI (z := (7 : Int32)) (by decide)
        have A246 := A245.iaload (i := 7) (v := (.int v7)) (pc' := 68) d3_67 e0 rfl (by decide) e8 rfl
        by_cases c247 : v7.toInt < c.toInt
        · have A248 := A246.icmpYes (pc' := 75) d3_68 (tlt (igt (x := c) (y := v7) rfl rfl c247)).2.2.1 (by decide) (by decide)
          have A249 := A248.iconst (z := (0 : Int32)) (pc' := 76) d3_75 rfl rfl
          refine A249.retN (t := .boolean) (z' := (0 : Int32)) d3_76 (by decide) (by decide) (by simp) rfl ⟨_, rfl, ⟨rfl, ?_⟩⟩
          have elit : (0 : Int32).toInt = 0 := rfl
          omega
        · have A250 := A246.icmpNo (pc' := 71) d3_68 (flt (ingt (x := c) (y := v7) rfl rfl c247)).2.2.1 rfl
          have A251 := A250.iconst (z := (1 : Int32)) (pc' := 72) d3_71 rfl rfl
          have A252 := A251.goto (pc' := 76) d3_72 (by decide) (by decide)
          refine A252.retN (t := .boolean) (z' := (1 : Int32)) d3_76 (by decide) (by decide) (by simp) rfl ⟨_, rfl, ⟨rfl, ?_⟩⟩
          have elit : (1 : Int32).toInt = 1 := rfl
          omega
theorem pn0 : plainFor x = true := plainFor_of_name (by first | (simp [plainName, overriddenIn, x]; done) | decide +kernel)
abbrev y0 : MethodName := x
abbrev R0 : Room := room_1
set_option maxRecDepth 65536 in
set_option maxHeartbeats 4000000 in
theorem ef0 (base : Int32) (lens : Int32) (gaps : Int32) (k : Int32) (cp : Int32) (mid : MethodId) : entryFrame mid #[(.int base), (.int lens), (.int gaps), (.int k), (.int cp)] maxLocals = mkF mid 0 #[.val (.int base), .val (.int lens), .val (.int gaps), .val (.int k), .val (.int cp), .unset, .unset, .unset, .unset, .unset, .unset, .unset, .unset, .unset, .unset, .unset, .unset, .unset] [] := by first | (simp [entryFrame, mkF, argsToLocals, Value.category, maxLocals]; done) | rfl
set_option maxRecDepth 65536 in
set_option maxHeartbeats 40000000 in
theorem rm0 (l : Launch) (Z : State) (a0 : Array Value) (hw : ∀ d ∈ tables_1, d.before a0 Z = true) (n0 : Nat) (ws : List Jvm.Cond) (base : Int32) (lens : Int32) (gaps : Int32) (k : Int32) (cp : Int32)  (h0 : Heap) (hn0 : n0 ≤ h0.size)  :
    Ctr l Z n0 y0 code maxLocals ret ws R0 #[(.int base), (.int lens), (.int gaps), (.int k), (.int cp)] h0 (QI fun r h => (True) ∧ (r = 1)) := by
  refine ctr_of pn0 hn0 (ef0 base lens gaps k cp) fun G A0 => ?_
  have A1 := A0.iloadN (v := k) (pc' := 1) at_0 rfl rfl
  have A2 := A1.bipush (z := (7 : Int32)) (pc' := 3) at_1 rfl rfl
  have A3 := A2.iand (pc' := 4) at_3 rfl
  have A4 := A3.iconst (z := (5 : Int32)) (pc' := 5) at_4 rfl rfl
  have A5 := A4.irem (pc' := 6) at_5 (by decide) rfl
  have A6 := A5.istore (Ls' := #[.val (.int base), .val (.int lens), .val (.int gaps), .val (.int k), .val (.int cp), .val (.int ((k &&& (7 : Int32)) % (5 : Int32))), .unset, .unset, .unset, .unset, .unset, .unset, .unset, .unset, .unset, .unset, .unset, .unset]) (pc' := 8) at_6 rfl rfl
  have A7 := A6.iloadN (v := k) (pc' := 9) at_8 rfl rfl
  have A8 := A7.bipush (z := (8 : Int32)) (pc' := 11) at_9 rfl rfl
  have A9 := A8.iand (pc' := 12) at_11 rfl
  have join11 : ∀ (v18 : Int32) (q19 : True), W l Z n0 y0 code maxLocals ret R0 G h0 20 #[.val (.int base), .val (.int lens), .val (.int gaps), .val (.int k), .val (.int cp), .val (.int ((k &&& (7 : Int32)) % (5 : Int32))), .unset, .unset, .unset, .unset, .unset, .unset, .unset, .unset, .unset, .unset, .unset, .unset] [(.int v18)] 0 0 → Gl R0 n0 G (QI fun r h => (True) ∧ (r = 1)) := by
    intro v18   q19  A17
    have A20 := A17.istore (Ls' := #[.val (.int base), .val (.int lens), .val (.int gaps), .val (.int k), .val (.int cp), .val (.int ((k &&& (7 : Int32)) % (5 : Int32))), .val (.int v18), .unset, .unset, .unset, .unset, .unset, .unset, .unset, .unset, .unset, .unset, .unset]) (pc' := 22) at_20 rfl rfl
    have A21 := A20.iloadN (v := base) (pc' := 23) at_22 rfl rfl
    have A22 := A21.ldc (z := (65535 : Int32)) (pc' := 25) at_23 (hw _ (List.mem_of_getElem? (i := 0) rfl)) rfl
    have A23 := A22.iand (pc' := 26) at_25 rfl
    have A24 := A23.istore (Ls' := #[.val (.int base), .val (.int lens), .val (.int gaps), .val (.int k), .val (.int cp), .val (.int ((k &&& (7 : Int32)) % (5 : Int32))), .val (.int v18), .val (.int (base &&& (65535 : Int32))), .unset, .unset, .unset, .unset, .unset, .unset, .unset, .unset, .unset, .unset]) (pc' := 28) at_26 rfl rfl
    obtain ⟨s0, e_s0⟩ : ∃ z : Int32, z = (base &&& (65535 : Int32)) := ⟨_, rfl⟩
    have A25 := A24.cast (Ls' := #[.val (.int base), .val (.int lens), .val (.int gaps), .val (.int k), .val (.int cp), .val (.int ((k &&& (7 : Int32)) % (5 : Int32))), .val (.int v18), .val (.int s0), .unset, .unset, .unset, .unset, .unset, .unset, .unset, .unset, .unset, .unset]) rfl (by rw [e_s0]) rfl
    have k_s0 : 0 ≤ s0.toInt ∧ s0.toInt ≤ 65535 := by rw [e_s0]; exact own_m16 _
    have A26 := A25.iload (v := s0) (pc' := 30) at_28 rfl rfl
    have A27 := A26.iloadN (v := lens) (pc' := 31) at_30 rfl rfl
    have A28 := A27.sipush (z := (255 : Int32)) (pc' := 34) at_31 rfl rfl
    have A29 := A28.iand (pc' := 35) at_34 rfl
    have A30 := A29.iadd (pc' := 36) at_35 rfl
    have A31 := A30.istore (Ls' := #[.val (.int base), .val (.int lens), .val (.int gaps), .val (.int k), .val (.int cp), .val (.int ((k &&& (7 : Int32)) % (5 : Int32))), .val (.int v18), .val (.int s0), .val (.int (s0 + (lens &&& (255 : Int32)))), .unset, .unset, .unset, .unset, .unset, .unset, .unset, .unset, .unset]) (pc' := 38) at_36 rfl rfl
    obtain ⟨e0, e_e0⟩ : ∃ z : Int32, z = (s0 + (lens &&& (255 : Int32))) := ⟨_, rfl⟩
    have A32 := A31.cast (Ls' := #[.val (.int base), .val (.int lens), .val (.int gaps), .val (.int k), .val (.int cp), .val (.int ((k &&& (7 : Int32)) % (5 : Int32))), .val (.int v18), .val (.int s0), .val (.int e0), .unset, .unset, .unset, .unset, .unset, .unset, .unset, .unset, .unset]) rfl (by rw [e_e0]) rfl
    have k_e0 : s0.toInt ≤ e0.toInt ∧ e0.toInt ≤ s0.toInt + 255 := by rw [e_e0]; exact own_len s0 _ (by omega) (by omega) (own_m8 _)
    have A33 := A32.iload (v := e0) (pc' := 40) at_38 rfl rfl
    have A34 := A33.iloadN (v := gaps) (pc' := 41) at_40 rfl rfl
    have A35 := A34.sipush (z := (255 : Int32)) (pc' := 44) at_41 rfl rfl
    have A36 := A35.iand (pc' := 45) at_44 rfl
    have A37 := A36.iadd (pc' := 46) at_45 rfl
    have A38 := A37.iconst (z := (1 : Int32)) (pc' := 47) at_46 rfl rfl
    have A39 := A38.iadd (pc' := 48) at_47 rfl
    have A40 := A39.istore (Ls' := #[.val (.int base), .val (.int lens), .val (.int gaps), .val (.int k), .val (.int cp), .val (.int ((k &&& (7 : Int32)) % (5 : Int32))), .val (.int v18), .val (.int s0), .val (.int e0), .val (.int ((e0 + (gaps &&& (255 : Int32))) + (1 : Int32))), .unset, .unset, .unset, .unset, .unset, .unset, .unset, .unset]) (pc' := 50) at_48 rfl rfl
    obtain ⟨s1, e_s1⟩ : ∃ z : Int32, z = ((e0 + (gaps &&& (255 : Int32))) + (1 : Int32)) := ⟨_, rfl⟩
    have A41 := A40.cast (Ls' := #[.val (.int base), .val (.int lens), .val (.int gaps), .val (.int k), .val (.int cp), .val (.int ((k &&& (7 : Int32)) % (5 : Int32))), .val (.int v18), .val (.int s0), .val (.int e0), .val (.int s1), .unset, .unset, .unset, .unset, .unset, .unset, .unset, .unset]) rfl (by rw [e_s1]) rfl
    have k_s1 : e0.toInt < s1.toInt ∧ s1.toInt ≤ e0.toInt + 256 := by rw [e_s1]; exact own_gap e0 _ (by omega) (by omega) (own_m8 _)
    have A42 := A41.iload (v := s1) (pc' := 52) at_50 rfl rfl
    have A43 := A42.iloadN (v := lens) (pc' := 53) at_52 rfl rfl
    have A44 := A43.bipush (z := (8 : Int32)) (pc' := 55) at_53 rfl rfl
    have A45 := A44.iushr (pc' := 56) at_55 rfl
    have A46 := A45.sipush (z := (255 : Int32)) (pc' := 59) at_56 rfl rfl
    have A47 := A46.iand (pc' := 60) at_59 rfl
    have A48 := A47.iadd (pc' := 61) at_60 rfl
    have A49 := A48.istore (Ls' := #[.val (.int base), .val (.int lens), .val (.int gaps), .val (.int k), .val (.int cp), .val (.int ((k &&& (7 : Int32)) % (5 : Int32))), .val (.int v18), .val (.int s0), .val (.int e0), .val (.int s1), .val (.int (s1 + (((lens.toUInt32 >>> ((8 : Int32) &&& 31).toUInt32).toInt32) &&& (255 : Int32)))), .unset, .unset, .unset, .unset, .unset, .unset, .unset]) (pc' := 63) at_61 rfl rfl
    obtain ⟨e1, e_e1⟩ : ∃ z : Int32, z = (s1 + (((lens.toUInt32 >>> ((8 : Int32) &&& 31).toUInt32).toInt32) &&& (255 : Int32))) := ⟨_, rfl⟩
    have A50 := A49.cast (Ls' := #[.val (.int base), .val (.int lens), .val (.int gaps), .val (.int k), .val (.int cp), .val (.int ((k &&& (7 : Int32)) % (5 : Int32))), .val (.int v18), .val (.int s0), .val (.int e0), .val (.int s1), .val (.int e1), .unset, .unset, .unset, .unset, .unset, .unset, .unset]) rfl (by rw [e_e1]) rfl
    have k_e1 : s1.toInt ≤ e1.toInt ∧ e1.toInt ≤ s1.toInt + 255 := by rw [e_e1]; exact own_len s1 _ (by omega) (by omega) (own_m8 _)
    have A51 := A50.iload (v := e1) (pc' := 65) at_63 rfl rfl
    have A52 := A51.iloadN (v := gaps) (pc' := 66) at_65 rfl rfl
    have A53 := A52.bipush (z := (8 : Int32)) (pc' := 68) at_66 rfl rfl
    have A54 := A53.iushr (pc' := 69) at_68 rfl
    have A55 := A54.sipush (z := (255 : Int32)) (pc' := 72) at_69 rfl rfl
    have A56 := A55.iand (pc' := 73) at_72 rfl
    have A57 := A56.iadd (pc' := 74) at_73 rfl
    have A58 := A57.iconst (z := (1 : Int32)) (pc' := 75) at_74 rfl rfl
    have A59 := A58.iadd (pc' := 76) at_75 rfl
    have A60 := A59.istore (Ls' := #[.val (.int base), .val (.int lens), .val (.int gaps), .val (.int k), .val (.int cp), .val (.int ((k &&& (7 : Int32)) % (5 : Int32))), .val (.int v18), .val (.int s0), .val (.int e0), .val (.int s1), .val (.int e1), .val (.int ((e1 + (((gaps.toUInt32 >>> ((8 : Int32) &&& 31).toUInt32).toInt32) &&& (255 : Int32))) + (1 : Int32))), .unset, .unset, .unset, .unset, .unset, .unset]) (pc' := 78) at_76 rfl rfl
    obtain ⟨s2, e_s2⟩ : ∃ z : Int32, z = ((e1 + (((gaps.toUInt32 >>> ((8 : Int32) &&& 31).toUInt32).toInt32) &&& (255 : Int32))) + (1 : Int32)) := ⟨_, rfl⟩
    have A61 := A60.cast (Ls' := #[.val (.int base), .val (.int lens), .val (.int gaps), .val (.int k), .val (.int cp), .val (.int ((k &&& (7 : Int32)) % (5 : Int32))), .val (.int v18), .val (.int s0), .val (.int e0), .val (.int s1), .val (.int e1), .val (.int s2), .unset, .unset, .unset, .unset, .unset, .unset]) rfl (by rw [e_s2]) rfl
    have k_s2 : e1.toInt < s2.toInt ∧ s2.toInt ≤ e1.toInt + 256 := by rw [e_s2]; exact own_gap e1 _ (by omega) (by omega) (own_m8 _)
    have A62 := A61.iload (v := s2) (pc' := 80) at_78 rfl rfl
    have A63 := A62.iloadN (v := lens) (pc' := 81) at_80 rfl rfl
    have A64 := A63.bipush (z := (16 : Int32)) (pc' := 83) at_81 rfl rfl
    have A65 := A64.iushr (pc' := 84) at_83 rfl
    have A66 := A65.sipush (z := (255 : Int32)) (pc' := 87) at_84 rfl rfl
    have A67 := A66.iand (pc' := 88) at_87 rfl
    have A68 := A67.iadd (pc' := 89) at_88 rfl
    have A69 := A68.istore (Ls' := #[.val (.int base), .val (.int lens), .val (.int gaps), .val (.int k), .val (.int cp), .val (.int ((k &&& (7 : Int32)) % (5 : Int32))), .val (.int v18), .val (.int s0), .val (.int e0), .val (.int s1), .val (.int e1), .val (.int s2), .val (.int (s2 + (((lens.toUInt32 >>> ((16 : Int32) &&& 31).toUInt32).toInt32) &&& (255 : Int32)))), .unset, .unset, .unset, .unset, .unset]) (pc' := 91) at_89 rfl rfl
    obtain ⟨e2, e_e2⟩ : ∃ z : Int32, z = (s2 + (((lens.toUInt32 >>> ((16 : Int32) &&& 31).toUInt32).toInt32) &&& (255 : Int32))) := ⟨_, rfl⟩
    have A70 := A69.cast (Ls' := #[.val (.int base), .val (.int lens), .val (.int gaps), .val (.int k), .val (.int cp), .val (.int ((k &&& (7 : Int32)) % (5 : Int32))), .val (.int v18), .val (.int s0), .val (.int e0), .val (.int s1), .val (.int e1), .val (.int s2), .val (.int e2), .unset, .unset, .unset, .unset, .unset]) rfl (by rw [e_e2]) rfl
    have k_e2 : s2.toInt ≤ e2.toInt ∧ e2.toInt ≤ s2.toInt + 255 := by rw [e_e2]; exact own_len s2 _ (by omega) (by omega) (own_m8 _)
    have A71 := A70.iload (v := e2) (pc' := 93) at_91 rfl rfl
    have A72 := A71.iloadN (v := gaps) (pc' := 94) at_93 rfl rfl
    have A73 := A72.bipush (z := (16 : Int32)) (pc' := 96) at_94 rfl rfl
    have A74 := A73.iushr (pc' := 97) at_96 rfl
    have A75 := A74.sipush (z := (255 : Int32)) (pc' := 100) at_97 rfl rfl
    have A76 := A75.iand (pc' := 101) at_100 rfl
    have A77 := A76.iadd (pc' := 102) at_101 rfl
    have A78 := A77.iconst (z := (1 : Int32)) (pc' := 103) at_102 rfl rfl
    have A79 := A78.iadd (pc' := 104) at_103 rfl
    have A80 := A79.istore (Ls' := #[.val (.int base), .val (.int lens), .val (.int gaps), .val (.int k), .val (.int cp), .val (.int ((k &&& (7 : Int32)) % (5 : Int32))), .val (.int v18), .val (.int s0), .val (.int e0), .val (.int s1), .val (.int e1), .val (.int s2), .val (.int e2), .val (.int ((e2 + (((gaps.toUInt32 >>> ((16 : Int32) &&& 31).toUInt32).toInt32) &&& (255 : Int32))) + (1 : Int32))), .unset, .unset, .unset, .unset]) (pc' := 106) at_104 rfl rfl
    obtain ⟨s3, e_s3⟩ : ∃ z : Int32, z = ((e2 + (((gaps.toUInt32 >>> ((16 : Int32) &&& 31).toUInt32).toInt32) &&& (255 : Int32))) + (1 : Int32)) := ⟨_, rfl⟩
    have A81 := A80.cast (Ls' := #[.val (.int base), .val (.int lens), .val (.int gaps), .val (.int k), .val (.int cp), .val (.int ((k &&& (7 : Int32)) % (5 : Int32))), .val (.int v18), .val (.int s0), .val (.int e0), .val (.int s1), .val (.int e1), .val (.int s2), .val (.int e2), .val (.int s3), .unset, .unset, .unset, .unset]) rfl (by rw [e_s3]) rfl
    have k_s3 : e2.toInt < s3.toInt ∧ s3.toInt ≤ e2.toInt + 256 := by rw [e_s3]; exact own_gap e2 _ (by omega) (by omega) (own_m8 _)
    have A82 := A81.iload (v := s3) (pc' := 108) at_106 rfl rfl
    have A83 := A82.iloadN (v := lens) (pc' := 109) at_108 rfl rfl
    have A84 := A83.bipush (z := (24 : Int32)) (pc' := 111) at_109 rfl rfl
    have A85 := A84.iushr (pc' := 112) at_111 rfl
    have A86 := A85.sipush (z := (255 : Int32)) (pc' := 115) at_112 rfl rfl
    have A87 := A86.iand (pc' := 116) at_115 rfl
    have A88 := A87.iadd (pc' := 117) at_116 rfl
    have A89 := A88.istore (Ls' := #[.val (.int base), .val (.int lens), .val (.int gaps), .val (.int k), .val (.int cp), .val (.int ((k &&& (7 : Int32)) % (5 : Int32))), .val (.int v18), .val (.int s0), .val (.int e0), .val (.int s1), .val (.int e1), .val (.int s2), .val (.int e2), .val (.int s3), .val (.int (s3 + (((lens.toUInt32 >>> ((24 : Int32) &&& 31).toUInt32).toInt32) &&& (255 : Int32)))), .unset, .unset, .unset]) (pc' := 119) at_117 rfl rfl
    obtain ⟨e3, e_e3⟩ : ∃ z : Int32, z = (s3 + (((lens.toUInt32 >>> ((24 : Int32) &&& 31).toUInt32).toInt32) &&& (255 : Int32))) := ⟨_, rfl⟩
    have A90 := A89.cast (Ls' := #[.val (.int base), .val (.int lens), .val (.int gaps), .val (.int k), .val (.int cp), .val (.int ((k &&& (7 : Int32)) % (5 : Int32))), .val (.int v18), .val (.int s0), .val (.int e0), .val (.int s1), .val (.int e1), .val (.int s2), .val (.int e2), .val (.int s3), .val (.int e3), .unset, .unset, .unset]) rfl (by rw [e_e3]) rfl
    have k_e3 : s3.toInt ≤ e3.toInt ∧ e3.toInt ≤ s3.toInt + 255 := by rw [e_e3]; exact own_len s3 _ (by omega) (by omega) (own_m8 _)
    have A91 := A90.iload (v := v18) (pc' := 121) at_119 rfl rfl
    have join93 : ∀ (v106 : Int32) (q107 : True), W l Z n0 y0 code maxLocals ret R0 G h0 140 #[.val (.int base), .val (.int lens), .val (.int gaps), .val (.int k), .val (.int cp), .val (.int ((k &&& (7 : Int32)) % (5 : Int32))), .val (.int v18), .val (.int s0), .val (.int e0), .val (.int s1), .val (.int e1), .val (.int s2), .val (.int e2), .val (.int s3), .val (.int e3), .unset, .unset, .unset] [(.int v106)] 0 0 → Gl R0 n0 G (QI fun r h => (True) ∧ (r = 1)) := by
      intro v106   q107  A105
      have A108 := A105.istore (Ls' := #[.val (.int base), .val (.int lens), .val (.int gaps), .val (.int k), .val (.int cp), .val (.int ((k &&& (7 : Int32)) % (5 : Int32))), .val (.int v18), .val (.int s0), .val (.int e0), .val (.int s1), .val (.int e1), .val (.int s2), .val (.int e2), .val (.int s3), .val (.int e3), .val (.int v106), .unset, .unset]) (pc' := 142) at_140 rfl rfl
      obtain hn5 | hn5 | hn5 | hn5 | hn5 := own_five k
      · have A109 := A108.cast (Ls' := #[.val (.int base), .val (.int lens), .val (.int gaps), .val (.int k), .val (.int cp), .val (.int (0 : Int32)), .val (.int v18), .val (.int s0), .val (.int e0), .val (.int s1), .val (.int e1), .val (.int s2), .val (.int e2), .val (.int s3), .val (.int e3), .val (.int v106), .unset, .unset]) rfl (by rw [hn5]) rfl
        have A110 := A109.iload (v := (0 : Int32)) (pc' := 144) at_142 rfl rfl
        have A111 := A110.iload (v := s0) (pc' := 146) at_144 rfl rfl
        have A112 := A111.iload (v := e0) (pc' := 148) at_146 rfl rfl
        have A113 := A112.iload (v := s1) (pc' := 150) at_148 rfl rfl
        have A114 := A113.iload (v := e1) (pc' := 152) at_150 rfl rfl
        have A115 := A114.iload (v := s2) (pc' := 154) at_152 rfl rfl
        have A116 := A115.iload (v := e2) (pc' := 156) at_154 rfl rfl
        have A117 := A116.iload (v := s3) (pc' := 158) at_156 rfl rfl
        have A118 := A117.iload (v := e3) (pc' := 160) at_158 rfl rfl
        obtain ⟨r120, h122, ⟨K123, g124, z125, f126, q121⟩, A119⟩ := W.kA (A118.callS (argsL := [(.int (0 : Int32)), (.int s0), (.int e0), (.int s1), (.int e1), (.int s2), (.int e2), (.int s3), (.int e3)]) (rest := []) (C' := 1) (S' := 0) (pc' := 163) at_160 (hw _ (List.mem_of_getElem? (i := 1) rfl)) (hw _ (List.mem_of_getElem? (i := 2) rfl)) (hw _ (List.mem_of_getElem? (i := 3) rfl)) (hw _ (List.mem_of_getElem? (i := 4) rfl)) (rm1_0 l Z a0 hw n0 [] (s0) (e0) (s1) (e1) (s2) (e2) (s3) (e3)  h0 A118.size ) rfl rfl pd_0 rfl rfl (by decide) (by decide) (Nat.le_of_ble_eq_true rfl) (by decide) (by decide) rfl rfl rfl)
        have A127 := A119.astore (Ls' := #[.val (.int base), .val (.int lens), .val (.int gaps), .val (.int k), .val (.int cp), .val (.int (0 : Int32)), .val (.int v18), .val (.int s0), .val (.int e0), .val (.int s1), .val (.int e1), .val (.int s2), .val (.int e2), .val (.int s3), .val (.int e3), .val (.int v106), .val (.ref r120), .unset]) (pc' := 165) at_163 rfl rfl rfl
        have A128 := A127.iload (v := (0 : Int32)) (pc' := 167) at_165 rfl rfl
        have A129 := A128.iconst (z := (1 : Int32)) (pc' := 168) at_167 rfl rfl
        have A131 := A129.icmpYes (pc' := 183) at_168 (tlt (ilt (x := (0 : Int32)) (y := (1 : Int32)) rfl rfl (by decide : (0 : Int) < 1))).1 (by decide) (by decide)
        have A132 := A131.iload (v := (0 : Int32)) (pc' := 185) at_183 rfl rfl
        have A133 := A132.iconst (z := (2 : Int32)) (pc' := 186) at_185 rfl rfl
        have A135 := A133.icmpYes (pc' := 201) at_186 (tlt (ilt (x := (0 : Int32)) (y := (2 : Int32)) rfl rfl (by decide : (0 : Int) < 2))).1 (by decide) (by decide)
        have A136 := A135.iload (v := (0 : Int32)) (pc' := 203) at_201 rfl rfl
        have A137 := A136.iconst (z := (3 : Int32)) (pc' := 204) at_203 rfl rfl
        have A139 := A137.icmpYes (pc' := 219) at_204 (tlt (ilt (x := (0 : Int32)) (y := (3 : Int32)) rfl rfl (by decide : (0 : Int) < 3))).1 (by decide) (by decide)
        have A140 := A139.iload (v := (0 : Int32)) (pc' := 221) at_219 rfl rfl
        have A141 := A140.iconst (z := (4 : Int32)) (pc' := 222) at_221 rfl rfl
        have A143 := A141.icmpYes (pc' := 241) at_222 (tlt (ilt (x := (0 : Int32)) (y := (4 : Int32)) rfl rfl (by decide : (0 : Int) < 4))).1 (by decide) (by decide)
        have A144 := A143.iconst (z := (0 : Int32)) (pc' := 242) at_241 rfl rfl
        have A145 := A144.istore (Ls' := #[.val (.int base), .val (.int lens), .val (.int gaps), .val (.int k), .val (.int cp), .val (.int (0 : Int32)), .val (.int v18), .val (.int s0), .val (.int e0), .val (.int s1), .val (.int e1), .val (.int s2), .val (.int e2), .val (.int s3), .val (.int e3), .val (.int v106), .val (.ref r120), .val (.int (0 : Int32))]) (pc' := 244) at_242 rfl rfl
        have A146 := A145.aload (v := (.ref r120)) (pc' := 246) at_244 rfl rfl rfl
        have A147 := A146.iload (v := v106) (pc' := 248) at_246 rfl rfl
        obtain ⟨r149, _, ⟨rfl, q150⟩, A148⟩ := W.kI (A147.callS (argsL := [(.ref r120), (.int v106)]) (rest := []) (C' := 1) (S' := 0) (pc' := 251) at_248 (hw _ (List.mem_of_getElem? (i := 9) rfl)) (hw _ (List.mem_of_getElem? (i := 10) rfl)) (hw _ (List.mem_of_getElem? (i := 11) rfl)) (hw _ (List.mem_of_getElem? (i := 12) rfl)) (rm3_0 l Z a0 hw n0 [] (r120) (v106) ((fun _ => (.int (0 : Int32)))) h122 A147.size f126 (by first | rfl | omega)) rfl rfl pd_1 rfl rfl (by decide) (by decide) (Nat.le_of_ble_eq_true rfl) (by decide) (by decide) rfl rfl rfl)
        have A152 := A148.iload (v := (0 : Int32)) (pc' := 253) at_251 rfl rfl
        by_cases c153 : r149.toInt = 0
        · have A154 := A152.icmpNo (pc' := 256) at_253 (teq (ieq (x := r149) (y := (0 : Int32)) rfl rfl c153)).2 rfl
          have A155 := A154.iconst (z := (1 : Int32)) (pc' := 257) at_256 rfl rfl
          have A156 := A155.goto (pc' := 261) at_257 (by decide) (by decide)
          refine A156.retN (t := .boolean) (z' := (1 : Int32)) at_261 (by decide) (by decide) (by simp) rfl ⟨_, rfl, ⟨trivial, ?_⟩⟩
          have elit : (1 : Int32).toInt = 1 := rfl
          rfl
        · have A157 := A152.icmpYes (pc' := 260) at_253 (feq (ine (x := r149) (y := (0 : Int32)) rfl rfl c153)).2 (by decide) (by decide)
          have A158 := A157.iconst (z := (0 : Int32)) (pc' := 261) at_260 rfl rfl
          refine A158.retN (t := .boolean) (z' := (0 : Int32)) at_261 (by decide) (by decide) (by simp) rfl ⟨_, rfl, ⟨trivial, ?_⟩⟩
          have elit : (0 : Int32).toInt = 0 := rfl
          exfalso
          omega
      · have A159 := A108.cast (Ls' := #[.val (.int base), .val (.int lens), .val (.int gaps), .val (.int k), .val (.int cp), .val (.int (1 : Int32)), .val (.int v18), .val (.int s0), .val (.int e0), .val (.int s1), .val (.int e1), .val (.int s2), .val (.int e2), .val (.int s3), .val (.int e3), .val (.int v106), .unset, .unset]) rfl (by rw [hn5]) rfl
        have A160 := A159.iload (v := (1 : Int32)) (pc' := 144) at_142 rfl rfl
        have A161 := A160.iload (v := s0) (pc' := 146) at_144 rfl rfl
        have A162 := A161.iload (v := e0) (pc' := 148) at_146 rfl rfl
        have A163 := A162.iload (v := s1) (pc' := 150) at_148 rfl rfl
        have A164 := A163.iload (v := e1) (pc' := 152) at_150 rfl rfl
        have A165 := A164.iload (v := s2) (pc' := 154) at_152 rfl rfl
        have A166 := A165.iload (v := e2) (pc' := 156) at_154 rfl rfl
        have A167 := A166.iload (v := s3) (pc' := 158) at_156 rfl rfl
        have A168 := A167.iload (v := e3) (pc' := 160) at_158 rfl rfl
        obtain ⟨r170, h172, ⟨K173, g174, z175, f176, q171⟩, A169⟩ := W.kA (A168.callS (argsL := [(.int (1 : Int32)), (.int s0), (.int e0), (.int s1), (.int e1), (.int s2), (.int e2), (.int s3), (.int e3)]) (rest := []) (C' := 1) (S' := 2) (pc' := 163) at_160 (hw _ (List.mem_of_getElem? (i := 1) rfl)) (hw _ (List.mem_of_getElem? (i := 2) rfl)) (hw _ (List.mem_of_getElem? (i := 3) rfl)) (hw _ (List.mem_of_getElem? (i := 4) rfl)) (rm1_1 l Z a0 hw n0 [] (s0) (e0) (s1) (e1) (s2) (e2) (s3) (e3)  h0 A168.size ) rfl rfl pd_0 rfl rfl (by decide) (by decide) (Nat.le_of_ble_eq_true rfl) (by decide) (by decide) rfl rfl rfl)
        have A177 := A169.astore (Ls' := #[.val (.int base), .val (.int lens), .val (.int gaps), .val (.int k), .val (.int cp), .val (.int (1 : Int32)), .val (.int v18), .val (.int s0), .val (.int e0), .val (.int s1), .val (.int e1), .val (.int s2), .val (.int e2), .val (.int s3), .val (.int e3), .val (.int v106), .val (.ref r170), .unset]) (pc' := 165) at_163 rfl rfl rfl
        have A178 := A177.iload (v := (1 : Int32)) (pc' := 167) at_165 rfl rfl
        have A179 := A178.iconst (z := (1 : Int32)) (pc' := 168) at_167 rfl rfl
        have A181 := A179.icmpNo (pc' := 171) at_168 (flt (inlt (x := (1 : Int32)) (y := (1 : Int32)) rfl rfl (by decide : ¬ ((1 : Int) < 1)))).1 rfl
        have A182 := A181.iload (v := v106) (pc' := 173) at_171 rfl rfl
        have A183 := A182.iload (v := s0) (pc' := 175) at_173 rfl rfl
        have A184 := A183.iload (v := e0) (pc' := 177) at_175 rfl rfl
        obtain ⟨r186, _, ⟨rfl, q187⟩, A185⟩ := W.kI (A184.callS (argsL := [(.int v106), (.int s0), (.int e0)]) (rest := []) (C' := 1) (S' := 2) (pc' := 180) at_177 (hw _ (List.mem_of_getElem? (i := 6) rfl)) (hw _ (List.mem_of_getElem? (i := 7) rfl)) (hw _ (List.mem_of_getElem? (i := 3) rfl)) (hw _ (List.mem_of_getElem? (i := 8) rfl)) (rm2 l Z a0 hw n0 [] (v106) (s0) (e0)  h172 A184.size ) rfl rfl pd_2 rfl rfl (by decide) (by decide) (Nat.le_of_ble_eq_true rfl) (by decide) (by decide) rfl rfl rfl)
        by_cases c189 : r186.toInt = 0
        · have A190 := A185.ifNo (pc' := 183) at_180 (teq (ieq (x := r186) (y := (0 : Int32)) rfl rfl c189)).2 rfl
          have A191 := A190.iload (v := (1 : Int32)) (pc' := 185) at_183 rfl rfl
          have A192 := A191.iconst (z := (2 : Int32)) (pc' := 186) at_185 rfl rfl
          have A194 := A192.icmpYes (pc' := 201) at_186 (tlt (ilt (x := (1 : Int32)) (y := (2 : Int32)) rfl rfl (by decide : (1 : Int) < 2))).1 (by decide) (by decide)
          have A195 := A194.iload (v := (1 : Int32)) (pc' := 203) at_201 rfl rfl
          have A196 := A195.iconst (z := (3 : Int32)) (pc' := 204) at_203 rfl rfl
          have A198 := A196.icmpYes (pc' := 219) at_204 (tlt (ilt (x := (1 : Int32)) (y := (3 : Int32)) rfl rfl (by decide : (1 : Int) < 3))).1 (by decide) (by decide)
          have A199 := A198.iload (v := (1 : Int32)) (pc' := 221) at_219 rfl rfl
          have A200 := A199.iconst (z := (4 : Int32)) (pc' := 222) at_221 rfl rfl
          have A202 := A200.icmpYes (pc' := 241) at_222 (tlt (ilt (x := (1 : Int32)) (y := (4 : Int32)) rfl rfl (by decide : (1 : Int) < 4))).1 (by decide) (by decide)
          have A203 := A202.iconst (z := (0 : Int32)) (pc' := 242) at_241 rfl rfl
          have A204 := A203.istore (Ls' := #[.val (.int base), .val (.int lens), .val (.int gaps), .val (.int k), .val (.int cp), .val (.int (1 : Int32)), .val (.int v18), .val (.int s0), .val (.int e0), .val (.int s1), .val (.int e1), .val (.int s2), .val (.int e2), .val (.int s3), .val (.int e3), .val (.int v106), .val (.ref r170), .val (.int (0 : Int32))]) (pc' := 244) at_242 rfl rfl
          have A205 := A204.aload (v := (.ref r170)) (pc' := 246) at_244 rfl rfl rfl
          have A206 := A205.iload (v := v106) (pc' := 248) at_246 rfl rfl
          obtain ⟨r208, _, ⟨rfl, q209⟩, A207⟩ := W.kI (A206.callS (argsL := [(.ref r170), (.int v106)]) (rest := []) (C' := 1) (S' := 2) (pc' := 251) at_248 (hw _ (List.mem_of_getElem? (i := 9) rfl)) (hw _ (List.mem_of_getElem? (i := 10) rfl)) (hw _ (List.mem_of_getElem? (i := 11) rfl)) (hw _ (List.mem_of_getElem? (i := 12) rfl)) (rm3_1 l Z a0 hw n0 [] (r170) (v106) ((upd (upd (fun _ => (.int (0 : Int32))) 0 (.int s0)) 1 (.int e0))) (s0) (e0) h172 A206.size f176 (by first | rfl | omega) (by first | rfl | omega) (by first | rfl | omega)) rfl rfl pd_1 rfl rfl (by decide) (by decide) (Nat.le_of_ble_eq_true rfl) (by decide) (by decide) rfl rfl rfl)
          have A211 := A207.iload (v := (0 : Int32)) (pc' := 253) at_251 rfl rfl
          by_cases c212 : r208.toInt = 0
          · have A213 := A211.icmpNo (pc' := 256) at_253 (teq (ieq (x := r208) (y := (0 : Int32)) rfl rfl c212)).2 rfl
            have A214 := A213.iconst (z := (1 : Int32)) (pc' := 257) at_256 rfl rfl
            have A215 := A214.goto (pc' := 261) at_257 (by decide) (by decide)
            refine A215.retN (t := .boolean) (z' := (1 : Int32)) at_261 (by decide) (by decide) (by simp) rfl ⟨_, rfl, ⟨trivial, ?_⟩⟩
            have elit : (1 : Int32).toInt = 1 := rfl
            rfl
          · have A216 := A211.icmpYes (pc' := 260) at_253 (feq (ine (x := r208) (y := (0 : Int32)) rfl rfl c212)).2 (by decide) (by decide)
            have A217 := A216.iconst (z := (0 : Int32)) (pc' := 261) at_260 rfl rfl
            refine A217.retN (t := .boolean) (z' := (0 : Int32)) at_261 (by decide) (by decide) (by simp) rfl ⟨_, rfl, ⟨trivial, ?_⟩⟩
            have elit : (0 : Int32).toInt = 0 := rfl
            exfalso
            omega
        · have A218 := A185.ifYes (pc' := 237) at_180 (feq (ine (x := r186) (y := (0 : Int32)) rfl rfl c189)).2 (by decide) (by decide)
          have A219 := A218.iconst (z := (1 : Int32)) (pc' := 238) at_237 rfl rfl
          have A220 := A219.goto (pc' := 242) at_238 (by decide) (by decide)
          have A221 := A220.istore (Ls' := #[.val (.int base), .val (.int lens), .val (.int gaps), .val (.int k), .val (.int cp), .val (.int (1 : Int32)), .val (.int v18), .val (.int s0), .val (.int e0), .val (.int s1), .val (.int e1), .val (.int s2), .val (.int e2), .val (.int s3), .val (.int e3), .val (.int v106), .val (.ref r170), .val (.int (1 : Int32))]) (pc' := 244) at_242 rfl rfl
          have A222 := A221.aload (v := (.ref r170)) (pc' := 246) at_244 rfl rfl rfl
          have A223 := A222.iload (v := v106) (pc' := 248) at_246 rfl rfl
          obtain ⟨r225, _, ⟨rfl, q226⟩, A224⟩ := W.kI (A223.callS (argsL := [(.ref r170), (.int v106)]) (rest := []) (C' := 1) (S' := 2) (pc' := 251) at_248 (hw _ (List.mem_of_getElem? (i := 9) rfl)) (hw _ (List.mem_of_getElem? (i := 10) rfl)) (hw _ (List.mem_of_getElem? (i := 11) rfl)) (hw _ (List.mem_of_getElem? (i := 12) rfl)) (rm3_1 l Z a0 hw n0 [] (r170) (v106) ((upd (upd (fun _ => (.int (0 : Int32))) 0 (.int s0)) 1 (.int e0))) (s0) (e0) h172 A223.size f176 (by first | rfl | omega) (by first | rfl | omega) (by first | rfl | omega)) rfl rfl pd_1 rfl rfl (by decide) (by decide) (Nat.le_of_ble_eq_true rfl) (by decide) (by decide) rfl rfl rfl)
          have A228 := A224.iload (v := (1 : Int32)) (pc' := 253) at_251 rfl rfl
          by_cases c229 : r225.toInt = 1
          · have A230 := A228.icmpNo (pc' := 256) at_253 (teq (ieq (x := r225) (y := (1 : Int32)) rfl rfl c229)).2 rfl
            have A231 := A230.iconst (z := (1 : Int32)) (pc' := 257) at_256 rfl rfl
            have A232 := A231.goto (pc' := 261) at_257 (by decide) (by decide)
            refine A232.retN (t := .boolean) (z' := (1 : Int32)) at_261 (by decide) (by decide) (by simp) rfl ⟨_, rfl, ⟨trivial, ?_⟩⟩
            have elit : (1 : Int32).toInt = 1 := rfl
            rfl
          · have A233 := A228.icmpYes (pc' := 260) at_253 (feq (ine (x := r225) (y := (1 : Int32)) rfl rfl c229)).2 (by decide) (by decide)
            have A234 := A233.iconst (z := (0 : Int32)) (pc' := 261) at_260 rfl rfl
            refine A234.retN (t := .boolean) (z' := (0 : Int32)) at_261 (by decide) (by decide) (by simp) rfl ⟨_, rfl, ⟨trivial, ?_⟩⟩
            have elit : (0 : Int32).toInt = 0 := rfl
            exfalso
            omega
      · have A235 := A108.cast (Ls' := #[.val (.int base), .val (.int lens), .val (.int gaps), .val (.int k), .val (.int cp), .val (.int (2 : Int32)), .val (.int v18), .val (.int s0), .val (.int e0), .val (.int s1), .val (.int e1), .val (.int s2), .val (.int e2), .val (.int s3), .val (.int e3), .val (.int v106), .unset, .unset]) rfl (by rw [hn5]) rfl
        have A236 := A235.iload (v := (2 : Int32)) (pc' := 144) at_142 rfl rfl
        have A237 := A236.iload (v := s0) (pc' := 146) at_144 rfl rfl
        have A238 := A237.iload (v := e0) (pc' := 148) at_146 rfl rfl
        have A239 := A238.iload (v := s1) (pc' := 150) at_148 rfl rfl
        have A240 := A239.iload (v := e1) (pc' := 152) at_150 rfl rfl
        have A241 := A240.iload (v := s2) (pc' := 154) at_152 rfl rfl
        have A242 := A241.iload (v := e2) (pc' := 156) at_154 rfl rfl
        have A243 := A242.iload (v := s3) (pc' := 158) at_156 rfl rfl
        have A244 := A243.iload (v := e3) (pc' := 160) at_158 rfl rfl
        obtain ⟨r246, h248, ⟨K249, g250, z251, f252, q247⟩, A245⟩ := W.kA (A244.callS (argsL := [(.int (2 : Int32)), (.int s0), (.int e0), (.int s1), (.int e1), (.int s2), (.int e2), (.int s3), (.int e3)]) (rest := []) (C' := 1) (S' := 4) (pc' := 163) at_160 (hw _ (List.mem_of_getElem? (i := 1) rfl)) (hw _ (List.mem_of_getElem? (i := 2) rfl)) (hw _ (List.mem_of_getElem? (i := 3) rfl)) (hw _ (List.mem_of_getElem? (i := 4) rfl)) (rm1_2 l Z a0 hw n0 [] (s0) (e0) (s1) (e1) (s2) (e2) (s3) (e3)  h0 A244.size ) rfl rfl pd_0 rfl rfl (by decide) (by decide) (Nat.le_of_ble_eq_true rfl) (by decide) (by decide) rfl rfl rfl)
        have A253 := A245.astore (Ls' := #[.val (.int base), .val (.int lens), .val (.int gaps), .val (.int k), .val (.int cp), .val (.int (2 : Int32)), .val (.int v18), .val (.int s0), .val (.int e0), .val (.int s1), .val (.int e1), .val (.int s2), .val (.int e2), .val (.int s3), .val (.int e3), .val (.int v106), .val (.ref r246), .unset]) (pc' := 165) at_163 rfl rfl rfl
        have A254 := A253.iload (v := (2 : Int32)) (pc' := 167) at_165 rfl rfl
        have A255 := A254.iconst (z := (1 : Int32)) (pc' := 168) at_167 rfl rfl
        have A257 := A255.icmpNo (pc' := 171) at_168 (flt (inlt (x := (2 : Int32)) (y := (1 : Int32)) rfl rfl (by decide : ¬ ((2 : Int) < 1)))).1 rfl
        have A258 := A257.iload (v := v106) (pc' := 173) at_171 rfl rfl
        have A259 := A258.iload (v := s0) (pc' := 175) at_173 rfl rfl
        have A260 := A259.iload (v := e0) (pc' := 177) at_175 rfl rfl
        obtain ⟨r262, _, ⟨rfl, q263⟩, A261⟩ := W.kI (A260.callS (argsL := [(.int v106), (.int s0), (.int e0)]) (rest := []) (C' := 1) (S' := 4) (pc' := 180) at_177 (hw _ (List.mem_of_getElem? (i := 6) rfl)) (hw _ (List.mem_of_getElem? (i := 7) rfl)) (hw _ (List.mem_of_getElem? (i := 3) rfl)) (hw _ (List.mem_of_getElem? (i := 8) rfl)) (rm2 l Z a0 hw n0 [] (v106) (s0) (e0)  h248 A260.size ) rfl rfl pd_2 rfl rfl (by decide) (by decide) (Nat.le_of_ble_eq_true rfl) (by decide) (by decide) rfl rfl rfl)
        by_cases c265 : r262.toInt = 0
        · have A266 := A261.ifNo (pc' := 183) at_180 (teq (ieq (x := r262) (y := (0 : Int32)) rfl rfl c265)).2 rfl
          have A267 := A266.iload (v := (2 : Int32)) (pc' := 185) at_183 rfl rfl
          have A268 := A267.iconst (z := (2 : Int32)) (pc' := 186) at_185 rfl rfl
          have A270 := A268.icmpNo (pc' := 189) at_186 (flt (inlt (x := (2 : Int32)) (y := (2 : Int32)) rfl rfl (by decide : ¬ ((2 : Int) < 2)))).1 rfl
          have A271 := A270.iload (v := v106) (pc' := 191) at_189 rfl rfl
          have A272 := A271.iload (v := s1) (pc' := 193) at_191 rfl rfl
          have A273 := A272.iload (v := e1) (pc' := 195) at_193 rfl rfl
          obtain ⟨r275, _, ⟨rfl, q276⟩, A274⟩ := W.kI (A273.callS (argsL := [(.int v106), (.int s1), (.int e1)]) (rest := []) (C' := 1) (S' := 4) (pc' := 198) at_195 (hw _ (List.mem_of_getElem? (i := 6) rfl)) (hw _ (List.mem_of_getElem? (i := 7) rfl)) (hw _ (List.mem_of_getElem? (i := 3) rfl)) (hw _ (List.mem_of_getElem? (i := 8) rfl)) (rm2 l Z a0 hw n0 [] (v106) (s1) (e1)  h248 A273.size ) rfl rfl pd_2 rfl rfl (by decide) (by decide) (Nat.le_of_ble_eq_true rfl) (by decide) (by decide) rfl rfl rfl)
          by_cases c278 : r275.toInt = 0
          · have A279 := A274.ifNo (pc' := 201) at_198 (teq (ieq (x := r275) (y := (0 : Int32)) rfl rfl c278)).2 rfl
            have A280 := A279.iload (v := (2 : Int32)) (pc' := 203) at_201 rfl rfl
            have A281 := A280.iconst (z := (3 : Int32)) (pc' := 204) at_203 rfl rfl
            have A283 := A281.icmpYes (pc' := 219) at_204 (tlt (ilt (x := (2 : Int32)) (y := (3 : Int32)) rfl rfl (by decide : (2 : Int) < 3))).1 (by decide) (by decide)
            have A284 := A283.iload (v := (2 : Int32)) (pc' := 221) at_219 rfl rfl
            have A285 := A284.iconst (z := (4 : Int32)) (pc' := 222) at_221 rfl rfl
            have A287 := A285.icmpYes (pc' := 241) at_222 (tlt (ilt (x := (2 : Int32)) (y := (4 : Int32)) rfl rfl (by decide : (2 : Int) < 4))).1 (by decide) (by decide)
            have A288 := A287.iconst (z := (0 : Int32)) (pc' := 242) at_241 rfl rfl
            have A289 := A288.istore (Ls' := #[.val (.int base), .val (.int lens), .val (.int gaps), .val (.int k), .val (.int cp), .val (.int (2 : Int32)), .val (.int v18), .val (.int s0), .val (.int e0), .val (.int s1), .val (.int e1), .val (.int s2), .val (.int e2), .val (.int s3), .val (.int e3), .val (.int v106), .val (.ref r246), .val (.int (0 : Int32))]) (pc' := 244) at_242 rfl rfl
            have A290 := A289.aload (v := (.ref r246)) (pc' := 246) at_244 rfl rfl rfl
            have A291 := A290.iload (v := v106) (pc' := 248) at_246 rfl rfl
            obtain ⟨r293, _, ⟨rfl, q294⟩, A292⟩ := W.kI (A291.callS (argsL := [(.ref r246), (.int v106)]) (rest := []) (C' := 1) (S' := 4) (pc' := 251) at_248 (hw _ (List.mem_of_getElem? (i := 9) rfl)) (hw _ (List.mem_of_getElem? (i := 10) rfl)) (hw _ (List.mem_of_getElem? (i := 11) rfl)) (hw _ (List.mem_of_getElem? (i := 12) rfl)) (rm3_2 l Z a0 hw n0 [] (r246) (v106) ((upd (upd (upd (upd (fun _ => (.int (0 : Int32))) 0 (.int s0)) 1 (.int e0)) 2 (.int s1)) 3 (.int e1))) (s0) (e0) (s1) (e1) h248 A291.size f252 (by first | rfl | omega) (by first | rfl | omega) (by first | rfl | omega) (by first | rfl | omega) (by first | rfl | omega)) rfl rfl pd_1 rfl rfl (by decide) (by decide) (Nat.le_of_ble_eq_true rfl) (by decide) (by decide) rfl rfl rfl)
            have A296 := A292.iload (v := (0 : Int32)) (pc' := 253) at_251 rfl rfl
            by_cases c297 : r293.toInt = 0
            · have A298 := A296.icmpNo (pc' := 256) at_253 (teq (ieq (x := r293) (y := (0 : Int32)) rfl rfl c297)).2 rfl
              have A299 := A298.iconst (z := (1 : Int32)) (pc' := 257) at_256 rfl rfl
              have A300 := A299.goto (pc' := 261) at_257 (by decide) (by decide)
              refine A300.retN (t := .boolean) (z' := (1 : Int32)) at_261 (by decide) (by decide) (by simp) rfl ⟨_, rfl, ⟨trivial, ?_⟩⟩
              have elit : (1 : Int32).toInt = 1 := rfl
              rfl
            · have A301 := A296.icmpYes (pc' := 260) at_253 (feq (ine (x := r293) (y := (0 : Int32)) rfl rfl c297)).2 (by decide) (by decide)
              have A302 := A301.iconst (z := (0 : Int32)) (pc' := 261) at_260 rfl rfl
              refine A302.retN (t := .boolean) (z' := (0 : Int32)) at_261 (by decide) (by decide) (by simp) rfl ⟨_, rfl, ⟨trivial, ?_⟩⟩
              have elit : (0 : Int32).toInt = 0 := rfl
              exfalso
              omega
          · have A303 := A274.ifYes (pc' := 237) at_198 (feq (ine (x := r275) (y := (0 : Int32)) rfl rfl c278)).2 (by decide) (by decide)
            have A304 := A303.iconst (z := (1 : Int32)) (pc' := 238) at_237 rfl rfl
            have A305 := A304.goto (pc' := 242) at_238 (by decide) (by decide)
            have A306 := A305.istore (Ls' := #[.val (.int base), .val (.int lens), .val (.int gaps), .val (.int k), .val (.int cp), .val (.int (2 : Int32)), .val (.int v18), .val (.int s0), .val (.int e0), .val (.int s1), .val (.int e1), .val (.int s2), .val (.int e2), .val (.int s3), .val (.int e3), .val (.int v106), .val (.ref r246), .val (.int (1 : Int32))]) (pc' := 244) at_242 rfl rfl
            have A307 := A306.aload (v := (.ref r246)) (pc' := 246) at_244 rfl rfl rfl
            have A308 := A307.iload (v := v106) (pc' := 248) at_246 rfl rfl
            obtain ⟨r310, _, ⟨rfl, q311⟩, A309⟩ := W.kI (A308.callS (argsL := [(.ref r246), (.int v106)]) (rest := []) (C' := 1) (S' := 4) (pc' := 251) at_248 (hw _ (List.mem_of_getElem? (i := 9) rfl)) (hw _ (List.mem_of_getElem? (i := 10) rfl)) (hw _ (List.mem_of_getElem? (i := 11) rfl)) (hw _ (List.mem_of_getElem? (i := 12) rfl)) (rm3_2 l Z a0 hw n0 [] (r246) (v106) ((upd (upd (upd (upd (fun _ => (.int (0 : Int32))) 0 (.int s0)) 1 (.int e0)) 2 (.int s1)) 3 (.int e1))) (s0) (e0) (s1) (e1) h248 A308.size f252 (by first | rfl | omega) (by first | rfl | omega) (by first | rfl | omega) (by first | rfl | omega) (by first | rfl | omega)) rfl rfl pd_1 rfl rfl (by decide) (by decide) (Nat.le_of_ble_eq_true rfl) (by decide) (by decide) rfl rfl rfl)
            have A313 := A309.iload (v := (1 : Int32)) (pc' := 253) at_251 rfl rfl
            by_cases c314 : r310.toInt = 1
            · have A315 := A313.icmpNo (pc' := 256) at_253 (teq (ieq (x := r310) (y := (1 : Int32)) rfl rfl c314)).2 rfl
              have A316 := A315.iconst (z := (1 : Int32)) (pc' := 257) at_256 rfl rfl
              have A317 := A316.goto (pc' := 261) at_257 (by decide) (by decide)
              refine A317.retN (t := .boolean) (z' := (1 : Int32)) at_261 (by decide) (by decide) (by simp) rfl ⟨_, rfl, ⟨trivial, ?_⟩⟩
              have elit : (1 : Int32).toInt = 1 := rfl
              rfl
            · have A318 := A313.icmpYes (pc' := 260) at_253 (feq (ine (x := r310) (y := (1 : Int32)) rfl rfl c314)).2 (by decide) (by decide)
              have A319 := A318.iconst (z := (0 : Int32)) (pc' := 261) at_260 rfl rfl
              refine A319.retN (t := .boolean) (z' := (0 : Int32)) at_261 (by decide) (by decide) (by simp) rfl ⟨_, rfl, ⟨trivial, ?_⟩⟩
              have elit : (0 : Int32).toInt = 0 := rfl
              exfalso
              omega
        · have A320 := A261.ifYes (pc' := 237) at_180 (feq (ine (x := r262) (y := (0 : Int32)) rfl rfl c265)).2 (by decide) (by decide)
          have A321 := A320.iconst (z := (1 : Int32)) (pc' := 238) at_237 rfl rfl
          have A322 := A321.goto (pc' := 242) at_238 (by decide) (by decide)
          have A323 := A322.istore (Ls' := #[.val (.int base), .val (.int lens), .val (.int gaps), .val (.int k), .val (.int cp), .val (.int (2 : Int32)), .val (.int v18), .val (.int s0), .val (.int e0), .val (.int s1), .val (.int e1), .val (.int s2), .val (.int e2), .val (.int s3), .val (.int e3), .val (.int v106), .val (.ref r246), .val (.int (1 : Int32))]) (pc' := 244) at_242 rfl rfl
          have A324 := A323.aload (v := (.ref r246)) (pc' := 246) at_244 rfl rfl rfl
          have A325 := A324.iload (v := v106) (pc' := 248) at_246 rfl rfl
          obtain ⟨r327, _, ⟨rfl, q328⟩, A326⟩ := W.kI (A325.callS (argsL := [(.ref r246), (.int v106)]) (rest := []) (C' := 1) (S' := 4) (pc' := 251) at_248 (hw _ (List.mem_of_getElem? (i := 9) rfl)) (hw _ (List.mem_of_getElem? (i := 10) rfl)) (hw _ (List.mem_of_getElem? (i := 11) rfl)) (hw _ (List.mem_of_getElem? (i := 12) rfl)) (rm3_2 l Z a0 hw n0 [] (r246) (v106) ((upd (upd (upd (upd (fun _ => (.int (0 : Int32))) 0 (.int s0)) 1 (.int e0)) 2 (.int s1)) 3 (.int e1))) (s0) (e0) (s1) (e1) h248 A325.size f252 (by first | rfl | omega) (by first | rfl | omega) (by first | rfl | omega) (by first | rfl | omega) (by first | rfl | omega)) rfl rfl pd_1 rfl rfl (by decide) (by decide) (Nat.le_of_ble_eq_true rfl) (by decide) (by decide) rfl rfl rfl)
          have A330 := A326.iload (v := (1 : Int32)) (pc' := 253) at_251 rfl rfl
          by_cases c331 : r327.toInt = 1
          · have A332 := A330.icmpNo (pc' := 256) at_253 (teq (ieq (x := r327) (y := (1 : Int32)) rfl rfl c331)).2 rfl
            have A333 := A332.iconst (z := (1 : Int32)) (pc' := 257) at_256 rfl rfl
            have A334 := A333.goto (pc' := 261) at_257 (by decide) (by decide)
            refine A334.retN (t := .boolean) (z' := (1 : Int32)) at_261 (by decide) (by decide) (by simp) rfl ⟨_, rfl, ⟨trivial, ?_⟩⟩
            have elit : (1 : Int32).toInt = 1 := rfl
            rfl
          · have A335 := A330.icmpYes (pc' := 260) at_253 (feq (ine (x := r327) (y := (1 : Int32)) rfl rfl c331)).2 (by decide) (by decide)
            have A336 := A335.iconst (z := (0 : Int32)) (pc' := 261) at_260 rfl rfl
            refine A336.retN (t := .boolean) (z' := (0 : Int32)) at_261 (by decide) (by decide) (by simp) rfl ⟨_, rfl, ⟨trivial, ?_⟩⟩
            have elit : (0 : Int32).toInt = 0 := rfl
            exfalso
            omega
      · have A337 := A108.cast (Ls' := #[.val (.int base), .val (.int lens), .val (.int gaps), .val (.int k), .val (.int cp), .val (.int (3 : Int32)), .val (.int v18), .val (.int s0), .val (.int e0), .val (.int s1), .val (.int e1), .val (.int s2), .val (.int e2), .val (.int s3), .val (.int e3), .val (.int v106), .unset, .unset]) rfl (by rw [hn5]) rfl
        have A338 := A337.iload (v := (3 : Int32)) (pc' := 144) at_142 rfl rfl
        have A339 := A338.iload (v := s0) (pc' := 146) at_144 rfl rfl
        have A340 := A339.iload (v := e0) (pc' := 148) at_146 rfl rfl
        have A341 := A340.iload (v := s1) (pc' := 150) at_148 rfl rfl
        have A342 := A341.iload (v := e1) (pc' := 152) at_150 rfl rfl
        have A343 := A342.iload (v := s2) (pc' := 154) at_152 rfl rfl
        have A344 := A343.iload (v := e2) (pc' := 156) at_154 rfl rfl
        have A345 := A344.iload (v := s3) (pc' := 158) at_156 rfl rfl
        have A346 := A345.iload (v := e3) (pc' := 160) at_158 rfl rfl
        obtain ⟨r348, h350, ⟨K351, g352, z353, f354, q349⟩, A347⟩ := W.kA (A346.callS (argsL := [(.int (3 : Int32)), (.int s0), (.int e0), (.int s1), (.int e1), (.int s2), (.int e2), (.int s3), (.int e3)]) (rest := []) (C' := 1) (S' := 6) (pc' := 163) at_160 (hw _ (List.mem_of_getElem? (i := 1) rfl)) (hw _ (List.mem_of_getElem? (i := 2) rfl)) (hw _ (List.mem_of_getElem? (i := 3) rfl)) (hw _ (List.mem_of_getElem? (i := 4) rfl)) (rm1_3 l Z a0 hw n0 [] (s0) (e0) (s1) (e1) (s2) (e2) (s3) (e3)  h0 A346.size ) rfl rfl pd_0 rfl rfl (by decide) (by decide) (Nat.le_of_ble_eq_true rfl) (by decide) (by decide) rfl rfl rfl)
        have A355 := A347.astore (Ls' := #[.val (.int base), .val (.int lens), .val (.int gaps), .val (.int k), .val (.int cp), .val (.int (3 : Int32)), .val (.int v18), .val (.int s0), .val (.int e0), .val (.int s1), .val (.int e1), .val (.int s2), .val (.int e2), .val (.int s3), .val (.int e3), .val (.int v106), .val (.ref r348), .unset]) (pc' := 165) at_163 rfl rfl rfl
        have A356 := A355.iload (v := (3 : Int32)) (pc' := 167) at_165 rfl rfl
        have A357 := A356.iconst (z := (1 : Int32)) (pc' := 168) at_167 rfl rfl
        have A359 := A357.icmpNo (pc' := 171) at_168 (flt (inlt (x := (3 : Int32)) (y := (1 : Int32)) rfl rfl (by decide : ¬ ((3 : Int) < 1)))).1 rfl
        have A360 := A359.iload (v := v106) (pc' := 173) at_171 rfl rfl
        have A361 := A360.iload (v := s0) (pc' := 175) at_173 rfl rfl
        have A362 := A361.iload (v := e0) (pc' := 177) at_175 rfl rfl
        obtain ⟨r364, _, ⟨rfl, q365⟩, A363⟩ := W.kI (A362.callS (argsL := [(.int v106), (.int s0), (.int e0)]) (rest := []) (C' := 1) (S' := 6) (pc' := 180) at_177 (hw _ (List.mem_of_getElem? (i := 6) rfl)) (hw _ (List.mem_of_getElem? (i := 7) rfl)) (hw _ (List.mem_of_getElem? (i := 3) rfl)) (hw _ (List.mem_of_getElem? (i := 8) rfl)) (rm2 l Z a0 hw n0 [] (v106) (s0) (e0)  h350 A362.size ) rfl rfl pd_2 rfl rfl (by decide) (by decide) (Nat.le_of_ble_eq_true rfl) (by decide) (by decide) rfl rfl rfl)
        by_cases c367 : r364.toInt = 0
        · have A368 := A363.ifNo (pc' := 183) at_180 (teq (ieq (x := r364) (y := (0 : Int32)) rfl rfl c367)).2 rfl
          have A369 := A368.iload (v := (3 : Int32)) (pc' := 185) at_183 rfl rfl
          have A370 := A369.iconst (z := (2 : Int32)) (pc' := 186) at_185 rfl rfl
          have A372 := A370.icmpNo (pc' := 189) at_186 (flt (inlt (x := (3 : Int32)) (y := (2 : Int32)) rfl rfl (by decide : ¬ ((3 : Int) < 2)))).1 rfl
          have A373 := A372.iload (v := v106) (pc' := 191) at_189 rfl rfl
          have A374 := A373.iload (v := s1) (pc' := 193) at_191 rfl rfl
          have A375 := A374.iload (v := e1) (pc' := 195) at_193 rfl rfl
          obtain ⟨r377, _, ⟨rfl, q378⟩, A376⟩ := W.kI (A375.callS (argsL := [(.int v106), (.int s1), (.int e1)]) (rest := []) (C' := 1) (S' := 6) (pc' := 198) at_195 (hw _ (List.mem_of_getElem? (i := 6) rfl)) (hw _ (List.mem_of_getElem? (i := 7) rfl)) (hw _ (List.mem_of_getElem? (i := 3) rfl)) (hw _ (List.mem_of_getElem? (i := 8) rfl)) (rm2 l Z a0 hw n0 [] (v106) (s1) (e1)  h350 A375.size ) rfl rfl pd_2 rfl rfl (by decide) (by decide) (Nat.le_of_ble_eq_true rfl) (by decide) (by decide) rfl rfl rfl)
          by_cases c380 : r377.toInt = 0
          · have A381 := A376.ifNo (pc' := 201) at_198 (teq (ieq (x := r377) (y := (0 : Int32)) rfl rfl c380)).2 rfl
            have A382 := A381.iload (v := (3 : Int32)) (pc' := 203) at_201 rfl rfl
            have A383 := A382.iconst (z := (3 : Int32)) (pc' := 204) at_203 rfl rfl
            have A385 := A383.icmpNo (pc' := 207) at_204 (flt (inlt (x := (3 : Int32)) (y := (3 : Int32)) rfl rfl (by decide : ¬ ((3 : Int) < 3)))).1 rfl
            have A386 := A385.iload (v := v106) (pc' := 209) at_207 rfl rfl
            have A387 := A386.iload (v := s2) (pc' := 211) at_209 rfl rfl
            have A388 := A387.iload (v := e2) (pc' := 213) at_211 rfl rfl
            obtain ⟨r390, _, ⟨rfl, q391⟩, A389⟩ := W.kI (A388.callS (argsL := [(.int v106), (.int s2), (.int e2)]) (rest := []) (C' := 1) (S' := 6) (pc' := 216) at_213 (hw _ (List.mem_of_getElem? (i := 6) rfl)) (hw _ (List.mem_of_getElem? (i := 7) rfl)) (hw _ (List.mem_of_getElem? (i := 3) rfl)) (hw _ (List.mem_of_getElem? (i := 8) rfl)) (rm2 l Z a0 hw n0 [] (v106) (s2) (e2)  h350 A388.size ) rfl rfl pd_2 rfl rfl (by decide) (by decide) (Nat.le_of_ble_eq_true rfl) (by decide) (by decide) rfl rfl rfl)
            by_cases c393 : r390.toInt = 0
            · have A394 := A389.ifNo (pc' := 219) at_216 (teq (ieq (x := r390) (y := (0 : Int32)) rfl rfl c393)).2 rfl
              have A395 := A394.iload (v := (3 : Int32)) (pc' := 221) at_219 rfl rfl
              have A396 := A395.iconst (z := (4 : Int32)) (pc' := 222) at_221 rfl rfl
              have A398 := A396.icmpYes (pc' := 241) at_222 (tlt (ilt (x := (3 : Int32)) (y := (4 : Int32)) rfl rfl (by decide : (3 : Int) < 4))).1 (by decide) (by decide)
              have A399 := A398.iconst (z := (0 : Int32)) (pc' := 242) at_241 rfl rfl
              have A400 := A399.istore (Ls' := #[.val (.int base), .val (.int lens), .val (.int gaps), .val (.int k), .val (.int cp), .val (.int (3 : Int32)), .val (.int v18), .val (.int s0), .val (.int e0), .val (.int s1), .val (.int e1), .val (.int s2), .val (.int e2), .val (.int s3), .val (.int e3), .val (.int v106), .val (.ref r348), .val (.int (0 : Int32))]) (pc' := 244) at_242 rfl rfl
              have A401 := A400.aload (v := (.ref r348)) (pc' := 246) at_244 rfl rfl rfl
              have A402 := A401.iload (v := v106) (pc' := 248) at_246 rfl rfl
              obtain ⟨r404, _, ⟨rfl, q405⟩, A403⟩ := W.kI (A402.callS (argsL := [(.ref r348), (.int v106)]) (rest := []) (C' := 1) (S' := 6) (pc' := 251) at_248 (hw _ (List.mem_of_getElem? (i := 9) rfl)) (hw _ (List.mem_of_getElem? (i := 10) rfl)) (hw _ (List.mem_of_getElem? (i := 11) rfl)) (hw _ (List.mem_of_getElem? (i := 12) rfl)) (rm3_3 l Z a0 hw n0 [] (r348) (v106) ((upd (upd (upd (upd (upd (upd (fun _ => (.int (0 : Int32))) 0 (.int s0)) 1 (.int e0)) 2 (.int s1)) 3 (.int e1)) 4 (.int s2)) 5 (.int e2))) (s0) (e0) (s1) (e1) (s2) (e2) h350 A402.size f354 (by first | rfl | omega) (by first | rfl | omega) (by first | rfl | omega) (by first | rfl | omega) (by first | rfl | omega) (by first | rfl | omega) (by first | rfl | omega)) rfl rfl pd_1 rfl rfl (by decide) (by decide) (Nat.le_of_ble_eq_true rfl) (by decide) (by decide) rfl rfl rfl)
              have A407 := A403.iload (v := (0 : Int32)) (pc' := 253) at_251 rfl rfl
              by_cases c408 : r404.toInt = 0
              · have A409 := A407.icmpNo (pc' := 256) at_253 (teq (ieq (x := r404) (y := (0 : Int32)) rfl rfl c408)).2 rfl
                have A410 := A409.iconst (z := (1 : Int32)) (pc' := 257) at_256 rfl rfl
                have A411 := A410.goto (pc' := 261) at_257 (by decide) (by decide)
                refine A411.retN (t := .boolean) (z' := (1 : Int32)) at_261 (by decide) (by decide) (by simp) rfl ⟨_, rfl, ⟨trivial, ?_⟩⟩
                have elit : (1 : Int32).toInt = 1 := rfl
                rfl
              · have A412 := A407.icmpYes (pc' := 260) at_253 (feq (ine (x := r404) (y := (0 : Int32)) rfl rfl c408)).2 (by decide) (by decide)
                have A413 := A412.iconst (z := (0 : Int32)) (pc' := 261) at_260 rfl rfl
                refine A413.retN (t := .boolean) (z' := (0 : Int32)) at_261 (by decide) (by decide) (by simp) rfl ⟨_, rfl, ⟨trivial, ?_⟩⟩
                have elit : (0 : Int32).toInt = 0 := rfl
                exfalso
                omega
            · have A414 := A389.ifYes (pc' := 237) at_216 (feq (ine (x := r390) (y := (0 : Int32)) rfl rfl c393)).2 (by decide) (by decide)
              have A415 := A414.iconst (z := (1 : Int32)) (pc' := 238) at_237 rfl rfl
              have A416 := A415.goto (pc' := 242) at_238 (by decide) (by decide)
              have A417 := A416.istore (Ls' := #[.val (.int base), .val (.int lens), .val (.int gaps), .val (.int k), .val (.int cp), .val (.int (3 : Int32)), .val (.int v18), .val (.int s0), .val (.int e0), .val (.int s1), .val (.int e1), .val (.int s2), .val (.int e2), .val (.int s3), .val (.int e3), .val (.int v106), .val (.ref r348), .val (.int (1 : Int32))]) (pc' := 244) at_242 rfl rfl
              have A418 := A417.aload (v := (.ref r348)) (pc' := 246) at_244 rfl rfl rfl
              have A419 := A418.iload (v := v106) (pc' := 248) at_246 rfl rfl
              obtain ⟨r421, _, ⟨rfl, q422⟩, A420⟩ := W.kI (A419.callS (argsL := [(.ref r348), (.int v106)]) (rest := []) (C' := 1) (S' := 6) (pc' := 251) at_248 (hw _ (List.mem_of_getElem? (i := 9) rfl)) (hw _ (List.mem_of_getElem? (i := 10) rfl)) (hw _ (List.mem_of_getElem? (i := 11) rfl)) (hw _ (List.mem_of_getElem? (i := 12) rfl)) (rm3_3 l Z a0 hw n0 [] (r348) (v106) ((upd (upd (upd (upd (upd (upd (fun _ => (.int (0 : Int32))) 0 (.int s0)) 1 (.int e0)) 2 (.int s1)) 3 (.int e1)) 4 (.int s2)) 5 (.int e2))) (s0) (e0) (s1) (e1) (s2) (e2) h350 A419.size f354 (by first | rfl | omega) (by first | rfl | omega) (by first | rfl | omega) (by first | rfl | omega) (by first | rfl | omega) (by first | rfl | omega) (by first | rfl | omega)) rfl rfl pd_1 rfl rfl (by decide) (by decide) (Nat.le_of_ble_eq_true rfl) (by decide) (by decide) rfl rfl rfl)
              have A424 := A420.iload (v := (1 : Int32)) (pc' := 253) at_251 rfl rfl
              by_cases c425 : r421.toInt = 1
              · have A426 := A424.icmpNo (pc' := 256) at_253 (teq (ieq (x := r421) (y := (1 : Int32)) rfl rfl c425)).2 rfl
                have A427 := A426.iconst (z := (1 : Int32)) (pc' := 257) at_256 rfl rfl
                have A428 := A427.goto (pc' := 261) at_257 (by decide) (by decide)
                refine A428.retN (t := .boolean) (z' := (1 : Int32)) at_261 (by decide) (by decide) (by simp) rfl ⟨_, rfl, ⟨trivial, ?_⟩⟩
                have elit : (1 : Int32).toInt = 1 := rfl
                rfl
              · have A429 := A424.icmpYes (pc' := 260) at_253 (feq (ine (x := r421) (y := (1 : Int32)) rfl rfl c425)).2 (by decide) (by decide)
                have A430 := A429.iconst (z := (0 : Int32)) (pc' := 261) at_260 rfl rfl
                refine A430.retN (t := .boolean) (z' := (0 : Int32)) at_261 (by decide) (by decide) (by simp) rfl ⟨_, rfl, ⟨trivial, ?_⟩⟩
                have elit : (0 : Int32).toInt = 0 := rfl
                exfalso
                omega
          · have A431 := A376.ifYes (pc' := 237) at_198 (feq (ine (x := r377) (y := (0 : Int32)) rfl rfl c380)).2 (by decide) (by decide)
            have A432 := A431.iconst (z := (1 : Int32)) (pc' := 238) at_237 rfl rfl
            have A433 := A432.goto (pc' := 242) at_238 (by decide) (by decide)
            have A434 := A433.istore (Ls' := #[.val (.int base), .val (.int lens), .val (.int gaps), .val (.int k), .val (.int cp), .val (.int (3 : Int32)), .val (.int v18), .val (.int s0), .val (.int e0), .val (.int s1), .val (.int e1), .val (.int s2), .val (.int e2), .val (.int s3), .val (.int e3), .val (.int v106), .val (.ref r348), .val (.int (1 : Int32))]) (pc' := 244) at_242 rfl rfl
            have A435 := A434.aload (v := (.ref r348)) (pc' := 246) at_244 rfl rfl rfl
            have A436 := A435.iload (v := v106) (pc' := 248) at_246 rfl rfl
            obtain ⟨r438, _, ⟨rfl, q439⟩, A437⟩ := W.kI (A436.callS (argsL := [(.ref r348), (.int v106)]) (rest := []) (C' := 1) (S' := 6) (pc' := 251) at_248 (hw _ (List.mem_of_getElem? (i := 9) rfl)) (hw _ (List.mem_of_getElem? (i := 10) rfl)) (hw _ (List.mem_of_getElem? (i := 11) rfl)) (hw _ (List.mem_of_getElem? (i := 12) rfl)) (rm3_3 l Z a0 hw n0 [] (r348) (v106) ((upd (upd (upd (upd (upd (upd (fun _ => (.int (0 : Int32))) 0 (.int s0)) 1 (.int e0)) 2 (.int s1)) 3 (.int e1)) 4 (.int s2)) 5 (.int e2))) (s0) (e0) (s1) (e1) (s2) (e2) h350 A436.size f354 (by first | rfl | omega) (by first | rfl | omega) (by first | rfl | omega) (by first | rfl | omega) (by first | rfl | omega) (by first | rfl | omega) (by first | rfl | omega)) rfl rfl pd_1 rfl rfl (by decide) (by decide) (Nat.le_of_ble_eq_true rfl) (by decide) (by decide) rfl rfl rfl)
            have A441 := A437.iload (v := (1 : Int32)) (pc' := 253) at_251 rfl rfl
            by_cases c442 : r438.toInt = 1
            · have A443 := A441.icmpNo (pc' := 256) at_253 (teq (ieq (x := r438) (y := (1 : Int32)) rfl rfl c442)).2 rfl
              have A444 := A443.iconst (z := (1 : Int32)) (pc' := 257) at_256 rfl rfl
              have A445 := A444.goto (pc' := 261) at_257 (by decide) (by decide)
              refine A445.retN (t := .boolean) (z' := (1 : Int32)) at_261 (by decide) (by decide) (by simp) rfl ⟨_, rfl, ⟨trivial, ?_⟩⟩
              have elit : (1 : Int32).toInt = 1 := rfl
              rfl
            · have A446 := A441.icmpYes (pc' := 260) at_253 (feq (ine (x := r438) (y := (1 : Int32)) rfl rfl c442)).2 (by decide) (by decide)
              have A447 := A446.iconst (z := (0 : Int32)) (pc' := 261) at_260 rfl rfl
              refine A447.retN (t := .boolean) (z' := (0 : Int32)) at_261 (by decide) (by decide) (by simp) rfl ⟨_, rfl, ⟨trivial, ?_⟩⟩
              have elit : (0 : Int32).toInt = 0 := rfl
              exfalso
              omega
        · have A448 := A363.ifYes (pc' := 237) at_180 (feq (ine (x := r364) (y := (0 : Int32)) rfl rfl c367)).2 (by decide) (by decide)
          have A449 := A448.iconst (z := (1 : Int32)) (pc' := 238) at_237 rfl rfl
          have A450 := A449.goto (pc' := 242) at_238 (by decide) (by decide)
          have A451 := A450.istore (Ls' := #[.val (.int base), .val (.int lens), .val (.int gaps), .val (.int k), .val (.int cp), .val (.int (3 : Int32)), .val (.int v18), .val (.int s0), .val (.int e0), .val (.int s1), .val (.int e1), .val (.int s2), .val (.int e2), .val (.int s3), .val (.int e3), .val (.int v106), .val (.ref r348), .val (.int (1 : Int32))]) (pc' := 244) at_242 rfl rfl
          have A452 := A451.aload (v := (.ref r348)) (pc' := 246) at_244 rfl rfl rfl
          have A453 := A452.iload (v := v106) (pc' := 248) at_246 rfl rfl
          obtain ⟨r455, _, ⟨rfl, q456⟩, A454⟩ := W.kI (A453.callS (argsL := [(.ref r348), (.int v106)]) (rest := []) (C' := 1) (S' := 6) (pc' := 251) at_248 (hw _ (List.mem_of_getElem? (i := 9) rfl)) (hw _ (List.mem_of_getElem? (i := 10) rfl)) (hw _ (List.mem_of_getElem? (i := 11) rfl)) (hw _ (List.mem_of_getElem? (i := 12) rfl)) (rm3_3 l Z a0 hw n0 [] (r348) (v106) ((upd (upd (upd (upd (upd (upd (fun _ => (.int (0 : Int32))) 0 (.int s0)) 1 (.int e0)) 2 (.int s1)) 3 (.int e1)) 4 (.int s2)) 5 (.int e2))) (s0) (e0) (s1) (e1) (s2) (e2) h350 A453.size f354 (by first | rfl | omega) (by first | rfl | omega) (by first | rfl | omega) (by first | rfl | omega) (by first | rfl | omega) (by first | rfl | omega) (by first | rfl | omega)) rfl rfl pd_1 rfl rfl (by decide) (by decide) (Nat.le_of_ble_eq_true rfl) (by decide) (by decide) rfl rfl rfl)
          have A458 := A454.iload (v := (1 : Int32)) (pc' := 253) at_251 rfl rfl
          by_cases c459 : r455.toInt = 1
          · have A460 := A458.icmpNo (pc' := 256) at_253 (teq (ieq (x := r455) (y := (1 : Int32)) rfl rfl c459)).2 rfl
            have A461 := A460.iconst (z := (1 : Int32)) (pc' := 257) at_256 rfl rfl
            have A462 := A461.goto (pc' := 261) at_257 (by decide) (by decide)
            refine A462.retN (t := .boolean) (z' := (1 : Int32)) at_261 (by decide) (by decide) (by simp) rfl ⟨_, rfl, ⟨trivial, ?_⟩⟩
            have elit : (1 : Int32).toInt = 1 := rfl
            rfl
          · have A463 := A458.icmpYes (pc' := 260) at_253 (feq (ine (x := r455) (y := (1 : Int32)) rfl rfl c459)).2 (by decide) (by decide)
            have A464 := A463.iconst (z := (0 : Int32)) (pc' := 261) at_260 rfl rfl
            refine A464.retN (t := .boolean) (z' := (0 : Int32)) at_261 (by decide) (by decide) (by simp) rfl ⟨_, rfl, ⟨trivial, ?_⟩⟩
            have elit : (0 : Int32).toInt = 0 := rfl
            exfalso
            omega
      · have A465 := A108.cast (Ls' := #[.val (.int base), .val (.int lens), .val (.int gaps), .val (.int k), .val (.int cp), .val (.int (4 : Int32)), .val (.int v18), .val (.int s0), .val (.int e0), .val (.int s1), .val (.int e1), .val (.int s2), .val (.int e2), .val (.int s3), .val (.int e3), .val (.int v106), .unset, .unset]) rfl (by rw [hn5]) rfl
        have A466 := A465.iload (v := (4 : Int32)) (pc' := 144) at_142 rfl rfl
        have A467 := A466.iload (v := s0) (pc' := 146) at_144 rfl rfl
        have A468 := A467.iload (v := e0) (pc' := 148) at_146 rfl rfl
        have A469 := A468.iload (v := s1) (pc' := 150) at_148 rfl rfl
        have A470 := A469.iload (v := e1) (pc' := 152) at_150 rfl rfl
        have A471 := A470.iload (v := s2) (pc' := 154) at_152 rfl rfl
        have A472 := A471.iload (v := e2) (pc' := 156) at_154 rfl rfl
        have A473 := A472.iload (v := s3) (pc' := 158) at_156 rfl rfl
        have A474 := A473.iload (v := e3) (pc' := 160) at_158 rfl rfl
        obtain ⟨r476, h478, ⟨K479, g480, z481, f482, q477⟩, A475⟩ := W.kA (A474.callS (argsL := [(.int (4 : Int32)), (.int s0), (.int e0), (.int s1), (.int e1), (.int s2), (.int e2), (.int s3), (.int e3)]) (rest := []) (C' := 1) (S' := 8) (pc' := 163) at_160 (hw _ (List.mem_of_getElem? (i := 1) rfl)) (hw _ (List.mem_of_getElem? (i := 2) rfl)) (hw _ (List.mem_of_getElem? (i := 3) rfl)) (hw _ (List.mem_of_getElem? (i := 4) rfl)) (rm1_4 l Z a0 hw n0 [] (s0) (e0) (s1) (e1) (s2) (e2) (s3) (e3)  h0 A474.size ) rfl rfl pd_0 rfl rfl (by decide) (by decide) (Nat.le_of_ble_eq_true rfl) (by decide) (by decide) rfl rfl rfl)
        have A483 := A475.astore (Ls' := #[.val (.int base), .val (.int lens), .val (.int gaps), .val (.int k), .val (.int cp), .val (.int (4 : Int32)), .val (.int v18), .val (.int s0), .val (.int e0), .val (.int s1), .val (.int e1), .val (.int s2), .val (.int e2), .val (.int s3), .val (.int e3), .val (.int v106), .val (.ref r476), .unset]) (pc' := 165) at_163 rfl rfl rfl
        have A484 := A483.iload (v := (4 : Int32)) (pc' := 167) at_165 rfl rfl
        have A485 := A484.iconst (z := (1 : Int32)) (pc' := 168) at_167 rfl rfl
        have A487 := A485.icmpNo (pc' := 171) at_168 (flt (inlt (x := (4 : Int32)) (y := (1 : Int32)) rfl rfl (by decide : ¬ ((4 : Int) < 1)))).1 rfl
        have A488 := A487.iload (v := v106) (pc' := 173) at_171 rfl rfl
        have A489 := A488.iload (v := s0) (pc' := 175) at_173 rfl rfl
        have A490 := A489.iload (v := e0) (pc' := 177) at_175 rfl rfl
        obtain ⟨r492, _, ⟨rfl, q493⟩, A491⟩ := W.kI (A490.callS (argsL := [(.int v106), (.int s0), (.int e0)]) (rest := []) (C' := 1) (S' := 8) (pc' := 180) at_177 (hw _ (List.mem_of_getElem? (i := 6) rfl)) (hw _ (List.mem_of_getElem? (i := 7) rfl)) (hw _ (List.mem_of_getElem? (i := 3) rfl)) (hw _ (List.mem_of_getElem? (i := 8) rfl)) (rm2 l Z a0 hw n0 [] (v106) (s0) (e0)  h478 A490.size ) rfl rfl pd_2 rfl rfl (by decide) (by decide) (Nat.le_of_ble_eq_true rfl) (by decide) (by decide) rfl rfl rfl)
        by_cases c495 : r492.toInt = 0
        · have A496 := A491.ifNo (pc' := 183) at_180 (teq (ieq (x := r492) (y := (0 : Int32)) rfl rfl c495)).2 rfl
          have A497 := A496.iload (v := (4 : Int32)) (pc' := 185) at_183 rfl rfl
          have A498 := A497.iconst (z := (2 : Int32)) (pc' := 186) at_185 rfl rfl
          have A500 := A498.icmpNo (pc' := 189) at_186 (flt (inlt (x := (4 : Int32)) (y := (2 : Int32)) rfl rfl (by decide : ¬ ((4 : Int) < 2)))).1 rfl
          have A501 := A500.iload (v := v106) (pc' := 191) at_189 rfl rfl
          have A502 := A501.iload (v := s1) (pc' := 193) at_191 rfl rfl
          have A503 := A502.iload (v := e1) (pc' := 195) at_193 rfl rfl
          obtain ⟨r505, _, ⟨rfl, q506⟩, A504⟩ := W.kI (A503.callS (argsL := [(.int v106), (.int s1), (.int e1)]) (rest := []) (C' := 1) (S' := 8) (pc' := 198) at_195 (hw _ (List.mem_of_getElem? (i := 6) rfl)) (hw _ (List.mem_of_getElem? (i := 7) rfl)) (hw _ (List.mem_of_getElem? (i := 3) rfl)) (hw _ (List.mem_of_getElem? (i := 8) rfl)) (rm2 l Z a0 hw n0 [] (v106) (s1) (e1)  h478 A503.size ) rfl rfl pd_2 rfl rfl (by decide) (by decide) (Nat.le_of_ble_eq_true rfl) (by decide) (by decide) rfl rfl rfl)
          by_cases c508 : r505.toInt = 0
          · have A509 := A504.ifNo (pc' := 201) at_198 (teq (ieq (x := r505) (y := (0 : Int32)) rfl rfl c508)).2 rfl
            have A510 := A509.iload (v := (4 : Int32)) (pc' := 203) at_201 rfl rfl
            have A511 := A510.iconst (z := (3 : Int32)) (pc' := 204) at_203 rfl rfl
            have A513 := A511.icmpNo (pc' := 207) at_204 (flt (inlt (x := (4 : Int32)) (y := (3 : Int32)) rfl rfl (by decide : ¬ ((4 : Int) < 3)))).1 rfl
            have A514 := A513.iload (v := v106) (pc' := 209) at_207 rfl rfl
            have A515 := A514.iload (v := s2) (pc' := 211) at_209 rfl rfl
            have A516 := A515.iload (v := e2) (pc' := 213) at_211 rfl rfl
            obtain ⟨r518, _, ⟨rfl, q519⟩, A517⟩ := W.kI (A516.callS (argsL := [(.int v106), (.int s2), (.int e2)]) (rest := []) (C' := 1) (S' := 8) (pc' := 216) at_213 (hw _ (List.mem_of_getElem? (i := 6) rfl)) (hw _ (List.mem_of_getElem? (i := 7) rfl)) (hw _ (List.mem_of_getElem? (i := 3) rfl)) (hw _ (List.mem_of_getElem? (i := 8) rfl)) (rm2 l Z a0 hw n0 [] (v106) (s2) (e2)  h478 A516.size ) rfl rfl pd_2 rfl rfl (by decide) (by decide) (Nat.le_of_ble_eq_true rfl) (by decide) (by decide) rfl rfl rfl)
            by_cases c521 : r518.toInt = 0
            · have A522 := A517.ifNo (pc' := 219) at_216 (teq (ieq (x := r518) (y := (0 : Int32)) rfl rfl c521)).2 rfl
              have A523 := A522.iload (v := (4 : Int32)) (pc' := 221) at_219 rfl rfl
              have A524 := A523.iconst (z := (4 : Int32)) (pc' := 222) at_221 rfl rfl
              have A526 := A524.icmpNo (pc' := 225) at_222 (flt (inlt (x := (4 : Int32)) (y := (4 : Int32)) rfl rfl (by decide : ¬ ((4 : Int) < 4)))).1 rfl
              have A527 := A526.iload (v := v106) (pc' := 227) at_225 rfl rfl
              have A528 := A527.iload (v := s3) (pc' := 229) at_227 rfl rfl
              have A529 := A528.iload (v := e3) (pc' := 231) at_229 rfl rfl
              obtain ⟨r531, _, ⟨rfl, q532⟩, A530⟩ := W.kI (A529.callS (argsL := [(.int v106), (.int s3), (.int e3)]) (rest := []) (C' := 1) (S' := 8) (pc' := 234) at_231 (hw _ (List.mem_of_getElem? (i := 6) rfl)) (hw _ (List.mem_of_getElem? (i := 7) rfl)) (hw _ (List.mem_of_getElem? (i := 3) rfl)) (hw _ (List.mem_of_getElem? (i := 8) rfl)) (rm2 l Z a0 hw n0 [] (v106) (s3) (e3)  h478 A529.size ) rfl rfl pd_2 rfl rfl (by decide) (by decide) (Nat.le_of_ble_eq_true rfl) (by decide) (by decide) rfl rfl rfl)
              by_cases c534 : r531.toInt = 0
              · have A535 := A530.ifYes (pc' := 241) at_234 (teq (ieq (x := r531) (y := (0 : Int32)) rfl rfl c534)).1 (by decide) (by decide)
                have A536 := A535.iconst (z := (0 : Int32)) (pc' := 242) at_241 rfl rfl
                have A537 := A536.istore (Ls' := #[.val (.int base), .val (.int lens), .val (.int gaps), .val (.int k), .val (.int cp), .val (.int (4 : Int32)), .val (.int v18), .val (.int s0), .val (.int e0), .val (.int s1), .val (.int e1), .val (.int s2), .val (.int e2), .val (.int s3), .val (.int e3), .val (.int v106), .val (.ref r476), .val (.int (0 : Int32))]) (pc' := 244) at_242 rfl rfl
                have A538 := A537.aload (v := (.ref r476)) (pc' := 246) at_244 rfl rfl rfl
                have A539 := A538.iload (v := v106) (pc' := 248) at_246 rfl rfl
                obtain ⟨r541, _, ⟨rfl, q542⟩, A540⟩ := W.kI (A539.callS (argsL := [(.ref r476), (.int v106)]) (rest := []) (C' := 1) (S' := 8) (pc' := 251) at_248 (hw _ (List.mem_of_getElem? (i := 9) rfl)) (hw _ (List.mem_of_getElem? (i := 10) rfl)) (hw _ (List.mem_of_getElem? (i := 11) rfl)) (hw _ (List.mem_of_getElem? (i := 12) rfl)) (rm3_4 l Z a0 hw n0 [] (r476) (v106) ((upd (upd (upd (upd (upd (upd (upd (upd (fun _ => (.int (0 : Int32))) 0 (.int s0)) 1 (.int e0)) 2 (.int s1)) 3 (.int e1)) 4 (.int s2)) 5 (.int e2)) 6 (.int s3)) 7 (.int e3))) (s0) (e0) (s1) (e1) (s2) (e2) (s3) (e3) h478 A539.size f482 (by first | rfl | omega) (by first | rfl | omega) (by first | rfl | omega) (by first | rfl | omega) (by first | rfl | omega) (by first | rfl | omega) (by first | rfl | omega) (by first | rfl | omega) (by first | rfl | omega)) rfl rfl pd_1 rfl rfl (by decide) (by decide) (Nat.le_of_ble_eq_true rfl) (by decide) (by decide) rfl rfl rfl)
                have A544 := A540.iload (v := (0 : Int32)) (pc' := 253) at_251 rfl rfl
                by_cases c545 : r541.toInt = 0
                · have A546 := A544.icmpNo (pc' := 256) at_253 (teq (ieq (x := r541) (y := (0 : Int32)) rfl rfl c545)).2 rfl
                  have A547 := A546.iconst (z := (1 : Int32)) (pc' := 257) at_256 rfl rfl
                  have A548 := A547.goto (pc' := 261) at_257 (by decide) (by decide)
                  refine A548.retN (t := .boolean) (z' := (1 : Int32)) at_261 (by decide) (by decide) (by simp) rfl ⟨_, rfl, ⟨trivial, ?_⟩⟩
                  have elit : (1 : Int32).toInt = 1 := rfl
                  rfl
                · have A549 := A544.icmpYes (pc' := 260) at_253 (feq (ine (x := r541) (y := (0 : Int32)) rfl rfl c545)).2 (by decide) (by decide)
                  have A550 := A549.iconst (z := (0 : Int32)) (pc' := 261) at_260 rfl rfl
                  refine A550.retN (t := .boolean) (z' := (0 : Int32)) at_261 (by decide) (by decide) (by simp) rfl ⟨_, rfl, ⟨trivial, ?_⟩⟩
                  have elit : (0 : Int32).toInt = 0 := rfl
                  exfalso
                  omega
              · have A551 := A530.ifNo (pc' := 237) at_234 (feq (ine (x := r531) (y := (0 : Int32)) rfl rfl c534)).1 rfl
                have A552 := A551.iconst (z := (1 : Int32)) (pc' := 238) at_237 rfl rfl
                have A553 := A552.goto (pc' := 242) at_238 (by decide) (by decide)
                have A554 := A553.istore (Ls' := #[.val (.int base), .val (.int lens), .val (.int gaps), .val (.int k), .val (.int cp), .val (.int (4 : Int32)), .val (.int v18), .val (.int s0), .val (.int e0), .val (.int s1), .val (.int e1), .val (.int s2), .val (.int e2), .val (.int s3), .val (.int e3), .val (.int v106), .val (.ref r476), .val (.int (1 : Int32))]) (pc' := 244) at_242 rfl rfl
                have A555 := A554.aload (v := (.ref r476)) (pc' := 246) at_244 rfl rfl rfl
                have A556 := A555.iload (v := v106) (pc' := 248) at_246 rfl rfl
                obtain ⟨r558, _, ⟨rfl, q559⟩, A557⟩ := W.kI (A556.callS (argsL := [(.ref r476), (.int v106)]) (rest := []) (C' := 1) (S' := 8) (pc' := 251) at_248 (hw _ (List.mem_of_getElem? (i := 9) rfl)) (hw _ (List.mem_of_getElem? (i := 10) rfl)) (hw _ (List.mem_of_getElem? (i := 11) rfl)) (hw _ (List.mem_of_getElem? (i := 12) rfl)) (rm3_4 l Z a0 hw n0 [] (r476) (v106) ((upd (upd (upd (upd (upd (upd (upd (upd (fun _ => (.int (0 : Int32))) 0 (.int s0)) 1 (.int e0)) 2 (.int s1)) 3 (.int e1)) 4 (.int s2)) 5 (.int e2)) 6 (.int s3)) 7 (.int e3))) (s0) (e0) (s1) (e1) (s2) (e2) (s3) (e3) h478 A556.size f482 (by first | rfl | omega) (by first | rfl | omega) (by first | rfl | omega) (by first | rfl | omega) (by first | rfl | omega) (by first | rfl | omega) (by first | rfl | omega) (by first | rfl | omega) (by first | rfl | omega)) rfl rfl pd_1 rfl rfl (by decide) (by decide) (Nat.le_of_ble_eq_true rfl) (by decide) (by decide) rfl rfl rfl)
                have A561 := A557.iload (v := (1 : Int32)) (pc' := 253) at_251 rfl rfl
                by_cases c562 : r558.toInt = 1
                · have A563 := A561.icmpNo (pc' := 256) at_253 (teq (ieq (x := r558) (y := (1 : Int32)) rfl rfl c562)).2 rfl
                  have A564 := A563.iconst (z := (1 : Int32)) (pc' := 257) at_256 rfl rfl
                  have A565 := A564.goto (pc' := 261) at_257 (by decide) (by decide)
                  refine A565.retN (t := .boolean) (z' := (1 : Int32)) at_261 (by decide) (by decide) (by simp) rfl ⟨_, rfl, ⟨trivial, ?_⟩⟩
                  have elit : (1 : Int32).toInt = 1 := rfl
                  rfl
                · have A566 := A561.icmpYes (pc' := 260) at_253 (feq (ine (x := r558) (y := (1 : Int32)) rfl rfl c562)).2 (by decide) (by decide)
                  have A567 := A566.iconst (z := (0 : Int32)) (pc' := 261) at_260 rfl rfl
                  refine A567.retN (t := .boolean) (z' := (0 : Int32)) at_261 (by decide) (by decide) (by simp) rfl ⟨_, rfl, ⟨trivial, ?_⟩⟩
                  have elit : (0 : Int32).toInt = 0 := rfl
                  exfalso
                  omega
            · have A568 := A517.ifYes (pc' := 237) at_216 (feq (ine (x := r518) (y := (0 : Int32)) rfl rfl c521)).2 (by decide) (by decide)
              have A569 := A568.iconst (z := (1 : Int32)) (pc' := 238) at_237 rfl rfl
              have A570 := A569.goto (pc' := 242) at_238 (by decide) (by decide)
              have A571 := A570.istore (Ls' := #[.val (.int base), .val (.int lens), .val (.int gaps), .val (.int k), .val (.int cp), .val (.int (4 : Int32)), .val (.int v18), .val (.int s0), .val (.int e0), .val (.int s1), .val (.int e1), .val (.int s2), .val (.int e2), .val (.int s3), .val (.int e3), .val (.int v106), .val (.ref r476), .val (.int (1 : Int32))]) (pc' := 244) at_242 rfl rfl
              have A572 := A571.aload (v := (.ref r476)) (pc' := 246) at_244 rfl rfl rfl
              have A573 := A572.iload (v := v106) (pc' := 248) at_246 rfl rfl
              obtain ⟨r575, _, ⟨rfl, q576⟩, A574⟩ := W.kI (A573.callS (argsL := [(.ref r476), (.int v106)]) (rest := []) (C' := 1) (S' := 8) (pc' := 251) at_248 (hw _ (List.mem_of_getElem? (i := 9) rfl)) (hw _ (List.mem_of_getElem? (i := 10) rfl)) (hw _ (List.mem_of_getElem? (i := 11) rfl)) (hw _ (List.mem_of_getElem? (i := 12) rfl)) (rm3_4 l Z a0 hw n0 [] (r476) (v106) ((upd (upd (upd (upd (upd (upd (upd (upd (fun _ => (.int (0 : Int32))) 0 (.int s0)) 1 (.int e0)) 2 (.int s1)) 3 (.int e1)) 4 (.int s2)) 5 (.int e2)) 6 (.int s3)) 7 (.int e3))) (s0) (e0) (s1) (e1) (s2) (e2) (s3) (e3) h478 A573.size f482 (by first | rfl | omega) (by first | rfl | omega) (by first | rfl | omega) (by first | rfl | omega) (by first | rfl | omega) (by first | rfl | omega) (by first | rfl | omega) (by first | rfl | omega) (by first | rfl | omega)) rfl rfl pd_1 rfl rfl (by decide) (by decide) (Nat.le_of_ble_eq_true rfl) (by decide) (by decide) rfl rfl rfl)
              have A578 := A574.iload (v := (1 : Int32)) (pc' := 253) at_251 rfl rfl
              by_cases c579 : r575.toInt = 1
              · have A580 := A578.icmpNo (pc' := 256) at_253 (teq (ieq (x := r575) (y := (1 : Int32)) rfl rfl c579)).2 rfl
                have A581 := A580.iconst (z := (1 : Int32)) (pc' := 257) at_256 rfl rfl
                have A582 := A581.goto (pc' := 261) at_257 (by decide) (by decide)
                refine A582.retN (t := .boolean) (z' := (1 : Int32)) at_261 (by decide) (by decide) (by simp) rfl ⟨_, rfl, ⟨trivial, ?_⟩⟩
                have elit : (1 : Int32).toInt = 1 := rfl
                rfl
              · have A583 := A578.icmpYes (pc' := 260) at_253 (feq (ine (x := r575) (y := (1 : Int32)) rfl rfl c579)).2 (by decide) (by decide)
                have A584 := A583.iconst (z := (0 : Int32)) (pc' := 261) at_260 rfl rfl
                refine A584.retN (t := .boolean) (z' := (0 : Int32)) at_261 (by decide) (by decide) (by simp) rfl ⟨_, rfl, ⟨trivial, ?_⟩⟩
                have elit : (0 : Int32).toInt = 0 := rfl
                exfalso
                omega
          · have A585 := A504.ifYes (pc' := 237) at_198 (feq (ine (x := r505) (y := (0 : Int32)) rfl rfl c508)).2 (by decide) (by decide)
            have A586 := A585.iconst (z := (1 : Int32)) (pc' := 238) at_237 rfl rfl
            have A587 := A586.goto (pc' := 242) at_238 (by decide) (by decide)
            have A588 := A587.istore (Ls' := #[.val (.int base), .val (.int lens), .val (.int gaps), .val (.int k), .val (.int cp), .val (.int (4 : Int32)), .val (.int v18), .val (.int s0), .val (.int e0), .val (.int s1), .val (.int e1), .val (.int s2), .val (.int e2), .val (.int s3), .val (.int e3), .val (.int v106), .val (.ref r476), .val (.int (1 : Int32))]) (pc' := 244) at_242 rfl rfl
            have A589 := A588.aload (v := (.ref r476)) (pc' := 246) at_244 rfl rfl rfl
            have A590 := A589.iload (v := v106) (pc' := 248) at_246 rfl rfl
            obtain ⟨r592, _, ⟨rfl, q593⟩, A591⟩ := W.kI (A590.callS (argsL := [(.ref r476), (.int v106)]) (rest := []) (C' := 1) (S' := 8) (pc' := 251) at_248 (hw _ (List.mem_of_getElem? (i := 9) rfl)) (hw _ (List.mem_of_getElem? (i := 10) rfl)) (hw _ (List.mem_of_getElem? (i := 11) rfl)) (hw _ (List.mem_of_getElem? (i := 12) rfl)) (rm3_4 l Z a0 hw n0 [] (r476) (v106) ((upd (upd (upd (upd (upd (upd (upd (upd (fun _ => (.int (0 : Int32))) 0 (.int s0)) 1 (.int e0)) 2 (.int s1)) 3 (.int e1)) 4 (.int s2)) 5 (.int e2)) 6 (.int s3)) 7 (.int e3))) (s0) (e0) (s1) (e1) (s2) (e2) (s3) (e3) h478 A590.size f482 (by first | rfl | omega) (by first | rfl | omega) (by first | rfl | omega) (by first | rfl | omega) (by first | rfl | omega) (by first | rfl | omega) (by first | rfl | omega) (by first | rfl | omega) (by first | rfl | omega)) rfl rfl pd_1 rfl rfl (by decide) (by decide) (Nat.le_of_ble_eq_true rfl) (by decide) (by decide) rfl rfl rfl)
            have A595 := A591.iload (v := (1 : Int32)) (pc' := 253) at_251 rfl rfl
            by_cases c596 : r592.toInt = 1
            · have A597 := A595.icmpNo (pc' := 256) at_253 (teq (ieq (x := r592) (y := (1 : Int32)) rfl rfl c596)).2 rfl
              have A598 := A597.iconst (z := (1 : Int32)) (pc' := 257) at_256 rfl rfl
              have A599 := A598.goto (pc' := 261) at_257 (by decide) (by decide)
              refine A599.retN (t := .boolean) (z' := (1 : Int32)) at_261 (by decide) (by decide) (by simp) rfl ⟨_, rfl, ⟨trivial, ?_⟩⟩
              have elit : (1 : Int32).toInt = 1 := rfl
              rfl
            · have A600 := A595.icmpYes (pc' := 260) at_253 (feq (ine (x := r592) (y := (1 : Int32)) rfl rfl c596)).2 (by decide) (by decide)
              have A601 := A600.iconst (z := (0 : Int32)) (pc' := 261) at_260 rfl rfl
              refine A601.retN (t := .boolean) (z' := (0 : Int32)) at_261 (by decide) (by decide) (by simp) rfl ⟨_, rfl, ⟨trivial, ?_⟩⟩
              have elit : (0 : Int32).toInt = 0 := rfl
              exfalso
              omega
        · have A602 := A491.ifYes (pc' := 237) at_180 (feq (ine (x := r492) (y := (0 : Int32)) rfl rfl c495)).2 (by decide) (by decide)
          have A603 := A602.iconst (z := (1 : Int32)) (pc' := 238) at_237 rfl rfl
          have A604 := A603.goto (pc' := 242) at_238 (by decide) (by decide)
          have A605 := A604.istore (Ls' := #[.val (.int base), .val (.int lens), .val (.int gaps), .val (.int k), .val (.int cp), .val (.int (4 : Int32)), .val (.int v18), .val (.int s0), .val (.int e0), .val (.int s1), .val (.int e1), .val (.int s2), .val (.int e2), .val (.int s3), .val (.int e3), .val (.int v106), .val (.ref r476), .val (.int (1 : Int32))]) (pc' := 244) at_242 rfl rfl
          have A606 := A605.aload (v := (.ref r476)) (pc' := 246) at_244 rfl rfl rfl
          have A607 := A606.iload (v := v106) (pc' := 248) at_246 rfl rfl
          obtain ⟨r609, _, ⟨rfl, q610⟩, A608⟩ := W.kI (A607.callS (argsL := [(.ref r476), (.int v106)]) (rest := []) (C' := 1) (S' := 8) (pc' := 251) at_248 (hw _ (List.mem_of_getElem? (i := 9) rfl)) (hw _ (List.mem_of_getElem? (i := 10) rfl)) (hw _ (List.mem_of_getElem? (i := 11) rfl)) (hw _ (List.mem_of_getElem? (i := 12) rfl)) (rm3_4 l Z a0 hw n0 [] (r476) (v106) ((upd (upd (upd (upd (upd (upd (upd (upd (fun _ => (.int (0 : Int32))) 0 (.int s0)) 1 (.int e0)) 2 (.int s1)) 3 (.int e1)) 4 (.int s2)) 5 (.int e2)) 6 (.int s3)) 7 (.int e3))) (s0) (e0) (s1) (e1) (s2) (e2) (s3) (e3) h478 A607.size f482 (by first | rfl | omega) (by first | rfl | omega) (by first | rfl | omega) (by first | rfl | omega) (by first | rfl | omega) (by first | rfl | omega) (by first | rfl | omega) (by first | rfl | omega) (by first | rfl | omega)) rfl rfl pd_1 rfl rfl (by decide) (by decide) (Nat.le_of_ble_eq_true rfl) (by decide) (by decide) rfl rfl rfl)
          have A612 := A608.iload (v := (1 : Int32)) (pc' := 253) at_251 rfl rfl
          by_cases c613 : r609.toInt = 1
          · have A614 := A612.icmpNo (pc' := 256) at_253 (teq (ieq (x := r609) (y := (1 : Int32)) rfl rfl c613)).2 rfl
            have A615 := A614.iconst (z := (1 : Int32)) (pc' := 257) at_256 rfl rfl
            have A616 := A615.goto (pc' := 261) at_257 (by decide) (by decide)
            refine A616.retN (t := .boolean) (z' := (1 : Int32)) at_261 (by decide) (by decide) (by simp) rfl ⟨_, rfl, ⟨trivial, ?_⟩⟩
            have elit : (1 : Int32).toInt = 1 := rfl
            rfl
          · have A617 := A612.icmpYes (pc' := 260) at_253 (feq (ine (x := r609) (y := (1 : Int32)) rfl rfl c613)).2 (by decide) (by decide)
            have A618 := A617.iconst (z := (0 : Int32)) (pc' := 261) at_260 rfl rfl
            refine A618.retN (t := .boolean) (z' := (0 : Int32)) at_261 (by decide) (by decide) (by simp) rfl ⟨_, rfl, ⟨trivial, ?_⟩⟩
            have elit : (0 : Int32).toInt = 0 := rfl
            exfalso
            omega
    by_cases c92 : v18.toInt = 0
    · have A94 := A91.ifYes (pc' := 129) at_121 (teq (ieq (x := v18) (y := (0 : Int32)) rfl rfl c92)).1 (by decide) (by decide)
      have A95 := A94.iload (v := s0) (pc' := 131) at_129 rfl rfl
      have A96 := A95.iconst (z := (2 : Int32)) (pc' := 132) at_131 rfl rfl
      have A97 := A96.isub (pc' := 133) at_132 rfl
      have A98 := A97.iload (v := cp) (pc' := 135) at_133 rfl rfl
      have A99 := A98.sipush (z := (2047 : Int32)) (pc' := 138) at_135 rfl rfl
      have A100 := A99.iand (pc' := 139) at_138 rfl
      have A101 := A100.iadd (pc' := 140) at_139 rfl
      exact join93 (((s0 - (2 : Int32)) + (cp &&& (2047 : Int32))))   (by trivial)  A101
    · have A102 := A91.ifNo (pc' := 124) at_121 (feq (ine (x := v18) (y := (0 : Int32)) rfl rfl c92)).1 rfl
      have A103 := A102.iload (v := cp) (pc' := 126) at_124 rfl rfl
      have A104 := A103.goto (pc' := 140) at_126 (by decide) (by decide)
      exact join93 (cp)   (by trivial)  A104
  by_cases c10 : (k &&& (8 : Int32)).toInt = 0
  · have A12 := A9.ifYes (pc' := 19) at_12 (teq (ieq (x := (k &&& (8 : Int32))) (y := (0 : Int32)) rfl rfl c10)).1 (by decide) (by decide)
    have A13 := A12.iconst (z := (0 : Int32)) (pc' := 20) at_19 rfl rfl
    exact join11 ((0 : Int32))   (by trivial)  A13
  · have A14 := A9.ifNo (pc' := 15) at_12 (feq (ine (x := (k &&& (8 : Int32))) (y := (0 : Int32)) rfl rfl c10)).1 rfl
    have A15 := A14.iconst (z := (1 : Int32)) (pc' := 16) at_15 rfl rfl
    have A16 := A15.goto (pc' := 20) at_16 (by decide) (by decide)
    exact join11 ((1 : Int32))   (by trivial)  A16
set_option maxRecDepth 65536 in
set_option maxHeartbeats 40000000 in
theorem comes_1 {Post : Tables → Env → Array Value → State → Outcome → State → Prop} (hpost : ∀ tb e args s v u, (limb_1_1.after args s (.returned v) u = true ∧ limb_1_2.after args s (.returned v) u = true ∧ True) → FrameEnd s (.returned v) u (Jvm.fieldLocs frame_1_writes args s ++ Jvm.arrayLocs frame_1_arrays args s ++ Jvm.staticLocs frame_1_statics s) 16 128 → Post tb e args s (.returned v) u) :
    ArmFor flags0 classFile x code maxLocals ret World_1 tables_1 room_1 Calls_1 rest_1 Pre_1 Post := by
  intro l hfl _ _ p e ha hc hk s m args below hf hA hF happ hP
  obtain ⟨hcalls, hrest, hpre⟩ := hP
  obtain ⟨-, -, -, hnamed, -, -, -, hat⟩ := (Spec.applies_iff hf).mp happ
  obtain ⟨hg, hn⟩ := and_e (Cond.before_iff.mp (show (Jvm.Cond.and given_1 narrow_1).before args s = true from hpre))
  obtain ⟨g1a, g1b⟩ := and_e hg
  obtain ⟨g2a, g2b⟩ := and_e g1b
  obtain ⟨g3a, g3b⟩ := and_e g2b
  obtain ⟨g4a, g4b⟩ := and_e g3b
  obtain ⟨g5a, g5b⟩ := and_e g4b
  obtain ⟨w0, w1, w2, w3, w4, rfl⟩ : ∃ w0 w1 w2 w3 w4 : Value, args = #[w0, w1, w2, w3, w4] := by
    have hs : args.size = 5 := by simpa [Cond.value, given_1] using g1a
    obtain ⟨L⟩ := args
    match L, hs with
    | [w0, w1, w2, w3, w4], _ => exact ⟨w0, w1, w2, w3, w4, rfl⟩
  have hw := fun d (hd : d ∈ tables_1) => atoms_spec (ws := Jvm.Cond.code x code maxLocals ret :: tables_1) hat d (List.mem_cons_of_mem _ hd)
  obtain ⟨i0, ei0⟩ := is_v g2a
  obtain rfl : w0 = (.int i0) := Option.some.inj ei0
  obtain ⟨i1, ei1⟩ := is_v g3a
  obtain rfl : w1 = (.int i1) := Option.some.inj ei1
  obtain ⟨i2, ei2⟩ := is_v g4a
  obtain rfl : w2 = (.int i2) := Option.some.inj ei2
  obtain ⟨i3, ei3⟩ := is_v g5a
  obtain rfl : w3 = (.int i3) := Option.some.inj ei3
  obtain ⟨i4, ei4⟩ := is_v g5b
  obtain rfl : w4 = (.int i4) := Option.some.inj ei4
  obtain ⟨n, o, h1, h2, h3, _, L, rfl, ⟨N, ⟨r, rfl, hr⟩⟩, hq⟩ := rm0 l s _ hw s.heap.size tables_1 i0 i1 i2 i3 i4  s.heap (Nat.le_refl _)  p e ha hc hk s m _ below hf ((Spec.applies_iff_loose hf).mp happ).1 ⟨rfl, State.Warmed39.refl s, rfl⟩ trivial
  have hr1 : r = 1 := hr.2
  subst hr1
  refine ⟨n, _, h1, h2, h3, hpost _ _ _ _ _ _ ⟨Cond.after_iff.mpr rfl, Cond.after_iff.mpr (eq_i res_at (Term.int_eval (1)) rfl), trivial⟩ ⟨hq.1, hq.2.1, (hq.2.2.sift fun y hy => Or.inr (N y hy)).mono (by decide) (by decide)⟩⟩
theorem main_1_1 : Claimed_1_1 := comes_1 fun _ _ _ _ _ _ h hF => ⟨h.1, hF⟩
theorem main_1_2 : Claimed_1_2 := comes_1 fun _ _ _ _ _ _ h hF => ⟨h.2.1, hF⟩
end Jvm.Pilot.@@N@@
namespace Jvm.Pilot.@@N@@
open Jvm Jvm.ClassFile Sem Op Lib Jvm.Free Jvm.Stand Jvm.Pilot.@@N@@.Jvm.D
/-! MADE BY PROGRAM (witnessworld.py) out of the Statement's table words and the real class files: 9 classes; the members and pool entries that the words name. The judged class is class 1, her method 3. -/
namespace start1
open Jvm.ClassFile
def u (s : String) : CpInfo := .utf8 (stringToUtf16 s)
/-- a pool by its gaps: so many unusable entries, then the entry; so many at the end -/
def gap : Nat → List CpInfo → List CpInfo
  | 0, r => r
  | n + 1, r => .unusable :: gap n r
def poolList (es : List (Nat × CpInfo)) (last : Nat) : List CpInfo := es.foldr (fun e r => gap e.1 (e.2 :: r)) (gap last [])
def pool (es : List (Nat × CpInfo)) (last : Nat) : Array CpInfo := ⟨poolList es last⟩
def fileOf (pool : Array CpInfo) (this : Nat) (attrs : Array Attribute := #[]) (ms : Array MethodInfo := #[]) (fl : Nat := 33) (sup : Nat := 0) (ifs : Array Nat := #[]) (fds : Array FieldInfo := #[]) : ClassFile where
  minorVersion := 0
  majorVersion := 65
  constantPool := pool
  accessFlags := fl
  thisClass := this
  superClass := sup
  interfaces := ifs
  fields := fds
  methods := ms
  attributes := attrs
def plain (name : String) (sup : Option ClassId) : Class where
  name := name
  kind := .ordinary
  loader := none
  accessFlags := 33
  super := sup
  interfaces := #[]
  cf := none
  fields := #[]
  methods := #[]
  instanceTypes := #[]
  staticTypes := #[]
  resolved := #[]
  callSites := []
  init := .initialized
  statics := none
  mirror := none

def pool0 : Array CpInfo := pool [(5, u "<init>"), (0, u "()V"), (1, .class_ 10), (1, u "java/lang/Object")] 113

def k0m0 : Method := { name := "<init>", desc := "()V", sig := { parameters := [], returnType := none }, accessFlags := 1, code := none }
/-- java/lang/Object -/
def k0 : Class := { plain "java/lang/Object" none with
  accessFlags := 33
  interfaces := #[]
  cf := some (fileOf pool0 8 #[] #[{ accessFlags := 1, nameIndex := 5, descriptorIndex := 6, attributes := #[] }] 33 0 #[] #[])
  fields := #[]
  methods := #[k0m0]
  instanceTypes := #[]
  staticTypes := #[]
  resolved := Array.replicate 124 none
  statics := none }

def pool1 : Array CpInfo := pool [(2, .class_ 4), (1, u "java/lang/Object"), (0, u "<init>"), (0, u "()V"), (0, .integer 65535), (0, .methodref 9 10), (0, .class_ 11), (0, .nameAndType 12 13), (0, u "com/example/dialekt/dialekt/regex/CodePointRangesContainsPinLaw"), (0, u "table"), (0, u "(IIIIIIIII)[I"), (0, .methodref 9 15), (0, .nameAndType 16 17), (0, u "in"), (0, u "(III)Z"), (0, .methodref 19 20), (0, .class_ 21), (0, .nameAndType 22 23), (0, u "com/example/dialekt/dialekt/regex/CodePointRanges"), (0, u "contains"), (0, u "([II)Z"), (3, u "law"), (0, u "(IIIII)Z")] 4

def k1m0 : Method := { name := "<init>", desc := "()V", sig := { parameters := [], returnType := none }, accessFlags := 2, code := none }
def k1c1 : Code := { maxStack := 2, maxLocals := 3, code := method_2_code, exceptionTable := #[], attributes := #[] }
def k1m1 : Method := { name := "in", desc := "(III)Z", sig := { parameters := [.int, .int, .int], returnType := some .boolean }, accessFlags := 10, code := some k1c1 }
def k1c2 : Code := { maxStack := 4, maxLocals := 9, code := method_3_code, exceptionTable := #[], attributes := #[] }
def k1m2 : Method := { name := "table", desc := "(IIIIIIIII)[I", sig := { parameters := [.int, .int, .int, .int, .int, .int, .int, .int, .int], returnType := some (.array .int) }, accessFlags := 10, code := some k1c2 }
def k1c3 : Code := { maxStack := 9, maxLocals := 18, code := code, exceptionTable := #[], attributes := #[] }
def k1m3 : Method := { name := "law", desc := "(IIIII)Z", sig := { parameters := [.int, .int, .int, .int, .int], returnType := some .boolean }, accessFlags := 9, code := some k1c3 }
/-- com/example/dialekt/dialekt/regex/CodePointRangesContainsPinLaw -/
def k1 : Class := { plain "com/example/dialekt/dialekt/regex/CodePointRangesContainsPinLaw" (some 0) with
  accessFlags := 49
  interfaces := #[]
  cf := some (fileOf pool1 9 #[] #[{ accessFlags := 2, nameIndex := 5, descriptorIndex := 6, attributes := #[] }, { accessFlags := 10, nameIndex := 16, descriptorIndex := 17, attributes := #[] }, { accessFlags := 10, nameIndex := 12, descriptorIndex := 13, attributes := #[] }, { accessFlags := 9, nameIndex := 27, descriptorIndex := 28, attributes := #[] }] 49 2 #[] #[])
  fields := #[]
  methods := #[k1m0, k1m1, k1m2, k1m3]
  instanceTypes := #[]
  staticTypes := #[]
  resolved := Array.replicate 33 none
  statics := none }

def pool2 : Array CpInfo := pool [(2, .class_ 4), (1, u "java/lang/Object"), (0, u "<init>"), (0, u "()V"), (19, .class_ 27), (0, u "com/example/dialekt/dialekt/regex/CodePointRanges"), (9, u "contains"), (0, u "([II)Z")] 2

def k2m0 : Method := { name := "<init>", desc := "()V", sig := { parameters := [], returnType := none }, accessFlags := 2, code := none }
def k2c1 : Code := { maxStack := 4, maxLocals := 5, code := prog_36_method_3_code, exceptionTable := #[], attributes := #[] }
def k2m1 : Method := { name := "contains", desc := "([II)Z", sig := { parameters := [(.array .int), .int], returnType := some .boolean }, accessFlags := 9, code := some k2c1 }
/-- com/example/dialekt/dialekt/regex/CodePointRanges -/
def k2 : Class := { plain "com/example/dialekt/dialekt/regex/CodePointRanges" (some 0) with
  accessFlags := 49
  interfaces := #[]
  cf := some (fileOf pool2 26 #[] #[{ accessFlags := 2, nameIndex := 5, descriptorIndex := 6, attributes := #[] }, { accessFlags := 9, nameIndex := 37, descriptorIndex := 38, attributes := #[] }] 49 2 #[] #[])
  fields := #[]
  methods := #[k2m0, k2m1]
  instanceTypes := #[]
  staticTypes := #[]
  resolved := Array.replicate 41 none
  statics := none }

def pool3 : Array CpInfo := pool [(1, u "java/lang/Cloneable"), (0, .class_ 1), (0, u "java/lang/Object"), (0, .class_ 3)] 3

/-- java/lang/Cloneable -/
def k3 : Class := { plain "java/lang/Cloneable" (some 0) with
  accessFlags := 1537
  interfaces := #[]
  cf := some (fileOf pool3 2 #[] #[] 1537 4 #[] #[])
  fields := #[]
  methods := #[]
  instanceTypes := #[]
  staticTypes := #[]
  resolved := Array.replicate 8 none
  statics := none }

def pool4 : Array CpInfo := pool [(1, u "java/io/Serializable"), (0, .class_ 1), (0, u "java/lang/Object"), (0, .class_ 3)] 3

/-- java/io/Serializable -/
def k4 : Class := { plain "java/io/Serializable" (some 0) with
  accessFlags := 1537
  interfaces := #[]
  cf := some (fileOf pool4 2 #[] #[] 1537 4 #[] #[])
  fields := #[]
  methods := #[]
  instanceTypes := #[]
  staticTypes := #[]
  resolved := Array.replicate 8 none
  statics := none }

/-- the primitive byte -/
def k5 : Class := { plain "byte" none with kind := .primitive 'B', accessFlags := 0x411 }
/-- [B -/
def k6 : Class := { plain "[B" (some 0) with kind := .array 5 .byte, interfaces := #[3, 4], accessFlags := 1041 }

/-- the primitive int -/
def k7 : Class := { plain "int" none with kind := .primitive 'I', accessFlags := 0x411 }
/-- [I -/
def k8 : Class := { plain "[I" (some 0) with kind := .array 7 .int, interfaces := #[3, 4], accessFlags := 1041 }

def heap : Heap := #[]
def classes : Array Class := #[k0, k1, k2, k3, k4, k5, k6, k7, k8]
def interned : List (Array UInt16 × Addr) := []
def slotsUsed : Nat := 0
def theMethod : MethodId := ⟨1, 3⟩
def args0 : Array Value := #[.int 5, .int 5, .int 5, .int 5, .int 5]
def aboutOver (below : List Frame) : State where
  vm := { classes := classes, interned := interned.toArray }
  heap := heap
  slotsUsed := slotsUsed
  threads := #[{ frames := .invoking theMethod args0 :: below }]
def below0 : List Frame := [.native { method := ⟨0, 0⟩, args := #[] }]
def about1 : State := aboutOver below0
def p0 : Program := .bare "" "" ""
def e0 : Env := launch0.env 0 0 0
theorem w_frames : about1.frames = Frame.invoking theMethod args0 :: below0 := rfl
set_option maxRecDepth 65536 in
theorem w_args : argsFit about1.vm theMethod args0 = true := by decide +kernel
set_option maxRecDepth 65536 in
theorem w_heap : heapFits about1 = true := by decide +kernel
set_option maxRecDepth 65536 in
theorem w_runnable : about1.curStatus? = some .runnable := by decide +kernel
set_option maxRecDepth 65536 in
theorem w_alone : about1.alone = true := by decide +kernel
set_option maxRecDepth 65536 in
theorem w_named : about1.methodNamed? x = some theMethod := by decide +kernel
set_option maxRecDepth 65536 in
theorem w_hears : about1.hears theMethod below0 = true := by decide +kernel
set_option maxRecDepth 65536 in
theorem w_ripe : about1.ripe theMethod args0 below0 = true := by decide +kernel
theorem w_running : about1.status = .running := rfl
set_option maxRecDepth 65536 in
theorem w_room : about1.hasRoom e0.platform room_1 = true :=
  launch0.hasRoom_least _ room_1 (by decide +kernel) (by decide +kernel) (by decide +kernel) (by decide +kernel) (by decide +kernel) (by decide +kernel)
theorem allAtoms_all (ts : List Jvm.Cond) (a : Array Jvm.Value) (st : Jvm.State) : (allAtoms ts).before a st = ts.all (fun c => c.before a st) := by
  induction ts with
  | nil => rfl
  | cons c t ih =>
    show (Jvm.Cond.and c (allAtoms t)).before a st = _
    rw [Jvm.Cond.before_and, ih, List.all_cons]
def words1 : List Jvm.Cond := Jvm.Cond.code x code maxLocals ret :: tables_1
/-- a 'code' word, met by the world's own term for the bytes: nothing is compared byte by byte -/
theorem code_word {y : MethodName} {bytes : ByteArray} {mx : Nat} {rt : Option FieldType} {a : Array Value} {s : State} {m : MethodId} {meth : Method} {c : Code} (h1 : s.methodNamed? y = some m) (h2 : s.vm.method? m = some meth) (h3 : meth.code = some c) (h4 : c.code = bytes)
    (h5 : (c.maxLocals == mx && c.exceptionTable.isEmpty && decide (c.maxStack ≤ mostOperands) && decide (meth.sig.returnType = rt) && !meth.locks && decide (parseMethodDescriptor y.desc = some meth.sig)) = true) : (Jvm.Cond.code y bytes mx rt).before a s = true := by
  simp only [Bool.and_eq_true, beq_iff_eq, Bool.not_eq_true', decide_eq_true_eq] at h5
  obtain ⟨⟨⟨⟨⟨g1, g2⟩, g3⟩, g4⟩, g5⟩, g6⟩ := h5
  simp [Cond.before, Cond.holds, Cond.value, h1, h2, h3, h4, g1, g2, g3, g4, g5, g6]
def isCode : Jvm.Cond → Bool
  | .code _ _ _ _ => true
  | _ => false
theorem all_split {L : List Jvm.Cond} {P : Jvm.Cond → Bool} (h1 : L.all (fun c => isCode c || P c) = true) (h2 : ∀ c ∈ L.filter isCode, P c = true) : L.all P = true := by
  refine List.all_eq_true.mpr fun c hc => ?_
  have h := List.all_eq_true.mp h1 c hc
  rcases Bool.eq_false_or_eq_true (isCode c) with hi | hi
  · exact h2 c (List.mem_filter.mpr ⟨hc, hi⟩)
  · simpa [hi] using h
set_option maxRecDepth 65536 in
theorem w_c0 : (Jvm.Cond.code x code maxLocals ret).before args0 about1 = true := code_word (m := ⟨1, 3⟩) (meth := k1m3) (c := k1c3) (by decide +kernel) rfl rfl rfl (by decide +kernel)
set_option maxRecDepth 65536 in
theorem w_c1 : (Jvm.Cond.code ({ cls := "com/example/dialekt/dialekt/regex/CodePointRangesContainsPinLaw", name := "table", desc := "(IIIIIIIII)[I" } : Jvm.MethodName) method_3_code (9 : Nat) (Option.some (Jvm.ClassFile.FieldType.array Jvm.ClassFile.FieldType.int))).before args0 about1 = true := code_word (m := ⟨1, 2⟩) (meth := k1m2) (c := k1c2) (by decide +kernel) rfl rfl rfl (by decide +kernel)
set_option maxRecDepth 65536 in
theorem w_c2 : (Jvm.Cond.code ({ cls := "com/example/dialekt/dialekt/regex/CodePointRangesContainsPinLaw", name := "in", desc := "(III)Z" } : Jvm.MethodName) method_2_code (3 : Nat) (Option.some Jvm.ClassFile.FieldType.boolean)).before args0 about1 = true := code_word (m := ⟨1, 1⟩) (meth := k1m1) (c := k1c1) (by decide +kernel) rfl rfl rfl (by decide +kernel)
set_option maxRecDepth 65536 in
theorem w_c3 : (Jvm.Cond.code ({ cls := "com/example/dialekt/dialekt/regex/CodePointRanges", name := "contains", desc := "([II)Z" } : Jvm.MethodName) prog_36_method_3_code (5 : Nat) (Option.some Jvm.ClassFile.FieldType.boolean)).before args0 about1 = true := code_word (m := ⟨2, 1⟩) (meth := k2m1) (c := k2c1) (by decide +kernel) rfl rfl rfl (by decide +kernel)
def codes1 : List Jvm.Cond := [Jvm.Cond.code x code maxLocals ret, Jvm.Cond.code ({ cls := "com/example/dialekt/dialekt/regex/CodePointRangesContainsPinLaw", name := "table", desc := "(IIIIIIIII)[I" } : Jvm.MethodName) method_3_code (9 : Nat) (Option.some (Jvm.ClassFile.FieldType.array Jvm.ClassFile.FieldType.int)), Jvm.Cond.code ({ cls := "com/example/dialekt/dialekt/regex/CodePointRangesContainsPinLaw", name := "in", desc := "(III)Z" } : Jvm.MethodName) method_2_code (3 : Nat) (Option.some Jvm.ClassFile.FieldType.boolean), Jvm.Cond.code ({ cls := "com/example/dialekt/dialekt/regex/CodePointRanges", name := "contains", desc := "([II)Z" } : Jvm.MethodName) prog_36_method_3_code (5 : Nat) (Option.some Jvm.ClassFile.FieldType.boolean)]
set_option maxRecDepth 65536 in
theorem codes_eq : words1.filter isCode = codes1 := rfl
theorem w_codes : ∀ c ∈ words1.filter isCode, c.before args0 about1 = true := by
  rw [codes_eq]
  intro c hc
  simp only [codes1, List.mem_cons, List.not_mem_nil, or_false] at hc
  rcases hc with rfl | rfl | rfl | rfl
  · exact w_c0
  · exact w_c1
  · exact w_c2
  · exact w_c3
set_option maxRecDepth 65536 in
theorem w_t1 : words1.all (fun c => isCode c || c.before args0 about1) = true := by decide +kernel
theorem w_tables : (allAtoms (Jvm.Cond.code x code maxLocals ret :: tables_1)).before args0 about1 = true := by
  rw [allAtoms_all]
  show words1.all (fun c => c.before args0 about1) = true
  refine all_split ?_ w_codes
  rw [w_t1]
set_option maxRecDepth 65536 in
theorem w_case : (Jvm.Cond.and given_1 narrow_1).before args0 about1 = true := by decide +kernel
theorem w_applies : (headSpec (Jvm.Cond.code x code maxLocals ret :: tables_1) room_1).applies x e0.platform about1 = true :=
  (Spec.applies_iff w_frames).mpr ⟨w_running, w_runnable, w_alone, w_named, w_hears, w_ripe, w_room, w_tables⟩
theorem atStart : AtStart classFile x code maxLocals ret World_1 tables_1 room_1 Calls_1 rest_1 Pre_1 launch0 p0 e0 about1 theMethod args0 below0 :=
  ⟨lists_1, trivial, launch0.admits_env _ _ _, launch0.least_env, fairChoices_fair.cas, fairChoices_fair.clock, w_frames, w_args, w_heap, w_applies, trivial, trivial, w_case⟩
end start1
theorem witness_1 : WitnessClaimed_1 := ⟨start1.p0, start1.e0, start1.about1, start1.theMethod, start1.args0, start1.below0, start1.atStart⟩
end Jvm.Pilot.@@N@@
