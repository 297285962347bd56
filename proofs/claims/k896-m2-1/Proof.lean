import JvmDerived
import JvmDerived.Pilot.@@N@@Statement
import JvmDerived.Pilot.@@N@@Code
set_option linter.unusedVariables false
set_option linter.unusedSimpArgs false
namespace Jvm.OwnW
open Sem ClassFile Op Lib Jvm.Stand Jvm.Free Jvm.LawKit Jvm.RoadKit
/-- what was written lies in one of 'ws' or is new -/
def Fw (ws : List Addr) (N : Nat) (L : List Loc) : Prop := ∀ y ∈ L, y.base ∈ ws ∨ N ≤ y.base
theorem Fw.nil (ws : List Addr) (N : Nat) : Fw ws N [] := fun _ q => nomatch q
theorem Fw.app {ws : List Addr} {N : Nat} {L L' : List Loc} (A : Fw ws N L) (B : Fw ws N L') : Fw ws N (L ++ L') := fun y q => (List.mem_append.mp q).elim (A y) (B y)
theorem Fw.snoc {ws : List Addr} {N : Nat} {L : List Loc} {a : Addr} {sl : Nat} (A : Fw ws N L) (q : a ∈ ws ∨ N ≤ a) : Fw ws N (L ++ [⟨a, sl⟩]) := A.app fun y hy => by cases List.mem_singleton.mp hy; exact q
/-- where a walk stands: what was written is new, the heap, the figures within the room -/
def Pos (p : Program) (l : Launch) (e : Env) (R : Room) (s : State) (m : MethodId) (args : Array Value) (below : List Frame) (meth : Method) (c : Code) (Z : State) (own : String) (ws : List Addr) (bd : Nat) (T : State) (h : Heap) (k n : Nat) : Prop :=
  (∃ locs, Stand p l e R s m args below meth c T locs k n ∧ Fw ws bd locs) ∧ T.heap = h ∧ bd ≤ h.size ∧ Z.Warmed39 s.vm ∧ p.tables.exec = Jvm.exec ∧ s.vm.findClass own = some m.cls ∧ meth.locks = false ∧ k ≤ R.cells ∧ n ≤ R.slots
/-- the walk that stands at the frame g in T comes to its return, and Q holds of what it returns and of the heap it leaves -/
def Done (p : Program) (l : Launch) (e : Env) (R : Room) (s : State) (m : MethodId) (args : Array Value) (below : List Frame) (meth : Method) (c : Code) (Z : State) (own : String) (ws : List Addr) (bd : Nat) (Q : Option Value → Heap → Prop) (T : State) (g : JFrame) : Prop :=
  ∃ v T' h' k n, Pos p l e R s m args below meth c Z own ws bd T' h' k n ∧ (meth.sig.returnType = none → v = none) ∧ Q v h' ∧
    ∀ fs, (∀ (f : JFrame) (acts : List Action), f.method = m → f.locked = none → f.entered = [] → (doReturn e (T'.setTop f) acts v).1 = T'.setFrames fs) → Steps p.tables e below (T.setTop g) (T'.setFrames fs)
/-- a method's contract, asked at one heap and one row of arguments; it writes what lies in 'ws' and what it makes, alone -/
def OMet (l : Launch) (y : MethodName) (bytes : ByteArray) (maxL : Nat) (ret : Option FieldType) (wd : List Cond) (rm : Room) (Z : State) (h : Heap) (ws : List Addr) (as' : Array Value) (Q : Option Value → Heap → Prop) : Prop :=
  MetFree l y (head1 (Cond.code y bytes maxL ret :: wd) rm) (fun a U => a = as' ∧ Z.Warmed39 U.vm ∧ U.heap = h) (fun _ _ _ _ _ => True) (fun _ U o U' => ∃ v L, o = .returned v ∧ (Q v U'.heap ∧ Fw ws h.size L ∧ Keep h U'.heap ws) ∧ FrameEnd U o U' L rm.cells rm.slots)
section A
variable {p : Program} {l : Launch} {e : Env} {R : Room} {s : State} {m : MethodId} {args : Array Value} {below : List Frame} {meth : Method} {c : Code} {Z : State} {own : String} {ws : List Addr} {bd : Nat} {T : State} {h h' : Heap} {k n : Nat} {a0 : Array Value} {Q : Option Value → Heap → Prop} {pc pc' : Nat} {Ls : Array Slot} {st : List Value} {T₁ : State} {g₁ : JFrame}
theorem Pos.here (P : Pos p l e R s m args below meth c Z own ws bd T h k n) : At T m c below := by obtain ⟨⟨_, X, _⟩, _⟩ := P; exact X.here
theorem Pos.x (P : Pos p l e R s m args below meth c Z own ws bd T h k n) : p.tables.exec = Jvm.exec := P.2.2.2.2.1
theorem Pos.ge (P : Pos p l e R s m args below meth c Z own ws bd T h k n) : bd ≤ h.size := P.2.2.1
theorem Pos.more (P : Pos p l e R s m args below meth c Z own ws bd T h k n) {k' n' : Nat} (hk : k ≤ k') (hn : n ≤ n') (hk' : k' ≤ R.cells) (hn' : n' ≤ R.slots) : Pos p l e R s m args below meth c Z own ws bd T h k' n' := by
  obtain ⟨⟨L, X, N'⟩, a, b, c, d, f, g, _, _⟩ := P
  exact ⟨⟨L, X.more hk hn, N'⟩, a, b, c, d, f, g, hk', hn'⟩
theorem Pos.cast {k' n' : Nat} (P : Pos p l e R s m args below meth c Z own ws bd T h k n) (hk : k = k') (hn : n = n') : Pos p l e R s m args below meth c Z own ws bd T h k' n' := by subst hk hn; exact P
theorem Done.step {T' : State} {g g' : JFrame} (hs : ∀ t, Steps p.tables e below (T'.setTop g') t → Steps p.tables e below (T.setTop g) t) (D : Done p l e R s m args below meth c Z own ws bd Q T' g') : Done p l e R s m args below meth c Z own ws bd Q T g := by
  obtain ⟨v, T1, h1, k1, n1, P, hv, hq, st⟩ := D
  exact ⟨v, T1, h1, k1, n1, P, hv, hq, fun fs hl => hs _ (st fs hl)⟩
theorem Done.stepL {st' : List Value} (hs : ∀ t, Steps p.tables e below (T.setTop (mkF m pc' Ls st')) t → Steps p.tables e below (T.setTop (mkF m pc Ls st)) t) (D : Done p l e R s m args below meth c Z own ws bd Q T (mkF m pc' Ls st')) : Done p l e R s m args below meth c Z own ws bd Q T (mkF m pc Ls st) := Done.step hs D
theorem Done.imp {Q' : Option Value → Heap → Prop} {g : JFrame} (D : Done p l e R s m args below meth c Z own ws bd Q T g) (q : ∀ v h, Q v h → Q' v h) : Done p l e R s m args below meth c Z own ws bd Q' T g := by
  obtain ⟨v, T1, h1, k1, n1, P, hv, hq, st⟩ := D
  exact ⟨v, T1, h1, k1, n1, P, hv, q _ _ hq, st⟩
theorem keepOf {u : State} {L : List Loc} (q : s.sameButNew u L k n) (F : Fw ws s.heap.size L) : Keep s.heap u.heap ws := by
  obtain ⟨-, h1, -, -, -, H⟩ := q
  refine ⟨h1, fun x cl hx hn => ?_, fun x cl hx => ?_⟩
  · obtain ⟨c', e1, e2, e3, e4⟩ := H x cl hx
    have hlt := (Array.getElem?_eq_some_iff.mp hx).1
    have es : c'.slots = cl.slots := by
      apply Array.ext_getElem?
      intro i
      exact e4 i fun hm => (F _ hm).elim (fun z => hn z) (fun z => absurd z (Nat.not_le.mpr hlt))
    rw [e1, e2, es]
  · obtain ⟨c', e1, e2, e3, e4⟩ := H x cl hx
    exact ⟨c', e1, by rw [e2], by rw [e2], e3⟩
/-- a contract out of a walk -/
theorem OMet.of {y : MethodName} {bytes : ByteArray} {maxL : Nat} {ret : Option FieldType} {wd : List Cond} {rm : Room} {as' : Array Value} {nm : String} (hy : plainFor y = true) (hyc : y.cls = own) (hyn : y.name = nm)
    (H : ∀ p e s m below meth c s₁, Pos p l e rm s m as' below meth c Z own ws h.size s₁ h 0 0 → c.code = bytes → c.maxLocals = maxL → meth.sig.returnType = ret → meth.name = nm → Done p l e rm s m as' below meth c Z own ws h.size Q s₁ (entryFrame m as' maxL)) :
    OMet l y bytes maxL ret wd rm Z h ws as' Q := by
  subst hyc hyn
  refine MetFree.of_bodySF hy hisR ?_
  intro p e s m args below meth c s₁ Bd hml hP hK
  obtain ⟨rfl, hZ, hh⟩ := hP
  have hown : s.vm.findClass y.cls = some m.cls := findClass_of_methodNamed Bd.named
  have hnm := (name_of_methodNamed Bd.named Bd.method).1
  have X0 : Stand p l e rm s m args below meth c s₁ [] 0 0 := Stand.of_body Bd
  have e0 : s₁.heap = h := by rw [← hh, Bd.state]; rfl
  obtain ⟨v, T', h', k, n, ⟨⟨L, X, N⟩, eT, _, _, _, _, hlk, hk, hnn⟩, hv, hq, st⟩ := H p e s m below meth c s₁ ⟨⟨[], X0, Fw.nil _ _⟩, e0, Nat.le_refl _, hZ, Bd.exec, hown, Bd.notSynchronized, Nat.zero_le _, Nat.zero_le _⟩ Bd.bytes hml Bd.returns hnm
  obtain ⟨fs, hr, hrun, hended, hW, hsame⟩ := X.leave (v := v) hv hlk
  refine ⟨_, _, st fs hr, hrun, hended, v, L, rfl, ⟨?_, N, ?_⟩, ⟨_, rfl⟩, hW, hsame.mono hk hnn⟩
  · rw [show (T'.setFrames fs).heap = T'.heap from rfl, eT]
    exact hq
  · subst hh
    have q := keepOf hsame N
    exact q
theorem wRet {w : Value} {t : FieldType} {i : Instr} (P : Pos p l e R s m args below meth c Z own ws bd T h k n) (hret : meth.sig.returnType = some t) (hn : narrow t w = w)
    (hi : (i = .ireturn ∧ (t = .int ∨ t = .boolean ∨ t = .byte ∨ t = .char ∨ t = .short) ∧ ∃ z, w = .int z) ∨ (i = .lreturn ∧ t = .long ∧ ∃ z, w = .long z) ∨ (i = .dreturn ∧ t = .double ∧ ∃ z, w = .double z) ∨ (i = .freturn ∧ t = .float ∧ ∃ z, w = .float z) ∨ (i = .areturn ∧ t.isReference = true ∧ w.isRef = true))
    (hd : decode c.code pc = .ok (i, 1)) (hq : Q (some w) h) : Done p l e R s m args below meth c Z own ws bd Q T (mkF m pc Ls (w :: st)) := by
  obtain ⟨⟨L, X, N'⟩, r⟩ := id P
  exact ⟨some w, T, h, k, n, P, (fun q => by rw [hret] at q; cases q), hq, fun fs hl => retOut X P.x hret hn hi hd hl⟩
theorem wRetI {z : Int32} (P : Pos p l e R s m args below meth c Z own ws bd T h k n) (hret : meth.sig.returnType = some .int) (hd : decode c.code pc = .ok (.ireturn, 1)) (hq : Q (some (.int z)) h) : Done p l e R s m args below meth c Z own ws bd Q T (mkF m pc Ls (.int z :: st)) :=
  wRet P hret rfl (Or.inl ⟨rfl, Or.inl rfl, z, rfl⟩) hd hq
theorem wRetD {z : UInt64} (P : Pos p l e R s m args below meth c Z own ws bd T h k n) (hret : meth.sig.returnType = some .double) (hd : decode c.code pc = .ok (.dreturn, 1)) (hq : Q (some (.double z)) h) : Done p l e R s m args below meth c Z own ws bd Q T (mkF m pc Ls (.double z :: st)) :=
  wRet P hret rfl (Or.inr (Or.inr (Or.inl ⟨rfl, rfl, z, rfl⟩))) hd hq
theorem wRetA {w : Value} {t : FieldType} (P : Pos p l e R s m args below meth c Z own ws bd T h k n) (hret : meth.sig.returnType = some t) (ht : t.isReference = true) (hw : w.isRef = true) (hd : decode c.code pc = .ok (.areturn, 1)) (hq : Q (some w) h) : Done p l e R s m args below meth c Z own ws bd Q T (mkF m pc Ls (w :: st)) :=
  wRet P hret (by cases w <;> first | rfl | (simp [Value.isRef] at hw; done) | (cases t <;> first | rfl | (simp [FieldType.isReference] at ht))) (Or.inr (Or.inr (Or.inr (Or.inr ⟨rfl, ht, hw⟩)))) hd hq
theorem wRetN {z : Int32} {t : FieldType} (P : Pos p l e R s m args below meth c Z own ws bd T h k n) (hret : meth.sig.returnType = some t) (ht : t = .boolean ∨ t = .byte ∨ t = .char ∨ t = .short) (hd : decode c.code pc = .ok (.ireturn, 1)) (hq : Q (some (.int (nar t z))) h) : Done p l e R s m args below meth c Z own ws bd Q T (mkF m pc Ls (.int z :: st)) := by
  obtain ⟨⟨L, X, N'⟩, r⟩ := id P
  exact ⟨_, T, h, k, n, P, (fun q => by rw [hret] at q; cases q), hq, fun fs hl => retN X P.x hret ht hd hl⟩
theorem wRetV (P : Pos p l e R s m args below meth c Z own ws bd T h k n) (hret : meth.sig.returnType = none) (hd : decode c.code pc = .ok (.return_, 1)) (hq : Q none h) : Done p l e R s m args below meth c Z own ws bd Q T (mkF m pc Ls []) := by
  obtain ⟨⟨L, X, N'⟩, r⟩ := id P
  exact ⟨none, T, h, k, n, P, fun _ => rfl, hq, fun fs hl => X.returnOut P.x hret hd hl⟩
theorem wGet {R0 O nm d host : String} {index : Nat} {a : Addr} {v : Value} (P : Pos p l e R s m args below meth c Z own ws bd T h k n) (w : (Cond.fieldLink own index R0 nm d).before a0 Z = true ∨ (Cond.fieldLinkNest own index R0 nm d host).before a0 Z = true) (via : Via Z R0 O nm d) (F : Fld Z h a O nm d v)
    (hd : decode c.code pc = .ok (.getfield index, 3)) (hp : pc + 3 = pc') (K : ∀ T', Pos p l e R s m args below meth c Z own ws bd T' h k n → Done p l e R s m args below meth c Z own ws bd Q T' (mkF m pc' Ls (v :: st))) : Done p l e R s m args below meth c Z own ws bd Q T (mkF m pc Ls (.ref a :: st)) := by
  obtain ⟨⟨L, X, N'⟩, eT, b, hZ, hx, ho, r⟩ := id P
  obtain ⟨T', X', e', stp⟩ := getF X hx hZ ho w via eT F (g := mkF m pc Ls (.ref a :: st)) rfl rfl hd
  subst hp
  exact Done.step stp (K T' ⟨⟨L, X', N'⟩, e', b, hZ, hx, ho, r⟩)
theorem wPut {R0 O nm d host C : String} {index kk : Nat} {ty : FieldType} {a : Addr} {v old : Value} (P : Pos p l e R s m args below meth c Z own ws bd T h k n) (w : (Cond.fieldLink own index R0 nm d).before a0 Z = true ∨ (Cond.fieldLinkNest own index R0 nm d host).before a0 Z = true) (via : Via Z R0 O nm d) (F : Fld Z h a O nm d old) (E : Exa Z h a C)
    (La : (Cond.lays C O nm d).before a0 Z = true ∨ ((Cond.laysFinal C O nm d).before a0 Z = true ∧ own = O ∧ meth.name = "<init>")) (wi : (Cond.instantiable C kk).before a0 Z = true) (hty : parseFieldDescriptor d = some ty) (hn : narrow ty v = v) (hf : fits ty v = true) (hge : a ∈ ws ∨ bd ≤ a)
    (hd : decode c.code pc = .ok (.putfield index, 3)) (hp : pc + 3 = pc') (K : ∀ T' h', Pos p l e R s m args below meth c Z own ws bd T' h' k n → Wr h h' a (Jvm.RoadKit.slotOf Z O nm d) v → Fld Z h' a O nm d v → Done p l e R s m args below meth c Z own ws bd Q T' (mkF m pc' Ls st)) : Done p l e R s m args below meth c Z own ws bd Q T (mkF m pc Ls (v :: .ref a :: st)) := by
  obtain ⟨⟨L, X, N'⟩, eT, b, hZ, hx, ho, r⟩ := id P
  obtain ⟨T', h', X', e', W, stp⟩ := putF X hx hZ ho w via eT F E La wi hty hn hf (g := mkF m pc Ls (v :: .ref a :: st)) rfl rfl hd
  subst hp
  exact Done.step stp (K T' h' ⟨⟨_, X', Fw.snoc N' hge⟩, e', by rw [W.size]; exact b, hZ, hx, ho, r⟩ W (F.same W))
theorem wNew {C : String} {index nn : Nat} (P : Pos p l e R s m args below meth c Z own ws bd T h k n) (w : (Cond.classLink own index C).before a0 Z = true) (wi : (Cond.instantiable C nn).before a0 Z = true) (wz : (Cond.initialized C).before a0 Z = true)
    (hd : decode c.code pc = .ok (.new index, 3)) (hp : pc + 3 = pc') (hc : k + 1 ≤ R.cells) (hl : n + nn ≤ R.slots) {k' n' : Nat} (hk' : k + 1 = k') (hn' : n + nn = n')
    (K : ∀ T' h' a, a = h.size → h.size < h'.size → Pos p l e R s m args below meth c Z own ws bd T' h' k' n' → Ext h h' → Exa Z h' a C → (∀ {O nm d : String} {ty : FieldType}, Laid Z a0 C O nm d → parseFieldDescriptor d = some ty → Fld Z h' a O nm d (defaultValue ty)) → Done p l e R s m args below meth c Z own ws bd Q T' (mkF m pc' Ls (.ref a :: st))) : Done p l e R s m args below meth c Z own ws bd Q T (mkF m pc Ls st) := by
  obtain ⟨⟨L, X, N'⟩, eT, b, hZ, hx, ho, hlk, _, _⟩ := id P
  obtain ⟨T', h', X', e', E, A, D, -, stp⟩ := newO X hx hZ ho w wi wz eT (g := mkF m pc Ls st) rfl hd hc hl
  subst hp hk' hn'
  exact Done.step stp (K T' h' h.size rfl A.lt ⟨⟨L, X', N'⟩, e', Nat.le_trans b E.1, hZ, hx, ho, hlk, hc, hl⟩ E A D)
/-- an array by its places' values -/
def Ar (Z : State) (h : Heap) (a : Addr) (ty : FieldType) (n : Nat) (f : Nat → Value) : Prop := ∃ cl : Cell, Arr Z h a cl ty ∧ cl.slots.size = n ∧ n < 2147483648 ∧ ∀ i, i < n → cl.slots[i]? = some (f i)
def oupd {α : Type} (f : Nat → α) (i : Nat) (v : α) : Nat → α := fun j => if j = i then v else f j
theorem oupd_same {α : Type} (f : Nat → α) (i : Nat) (v : α) : oupd f i v i = v := if_pos rfl
theorem oupd_ne {α : Type} {f : Nat → α} {i j : Nat} {v : α} (q : j ≠ i) : oupd f i v j = f j := if_neg q
theorem Ar.lt {a : Addr} {ty : FieldType} {N : Nat} {f : Nat → Value} (A : Ar Z h a ty N f) : a < h.size := by obtain ⟨c, A, -⟩ := A; exact A.lt
theorem Ar.ltN {a : Addr} {ty : FieldType} {N : Nat} {f : Nat → Value} (A : Ar Z h a ty N f) : @LT.lt Nat instLTNat a h.size := A.lt
theorem Ar.ext {a : Addr} {ty : FieldType} {N : Nat} {f : Nat → Value} (A : Ar Z h a ty N f) (E : Ext h h') : Ar Z h' a ty N f := by obtain ⟨c, A, r⟩ := A; exact ⟨c, A.ext E, r⟩
theorem Ar.other {a b : Addr} {sl : Nat} {v : Value} {ty : FieldType} {N : Nat} {f : Nat → Value} (A : Ar Z h b ty N f) (W : Wr h h' a sl v) (q : b ≠ a) : Ar Z h' b ty N f := by obtain ⟨c, A, r⟩ := A; exact ⟨c, A.other W q, r⟩
theorem Ar.keep {a : Addr} {ws : List Addr} {ty : FieldType} {N : Nat} {f : Nat → Value} (A : Ar Z h a ty N f) (K : Keep h h' ws) (q : a ∉ ws) : Ar Z h' a ty N f := by obtain ⟨c, A, r⟩ := A; exact ⟨c, ⟨K.2.1 a c A.1 q, A.2⟩, r⟩
theorem Ar.len {a : Addr} {ty : FieldType} {N : Nat} {f : Nat → Value} (A : Ar Z h a ty N f) : N < 2147483648 := by obtain ⟨c, A, r1, r2, -⟩ := A; exact r2
theorem Ar.congr {a : Addr} {ty : FieldType} {N : Nat} {f g : Nat → Value} (A : Ar Z h a ty N f) (q : ∀ i, i < N → f i = g i) : Ar Z h a ty N g := by obtain ⟨c, A, r1, r2, r3⟩ := A; exact ⟨c, A, r1, r2, fun i hi => by rw [← q i hi]; exact r3 i hi⟩
theorem in_of {cl : Cell} {N i : Nat} {j : Int32} (S : cl.slots.size = N) (hj : j.toInt = (i : Int)) (hi : i < N) : ¬ (j < 0 ∨ cl.slots.size ≤ j.toNatClampNeg) ∧ j.toNatClampNeg = i := by
  have e : j.toNatClampNeg = i := by rw [Int32.toNatClampNeg, hj]; omega
  refine ⟨?_, e⟩
  rw [S, e, Int32.lt_iff_toInt_lt, hj, show (0 : Int32).toInt = 0 from rfl]
  omega
theorem toI32 {N : Nat} (h : N < 2147483648) : (N.toInt32).toInt = (N : Int) := by
  rw [show N.toInt32 = Int32.ofNat N from rfl, Int32.toInt_ofNat_of_lt (by omega)]
theorem wNewA {aty : ArrayType} {z : Int32} {N cap : Nat} (P : Pos p l e R s m args below meth c Z own ws bd T h k n) (w : (Cond.arrayClass (newarray.typeOf aty)).before a0 Z = true) (hd : decode c.code pc = .ok (.newarray aty, 2)) (hp : pc + 2 = pc') (hz : z.toInt = (N : Int)) (hcap : N ≤ cap) (hb : cap * 8 ≤ 536870912) (hc : k + 1 ≤ R.cells) (hl : n + cap ≤ R.slots)
    {ad : String} (had : "[" ++ (newarray.typeOf aty).toString = ad) {ty : FieldType} {dv : Value} (hty : newarray.typeOf aty = ty) (hdv : defaultValue ty = dv) {k' n' : Nat} (hk' : k + 1 = k') (hn' : n + cap = n')
    (K : ∀ T' h' a, a = h.size → h.size < h'.size → Pos p l e R s m args below meth c Z own ws bd T' h' k' n' → Ext h h' → Ar Z h' a ty N (fun _ => dv) → Exa Z h' a ad → Done p l e R s m args below meth c Z own ws bd Q T' (mkF m pc' Ls (.ref a :: st))) : Done p l e R s m args below meth c Z own ws bd Q T (mkF m pc Ls (.int z :: st)) := by
  obtain ⟨⟨L, X, N'⟩, eT, b, hZ, hx, ho, hlk, _, _⟩ := id P
  have hz0 : ¬ z < 0 := by rw [Int32.lt_iff_toInt_lt, hz, show (0 : Int32).toInt = 0 from rfl]; omega
  have hzn : z.toNatClampNeg = N := by rw [Int32.toNatClampNeg, hz]; omega
  have hN := z.toInt_lt
  obtain ⟨T', h', kA, X', e', E, A, Ex, stp⟩ := newPE X hx hZ w eT (g := mkF m pc Ls (.int z :: st)) rfl hd rfl hz0 (by rw [hzn]; exact hcap) hb hc hl had
  subst hp hk' hn' hty hdv
  refine Done.step stp (K T' h' h.size rfl A.lt ⟨⟨L, X', N'⟩, e', Nat.le_trans b E.1, hZ, hx, ho, hlk, hc, hl⟩ E ⟨_, A, by rw [sz_new, hzn], by omega, fun i hi => ?_⟩ Ex)
  simp [newA, hzn, hi]
theorem wLen {ty : FieldType} {N : Nat} {f : Nat → Value} {a : Addr} (P : Pos p l e R s m args below meth c Z own ws bd T h k n) (A : Ar Z h a ty N f) {z : Int32} (hz : z.toInt = (N : Int)) (hd : decode c.code pc = .ok (.arraylength, 1)) (hp : pc + 1 = pc')
    (K : Done p l e R s m args below meth c Z own ws bd Q T (mkF m pc' Ls (.int z :: st))) : Done p l e R s m args below meth c Z own ws bd Q T (mkF m pc Ls (.ref a :: st)) := by
  obtain ⟨⟨L, X, N'⟩, eT, b, hZ, hx, ho, hlk, _, _⟩ := id P
  obtain ⟨cl, Ar, S, hN, H⟩ := A
  subst hp
  refine Done.step (fun t kk => X.arraylength hx (by rw [eT]; exact Ar.1) (State.isArrayOf_alike hZ.alike Ar.2.1) (g := mkF m pc Ls (.ref a :: st)) rfl rfl hd t ?_) K
  rw [S, show N.toInt32 = z from Int32.toInt_inj.mp (by rw [toI32 hN, hz])]
  exact kk
theorem wDaload {N i : Nat} {f : Nat → Value} {a : Addr} {j : Int32} (P : Pos p l e R s m args below meth c Z own ws bd T h k n) (A : Ar Z h a .double N f) (hj : j.toInt = (i : Int)) (hi : i < N) {v : Value} (hv : f i = v) (hd : decode c.code pc = .ok (.daload, 1)) (hp : pc + 1 = pc')
    (K : Done p l e R s m args below meth c Z own ws bd Q T (mkF m pc' Ls (v :: st))) : Done p l e R s m args below meth c Z own ws bd Q T (mkF m pc Ls (.int j :: .ref a :: st)) := by
  obtain ⟨⟨L, X, N'⟩, eT, b, hZ, hx, ho, hlk, _, _⟩ := id P
  obtain ⟨cl, Ar, S, hN, H⟩ := A
  obtain ⟨q1, q2⟩ := in_of S hj hi
  subst hp hv
  exact Done.step (fun t kk => X.daload hx (by rw [eT]; exact Ar.1) (State.isArrayOf_alike hZ.alike Ar.2.1) Ar.2.2 q1 (by rw [q2]; exact H i hi) (g := mkF m pc Ls (.int j :: .ref a :: st)) rfl rfl hd t kk) K
theorem wIaload {N i : Nat} {f : Nat → Value} {a : Addr} {j : Int32} (P : Pos p l e R s m args below meth c Z own ws bd T h k n) (A : Ar Z h a .int N f) (hj : j.toInt = (i : Int)) (hi : i < N) {v : Value} (hv : f i = v) (hd : decode c.code pc = .ok (.iaload, 1)) (hp : pc + 1 = pc')
    (K : Done p l e R s m args below meth c Z own ws bd Q T (mkF m pc' Ls (v :: st))) : Done p l e R s m args below meth c Z own ws bd Q T (mkF m pc Ls (.int j :: .ref a :: st)) := by
  obtain ⟨⟨L, X, N'⟩, eT, b, hZ, hx, ho, hlk, _, _⟩ := id P
  obtain ⟨cl, Ar, S, hN, H⟩ := A
  obtain ⟨q1, q2⟩ := in_of S hj hi
  subst hp hv
  exact Done.step (fun t kk => X.iaload hx (by rw [eT]; exact Ar.1) (State.isArrayOf_alike hZ.alike Ar.2.1) Ar.2.2 q1 (by rw [q2]; exact H i hi) (g := mkF m pc Ls (.int j :: .ref a :: st)) rfl rfl hd t kk) K
theorem wAaload {N i : Nat} {f : Nat → Value} {a : Addr} {j : Int32} {ty : FieldType} (P : Pos p l e R s m args below meth c Z own ws bd T h k n) (A : Ar Z h a ty N f) (hty : ty.isReference = true) (hj : j.toInt = (i : Int)) (hi : i < N) {v : Value} (hv : f i = v) (hd : decode c.code pc = .ok (.aaload, 1)) (hp : pc + 1 = pc')
    (K : Done p l e R s m args below meth c Z own ws bd Q T (mkF m pc' Ls (v :: st))) : Done p l e R s m args below meth c Z own ws bd Q T (mkF m pc Ls (.int j :: .ref a :: st)) := by
  obtain ⟨⟨L, X, N'⟩, eT, b, hZ, hx, ho, hlk, _, _⟩ := id P
  obtain ⟨cl, Ar, S, hN, H⟩ := A
  obtain ⟨q1, q2⟩ := in_of S hj hi
  subst hp hv
  exact Done.step (fun t kk => X.aaload hx (by rw [eT]; exact Ar.1) (State.isArrayOf_alike hZ.alike Ar.2.1) hty Ar.2.2 q1 (by rw [q2]; exact H i hi) (g := mkF m pc Ls (.int j :: .ref a :: st)) rfl rfl hd t kk) K
theorem Ar.set {cl : Cell} {a : Addr} {ty : FieldType} {N i : Nat} {f : Nat → Value} {v : Value} (A : Arr Z h a cl ty) (S : cl.slots.size = N) (hN : N < 2147483648) (H : ∀ i, i < N → cl.slots[i]? = some (f i)) (hi : i < N) (W : Wr h h' a i v) : Ar Z h' a ty N (oupd f i v) := by
  refine ⟨cl.setSlot i v, A.same W, by rw [sz_set]; exact S, hN, fun j hj => ?_⟩
  by_cases q : j = i
  · subst q; rw [oupd_same]; exact Cell.slots_setSlot_self v (by omega)
  · rw [oupd_ne q, Cell.slots_setSlot_ne v (Ne.symm q)]; exact H j hj
theorem wCast {K : String} {index : Nat} {a : Addr} (P : Pos p l e R s m args below meth c Z own ws bd T h k n) (w : (Cond.classLink own index K).before a0 Z = true) (F : Ins Z h a K true) (hd : decode c.code pc = .ok (.checkcast index, 3)) (hp : pc + 3 = pc')
    (K' : ∀ T', Pos p l e R s m args below meth c Z own ws bd T' h k n → Done p l e R s m args below meth c Z own ws bd Q T' (mkF m pc' Ls (.ref a :: st))) : Done p l e R s m args below meth c Z own ws bd Q T (mkF m pc Ls (.ref a :: st)) := by
  obtain ⟨⟨L, X, N'⟩, eT, b, hZ, hx, ho, r⟩ := id P
  obtain ⟨T', X', e', stp⟩ := castY X hx hZ ho w eT F (g := mkF m pc Ls (.ref a :: st)) rfl rfl hd
  subst hp
  exact Done.step stp (K' T' ⟨⟨L, X', N'⟩, e', b, hZ, hx, ho, r⟩)
theorem wANewA {C ad : String} {ty : FieldType} {index : Nat} {z : Int32} {N cap : Nat} (P : Pos p l e R s m args below meth c Z own ws bd T h k n) (hC : (FieldType.array ty).toString = C) (w1 : (Cond.classLink own index C).before a0 Z = true) (w2 : (Cond.arrayOver (.array ty)).before a0 Z = true) (hd : decode c.code pc = .ok (.anewarray index, 3)) (hp : pc + 3 = pc') (hz : z.toInt = (N : Int)) (hcap : N ≤ cap) (hb : cap * 8 ≤ 536870912) (hc : k + 1 ≤ R.cells) (hl : n + cap ≤ R.slots)
    (had : "[" ++ C = ad) {k' n' : Nat} (hk' : k + 1 = k') (hn' : n + cap = n')
    (K : ∀ T' h' a, a = h.size → h.size < h'.size → Pos p l e R s m args below meth c Z own ws bd T' h' k' n' → Ext h h' → Ar Z h' a (.array ty) N (fun _ => .null) → Exa Z h' a ad → Done p l e R s m args below meth c Z own ws bd Q T' (mkF m pc' Ls (.ref a :: st))) : Done p l e R s m args below meth c Z own ws bd Q T (mkF m pc Ls (.int z :: st)) := by
  obtain ⟨⟨L, X, N'⟩, eT, b, hZ, hx, ho, hlk, _, _⟩ := id P
  have hz0 : ¬ z < 0 := by rw [Int32.lt_iff_toInt_lt, hz, show (0 : Int32).toInt = 0 from rfl]; omega
  have hzn : z.toNatClampNeg = N := by rw [Int32.toNatClampNeg, hz]; omega
  have hN := z.toInt_lt
  obtain ⟨T', h', kA, X', e', E, A, Ex, _, stp⟩ := newRA X hx hZ ho hC w1 w2 eT (g := mkF m pc Ls (.int z :: st)) rfl hd rfl hz0 (by rw [hzn]; exact hcap) hb hc hl had
  subst hp hk' hn'
  refine Done.step stp (K T' h' h.size rfl A.lt ⟨⟨L, X', N'⟩, e', Nat.le_trans b E.1, hZ, hx, ho, hlk, hc, hl⟩ E ⟨_, A, by rw [sz_new, hzn], by omega, fun i hi => ?_⟩ Ex)
  simp [newA, hzn, hi, defaultValue]
theorem sto_arr {a y : Addr} {C ad : String} {t0 ty : FieldType} {N : Nat} {f : Nat → Value} (A : Ar Z h a t0 N f) (E : Exa Z h a ad) (hC : (FieldType.array ty).toString = C) (had : "[" ++ C = ad) (w2 : (Cond.arrayOver (.array ty)).before a0 Z = true) (I : Ins Z h y C true) : Sto Z h a (.ref y) := by
  obtain ⟨cl, A', -⟩ := A
  obtain ⟨comp, c', k', g1, -, g3, g4, g5⟩ := arrayOver_specB w2
  obtain ⟨cell, kE, e1, e2, e3, -⟩ := E
  subst had hC
  cases e1.symm.trans A'.1
  have q := Option.some.inj (e2.symm.trans g5)
  exact Sto.ofVA A' rfl ⟨k', comp, by rw [q]; exact g3, g4, g1⟩ I
theorem wInit {index : Nat} {a : Addr} {W : Nat} (P : Pos p l e R s m args below meth c Z own ws bd T h k n) (w1 : (Cond.methodLink own index Lib.objectInit).before a0 Z = true) (w2 : (Cond.instanceMethod Lib.objectInit).before a0 Z = true) (w3 : (Cond.code Lib.objectInit ⟨#[0xb1]⟩ 1 none).before a0 Z = true) (hml : Ls.size = c.maxLocals)
    (hd : decode c.code pc = .ok (.invokespecial index, 3)) (hf : 1 ≤ R.frames) (hW : (st.map fun v => v.category).sum ≤ W) (hl : W + 12 ≤ R.locals) (hp : pc + 3 = pc')
    (K : ∀ T', Pos p l e R s m args below meth c Z own ws bd T' h k n → Done p l e R s m args below meth c Z own ws bd Q T' (mkF m pc' Ls st)) : Done p l e R s m args below meth c Z own ws bd Q T (mkF m pc Ls (.ref a :: st)) := by
  obtain ⟨⟨L, X, N'⟩, eT, b, hZ, hx, ho, r⟩ := id P
  obtain ⟨T', X', e', stp⟩ := initO X hx hZ ho w1 w2 w3 eT (g := mkF m pc Ls (.ref a :: st)) rfl hml rfl hd hf (W := W) (by show 2 * 0 + _ ≤ _; omega) hl
  subst hp
  exact Done.step stp (K T' ⟨⟨L, X', N'⟩, e', b, hZ, hx, ho, r⟩)
theorem wCallS {y : MethodName} {bytes : ByteArray} {maxL : Nat} {ret : Option FieldType} {rm : Room} {as' : Array Value} {ws' : List Addr} {Q' : Option Value → Heap → Prop} {index W : Nat} {argsL rest stk : List Value} (P : Pos p l e R s m args below meth c Z own ws bd T h k n) (M : OMet l y bytes maxL ret [] rm Z h ws' as' Q')
    (w1 : (Cond.methodLink own index y).before a0 Z = true) (w2 : (Cond.static y).before a0 Z = true) (w3 : (Cond.initialized y.cls).before a0 Z = true) (w4 : (Cond.code y bytes maxL ret).before a0 Z = true) (hy : y.cls ≠ "java/lang/invoke/MethodHandle" ∧ y.cls ≠ "java/lang/invoke/VarHandle") (hml : Ls.size = c.maxLocals)
    (hlen : ∀ sig, parseMethodDescriptor y.desc = some sig → argsL.length = sig.parameters.length) (has : (argsL).toArray = as') (hst : stk = argsL.reverse ++ rest) (hW : (rest.map fun v => v.category).sum ≤ W) (hf : rm.frames + 1 ≤ R.frames) (hl : W + (maxL + 11) + rm.locals ≤ R.locals) (hc : k + rm.cells ≤ R.cells) (hs : n + rm.slots ≤ R.slots)
    (hws : ∀ x ∈ ws', x ∈ ws ∨ bd ≤ x) (hd : decode c.code pc = .ok (.invokestatic index, 3)) (hp : pc + 3 = pc') {k' n' : Nat} (hk' : k + rm.cells = k') (hn' : n + rm.slots = n')
    (K : ∀ T' h' v, Pos p l e R s m args below meth c Z own ws bd T' h' k' n' → Keep h h' ws' → Q' v h' → Done p l e R s m args below meth c Z own ws bd Q T' (mkF m pc' Ls (v.toList ++ rest))) : Done p l e R s m args below meth c Z own ws bd Q T (mkF m pc Ls stk) := by
  obtain ⟨⟨L, X, N'⟩, eT, b, hZ, hx, ho, hlk, _, _⟩ := id P
  subst hst has hp hk' hn'
  obtain ⟨v, _, ⟨T', L', k1, n1⟩, -, X', ⟨Lc, hq, l', y', z'⟩, stp⟩ := Jvm.LawKit.callS X hx (y := y) ho (mvT hZ w1) (mvT hZ w2) (mvT hZ w3) (mvT hZ w4) hy (backOf (W := W) (Q := fun v h' L => Q' v h' ∧ Fw ws' h.size L ∧ Keep h h' ws') M hZ w4 w3 hf hl) (g := mkF m pc Ls (argsL.reverse ++ rest)) rfl hml (argsL := argsL) (rest := rest) hlen rfl (by show 2 * 0 + _ ≤ _; omega) hd (fun _ _ => ⟨rfl, eT, hc, hs⟩)
  dsimp only [Pt.U, Pt.locs, Pt.cells, Pt.slots] at X' l' y' z' stp hq
  subst l' y' z'
  exact Done.step (stp) (K T' T'.heap v ⟨⟨_, X', N'.app fun y hy => (hq.2.1 y hy).elim (fun q => hws _ q) (fun q => Or.inr (Nat.le_trans b q))⟩, rfl, Nat.le_trans b hq.2.2.1, hZ, hx, ho, hlk, hc, hs⟩ hq.2.2 hq.1)
theorem wCallI {y : MethodName} {bytes : ByteArray} {maxL : Nat} {rm : Room} {as' : Array Value} {ws' : List Addr} {Q' : Option Value → Heap → Prop} {index W : Nat} {argsL rest stk : List Value} {a : Addr} (P : Pos p l e R s m args below meth c Z own ws bd T h k n) (M : OMet l y bytes maxL none [] rm Z h ws' as' Q')
    (hyn : y.name = "<init>") (w1 : (Cond.methodLink own index y).before a0 Z = true) (w2 : (Cond.instanceMethod y).before a0 Z = true) (w3 : (Cond.initialized y.cls).before a0 Z = true) (w4 : (Cond.code y bytes maxL none).before a0 Z = true) (hy : y.cls ≠ "java/lang/invoke/MethodHandle" ∧ y.cls ≠ "java/lang/invoke/VarHandle") (hml : Ls.size = c.maxLocals)
    (hlen : ∀ sig, parseMethodDescriptor y.desc = some sig → argsL.length = sig.parameters.length) (has : (.ref a :: argsL).toArray = as') (hst : stk = argsL.reverse ++ .ref a :: rest) (hW : (rest.map fun v => v.category).sum ≤ W) (hf : rm.frames + 1 ≤ R.frames) (hl : W + (maxL + 11) + rm.locals ≤ R.locals) (hc : k + rm.cells ≤ R.cells) (hs : n + rm.slots ≤ R.slots)
    (hws : ∀ x ∈ ws', x ∈ ws ∨ bd ≤ x) (hd : decode c.code pc = .ok (.invokespecial index, 3)) (hp : pc + 3 = pc') {k' n' : Nat} (hk' : k + rm.cells = k') (hn' : n + rm.slots = n')
    (K : ∀ T' h' v, Pos p l e R s m args below meth c Z own ws bd T' h' k' n' → Keep h h' ws' → Q' v h' → Done p l e R s m args below meth c Z own ws bd Q T' (mkF m pc' Ls (v.toList ++ rest))) : Done p l e R s m args below meth c Z own ws bd Q T (mkF m pc Ls stk) := by
  obtain ⟨⟨L, X, N'⟩, eT, b, hZ, hx, ho, hlk, _, _⟩ := id P
  subst hst has hp hk' hn'
  obtain ⟨v, _, ⟨T', L', k1, n1⟩, -, X', ⟨Lc, hq, l', y', z'⟩, stp⟩ := X.specialBack hx (y := y) hyn ho (mvT hZ w1) (mvT hZ w2) (mvT hZ w4) hy (backOf (W := W) (Q := fun v h' L => Q' v h' ∧ Fw ws' h.size L ∧ Keep h h' ws') M hZ w4 w3 hf hl) (g := mkF m pc Ls (argsL.reverse ++ .ref a :: rest)) rfl hml (Steps.refl _) (a := a) (argsL := argsL) (rest := rest) hlen rfl (by show 2 * 0 + _ ≤ _; omega) hd (fun _ _ => ⟨rfl, eT, hc, hs⟩)
  dsimp only [Pt.U, Pt.locs, Pt.cells, Pt.slots] at X' l' y' z' stp hq
  subst l' y' z'
  exact Done.step (fun t kk => stp.trans kk) (K T' T'.heap v ⟨⟨_, X', N'.app fun y hy => (hq.2.1 y hy).elim (fun q => hws _ q) (fun q => Or.inr (Nat.le_trans b q))⟩, rfl, Nat.le_trans b hq.2.2.1, hZ, hx, ho, hlk, hc, hs⟩ hq.2.2 hq.1)
theorem wCallV {y : MethodName} {bytes : ByteArray} {maxL : Nat} {ret : Option FieldType} {rm : Room} {as' : Array Value} {ws' : List Addr} {Q' : Option Value → Heap → Prop} {index W : Nat} {argsL rest stk : List Value} {z : MethodName} {C : String} {a : Addr} (P : Pos p l e R s m args below meth c Z own ws bd T h k n) (M : OMet l z bytes maxL ret [] rm Z h ws' as' Q')
    (w1 : (Cond.methodLink own index y).before a0 Z = true) (w2 : (Cond.declares y).before a0 Z = true) (w5 : (Cond.selects C y z).before a0 Z = true) {D : String} (w7 : (Cond.selects D y y).before a0 Z = true) (w6 : (Cond.instanceMethod z).before a0 Z = true) (w3 : (Cond.initialized z.cls).before a0 Z = true) (w4 : (Cond.code z bytes maxL ret).before a0 Z = true) (hy : y.cls ≠ "java/lang/invoke/MethodHandle" ∧ y.cls ≠ "java/lang/invoke/VarHandle") (E : Exa Z h a C) (hml : Ls.size = c.maxLocals)
    (hlen : ∀ sig, parseMethodDescriptor y.desc = some sig → argsL.length = sig.parameters.length) (has : (.ref a :: argsL).toArray = as') (hst : stk = argsL.reverse ++ .ref a :: rest) (hW : (rest.map fun v => v.category).sum ≤ W) (hf : rm.frames + 1 ≤ R.frames) (hl : W + (maxL + 11) + rm.locals ≤ R.locals) (hc : k + rm.cells ≤ R.cells) (hs : n + rm.slots ≤ R.slots)
    (hws : ∀ x ∈ ws', x ∈ ws ∨ bd ≤ x) (hd : decode c.code pc = .ok (.invokevirtual index, 3)) (hp : pc + 3 = pc') {k' n' : Nat} (hk' : k + rm.cells = k') (hn' : n + rm.slots = n')
    (K : ∀ T' h' v, Pos p l e R s m args below meth c Z own ws bd T' h' k' n' → Keep h h' ws' → Q' v h' → Done p l e R s m args below meth c Z own ws bd Q T' (mkF m pc' Ls (v.toList ++ rest))) : Done p l e R s m args below meth c Z own ws bd Q T (mkF m pc Ls stk) := by
  obtain ⟨⟨L, X, N'⟩, eT, b, hZ, hx, ho, hlk, _, _⟩ := id P
  subst hst has hp hk' hn'
  obtain ⟨cq, kq, qa, qb, qc⟩ := isOf hZ eT E
  obtain ⟨v, _, ⟨T', L', k1, n1⟩, -, X', ⟨Lc, hq, l', y', z'⟩, stp⟩ := X.virtualBack hx (y := y) (z := z) ho (mvT hZ w1) (mvT hZ w2) (notFace_of_selects (args := #[]) (mvT hZ w7)) (mvT hZ w5) (mvT hZ w6) hy (backOf (W := W) (Q := fun v h' L => Q' v h' ∧ Fw ws' h.size L ∧ Keep h h' ws') M hZ w4 w3 hf hl) qa qc (g := mkF m pc Ls (argsL.reverse ++ .ref a :: rest)) rfl hml (Steps.refl _) (argsL := argsL) (rest := rest) hlen rfl (by show 2 * 0 + _ ≤ _; omega) hd (fun _ _ => ⟨rfl, eT, hc, hs⟩)
  dsimp only [Pt.U, Pt.locs, Pt.cells, Pt.slots] at X' l' y' z' stp hq
  subst l' y' z'
  exact Done.step (fun t kk => stp.trans kk) (K T' T'.heap v ⟨⟨_, X', N'.app fun y hy => (hq.2.1 y hy).elim (fun q => hws _ q) (fun q => Or.inr (Nat.le_trans b q))⟩, rfl, Nat.le_trans b hq.2.2.1, hZ, hx, ho, hlk, hc, hs⟩ hq.2.2 hq.1)
theorem wCallP {y : MethodName} {bytes : ByteArray} {maxL : Nat} {ret : Option FieldType} {rm : Room} {as' : Array Value} {ws' : List Addr} {Q' : Option Value → Heap → Prop} {index W kk : Nat} {argsL rest stk : List Value} {a : Addr} {C : String} (P : Pos p l e R s m args below meth c Z own ws bd T h k n) (M : OMet l y bytes maxL ret [] rm Z h ws' as' Q')
    (w1 : (Cond.methodLink own index y).before a0 Z = true) (w2 : (Cond.instanceMethod y).before a0 Z = true) (w5 : (Cond.privateMethod y).before a0 Z = true) (wi : (Cond.instantiable y.cls kk).before a0 Z = true) (w3 : (Cond.initialized y.cls).before a0 Z = true) (w4 : (Cond.code y bytes maxL ret).before a0 Z = true) (hy : y.cls ≠ "java/lang/invoke/MethodHandle" ∧ y.cls ≠ "java/lang/invoke/VarHandle") (E : Exa Z h a C) (hml : Ls.size = c.maxLocals)
    (hlen : ∀ sig, parseMethodDescriptor y.desc = some sig → argsL.length = sig.parameters.length) (has : (.ref a :: argsL).toArray = as') (hst : stk = argsL.reverse ++ .ref a :: rest) (hW : (rest.map fun v => v.category).sum ≤ W) (hf : rm.frames + 1 ≤ R.frames) (hl : W + (maxL + 11) + rm.locals ≤ R.locals) (hc : k + rm.cells ≤ R.cells) (hs : n + rm.slots ≤ R.slots)
    (hws : ∀ x ∈ ws', x ∈ ws ∨ bd ≤ x) (hd : decode c.code pc = .ok (.invokevirtual index, 3)) (hp : pc + 3 = pc') {k' n' : Nat} (hk' : k + rm.cells = k') (hn' : n + rm.slots = n')
    (K : ∀ T' h' v, Pos p l e R s m args below meth c Z own ws bd T' h' k' n' → Keep h h' ws' → Q' v h' → Done p l e R s m args below meth c Z own ws bd Q T' (mkF m pc' Ls (v.toList ++ rest))) : Done p l e R s m args below meth c Z own ws bd Q T (mkF m pc Ls stk) := by
  obtain ⟨⟨L, X, N'⟩, eT, b, hZ, hx, ho, hlk, _, _⟩ := id P
  subst hst has hp hk' hn'
  obtain ⟨cl, hcl, hst⟩ := E.cell
  have hpr : s.PrivateAt y := Cond.privateMethod_at (mvP hZ w5 (args := #[]))
  obtain ⟨ci, ki, hi1, hi2, -, hi3, -⟩ := Cond.instantiable_spec (mvT hZ wi : (Cond.instantiable y.cls kk).before args s = true)
  have hsel : (Cond.selects y.cls y y).before args s = true := selects_self_of_private hi1 hi2 (by simp only [Bool.or_eq_false_iff] at hi3; exact hi3.1) hpr (mvT hZ w2) hy
  obtain ⟨v, _, ⟨T', L', k1, n1⟩, -, X', ⟨Lc, hq, l', y', z'⟩, stp⟩ := X.privateBack hx (y := y) ho (mvT hZ w1) (mvT hZ w2) hsel hpr (mvT hZ w4) hy (backOf (W := W) (Q := fun v h' L => Q' v h' ∧ Fw ws' h.size L ∧ Keep h h' ws') M hZ w4 w3 hf hl) (g := mkF m pc Ls (argsL.reverse ++ .ref a :: rest)) rfl hml (Steps.refl _) (a := a) (by rw [eT]; exact hcl) hst (argsL := argsL) (rest := rest) hlen rfl (by show 2 * 0 + _ ≤ _; omega) hd (fun _ _ => ⟨rfl, eT, hc, hs⟩)
  dsimp only [Pt.U, Pt.locs, Pt.cells, Pt.slots] at X' l' y' z' stp hq
  subst l' y' z'
  exact Done.step (fun t kk => stp.trans kk) (K T' T'.heap v ⟨⟨_, X', N'.app fun y hy => (hq.2.1 y hy).elim (fun q => hws _ q) (fun q => Or.inr (Nat.le_trans b q))⟩, rfl, Nat.le_trans b hq.2.2.1, hZ, hx, ho, hlk, hc, hs⟩ hq.2.2 hq.1)
/-- a call that the machine answers itself -/
theorem wNat {y : MethodName} {by0 : ByteArray} {ml : Nat} {rt : Option FieldType} {index W : Nat} {F : Array Value → Prop} {val : Value} {argsL rest stk : List Value} (P : Pos p l e R s m args below meth c Z own ws bd T h k n)
    (w1 : (Cond.methodLink own index y).before a0 Z = true) (w2 : (Cond.static y).before a0 Z = true) (w3 : (Cond.initialized y.cls).before a0 Z = true) (w4 : (Cond.code y by0 ml rt).before a0 Z = true) (hy : y.cls ≠ "java/lang/invoke/MethodHandle" ∧ y.cls ≠ "java/lang/invoke/VarHandle")
    (hK : (Cond.code y by0 ml rt).before args s = true → Back l R p e below s args y 3 W (fun A a' => A.cells ≤ R.cells ∧ A.slots ≤ R.slots ∧ F a') (fun A _ v B => v = some val ∧ B = A)) (hml : Ls.size = c.maxLocals)
    (hlen : ∀ sig, parseMethodDescriptor y.desc = some sig → argsL.length = sig.parameters.length) (hst : stk = argsL.reverse ++ rest) (hW : (rest.map fun v => v.category).sum ≤ W) (hd : decode c.code pc = .ok (.invokestatic index, 3)) (hp : pc + 3 = pc') (hF : F argsL.toArray)
    (K : ∀ T', Pos p l e R s m args below meth c Z own ws bd T' h k n → Done p l e R s m args below meth c Z own ws bd Q T' (mkF m pc' Ls (val :: rest))) : Done p l e R s m args below meth c Z own ws bd Q T (mkF m pc Ls stk) := by
  obtain ⟨⟨L, X, N'⟩, eT, b, hZ, hx, ho, hlk, hc, hs⟩ := id P
  subst hst hp
  obtain ⟨T', X', e', stp⟩ := natS X hx hZ ho w1 w2 w3 w4 hy eT hK (g := mkF m pc Ls (argsL.reverse ++ rest)) rfl hml hlen rfl (by show 2 * 0 + _ ≤ _; omega) hd hc hs hF rfl
  exact Done.step stp (K T' ⟨⟨L, X', N'⟩, e', b, hZ, hx, ho, hlk, hc, hs⟩)
theorem Fw.toFr {bd : Nat} {L : List Loc} (N : Fw [] bd L) : Fr bd L := fun y hy => (N y hy).resolve_left (by simp)
theorem Fw.ofFr {ws : List Addr} {bd : Nat} {L : List Loc} (N : Fr bd L) : Fw ws bd L := fun y hy => Or.inr (N y hy)
theorem n32 {N : Nat} (h : N < 2147483648) : ¬ Int32.ofNat N < 0 ∧ (Int32.ofNat N).toNatClampNeg = N := by
  have e : (Int32.ofNat N).toInt = (N : Int) := Int32.toInt_ofNat_of_lt (by omega)
  refine ⟨?_, by rw [Int32.toNatClampNeg, e]; omega⟩
  rw [Int32.lt_iff_toInt_lt, e, show (0 : Int32).toInt = 0 from rfl]; omega
theorem Ar.toArv {a : Addr} {ty : FieldType} {N : Nat} {f : Nat → Value} (A : Ar Z h a ty N f) (dv : Value) (hf : ∀ i, fits ty (f i) = true) (hd : fits ty dv = true) : ∃ kA, Arv Z h a kA ty (Int32.ofNat N) ((List.range N).map f) dv := by
  obtain ⟨cl, Ar, S, hN, H⟩ := A
  have g : ∀ i, i < N → ((List.range N).map f).getD i dv = f i := fun i hi => by simp [List.getD_eq_getElem?_getD, hi]
  refine ⟨cl.cls, cl, Ar, rfl, by rw [(n32 hN).2, S], (n32 hN).1, fun i hi => ?_, fun i hi => ?_⟩
  · rw [g i (by omega)]; exact H i (by omega)
  · rw [g i (by omega)]; exact hf i
theorem Ar.ofArv {a : Addr} {ty : FieldType} {kA : ClassId} {N : Nat} {vs : List Value} {dv : Value} (hN : N < 2147483648) (A : Arv Z h a kA ty (Int32.ofNat N) vs dv) : Ar Z h a ty N (fun i => vs.getD i dv) := by
  obtain ⟨cl, Ar, -, S, -, H, -⟩ := A
  rw [(n32 hN).2] at S
  exact ⟨cl, Ar, S, hN, fun i hi => H i (by omega)⟩
theorem pLdcJ {index : Nat} {v : Int64} {t : State} (P : Pos p l e R s m args below meth c Z own ws bd T h k n) (w : (Cond.constantLong own index v).before a0 Z = true) (hd : decode c.code pc = .ok (.ldc2_w index, 3)) (hp : pc + 3 = pc') (kk : Steps p.tables e below (T.setTop (mkF m pc' Ls (.long v :: st))) t) : Steps p.tables e below (T.setTop (mkF m pc Ls st)) t := by
  obtain ⟨⟨L, X, N'⟩, eT, b, hZ, hx, ho, hlk, _, _⟩ := id P
  subst hp
  exact X.ldc2J hx ho (mvT hZ w) (g := mkF m pc Ls st) rfl hd kk
theorem pLdcD {index : Nat} {v : UInt64} {t : State} (P : Pos p l e R s m args below meth c Z own ws bd T h k n) (w : (Cond.constantDouble own index v).before a0 Z = true) (hd : decode c.code pc = .ok (.ldc2_w index, 3)) (hp : pc + 3 = pc') (kk : Steps p.tables e below (T.setTop (mkF m pc' Ls (.double v :: st))) t) : Steps p.tables e below (T.setTop (mkF m pc Ls st)) t := by
  obtain ⟨⟨L, X, N'⟩, eT, b, hZ, hx, ho, hlk, _, _⟩ := id P
  subst hp
  exact X.ldc2DoubleC hx ho (mvT hZ w) (g := mkF m pc Ls st) rfl hd t kk
end A
theorem iiW_gt_t {x y : Int32} (h : y < x) : if_icmp.holds .gt x y = true := (tlt h).2.2.1
theorem iiW_gt_f {x y : Int32} (h : ¬ (y < x)) : if_icmp.holds .gt x y = false := (flt h).2.2.1
theorem iiW_eq_t {x y : Int32} (h : x = y) : if_icmp.holds .eq x y = true := (teq h).1
theorem iiW_eq_f {x y : Int32} (h : ¬ (x = y)) : if_icmp.holds .eq x y = false := (feq h).1
theorem iiW_ne_t {x y : Int32} (h : ¬ (x = y)) : if_icmp.holds .ne x y = true := (feq h).2
theorem iiW_ne_f {x y : Int32} (h : ¬ ¬ (x = y)) : if_icmp.holds .ne x y = false := (teq (Decidable.not_not.mp h)).2
theorem i0W_eq_t {x : Int32} (h : x = (0 : Int32)) : ifCond.holds .eq x = true := (if0 _ _).trans (iiW_eq_t h)
theorem i0W_eq_f {x : Int32} (h : ¬ (x = (0 : Int32))) : ifCond.holds .eq x = false := (if0 _ _).trans (iiW_eq_f h)
theorem i0W_ne_t {x : Int32} (h : ¬ (x = (0 : Int32))) : ifCond.holds .ne x = true := (if0 _ _).trans (iiW_ne_t h)
theorem i0W_ne_f {x : Int32} (h : ¬ ¬ (x = (0 : Int32))) : ifCond.holds .ne x = false := (if0 _ _).trans (iiW_ne_f h)
/-- how two whole numbers compare, as dcmp pushes it -/
def cmpZ (i j : Int) : Int32 := if i < j then -1 else if i = j then 0 else 1
theorem cmpZ_eq (i j : Int) : cmpZ i j = (0 : Int32) ↔ i = j := by
  unfold cmpZ
  by_cases h1 : i < j
  · rw [if_pos h1]; exact ⟨fun q => absurd q (by decide), fun q => by omega⟩
  · rw [if_neg h1]
    by_cases h2 : i = j
    · rw [if_pos h2]; exact ⟨fun _ => h2, fun _ => rfl⟩
    · rw [if_neg h2]; exact ⟨fun q => absurd q (by decide), fun q => absurd q h2⟩
section B
variable {C : Prop} [Decidable C]
end B
theorem narrow_refT {v : Value} {t : FieldType} (h : v.isRef = true) : narrow t v = v := by cases v <;> first | (simp [Value.isRef] at h; done) | (cases t <;> rfl)
theorem fits_refT {v : Value} {t : FieldType} (h : v.isRef = true) (ht : t.isReference = true) : fits t v = true := by cases v <;> first | (simp [Value.isRef] at h; done) | (cases t <;> first | rfl | (simp [FieldType.isReference] at ht; done))
section C
open Jvm.FP Jvm.FP.Core Jvm.Free.Fl
theorem dint_c0 : DInt 0 FP.dconst0 := by
  have h := i2d_int 0
  rwa [show Core.i2d 0 = FP.dconst0 from by decide +kernel] at h
theorem nnD {i : Int} {a : UInt64} (h : DInt i a) : NoNaN64 a := val64_no.mpr (DInt_ne_nan h)
end C
end Jvm.OwnW
namespace Jvm.OwnW
section Fp
open Jvm.FP Jvm.FP.Core Jvm.Free.Fl Jvm.ClassFile Jvm.Op
/-- the exponent moved by k -/
def sc (k : Int) : Datum → Datum
  | .fin s c q => .fin s c (q + k)
  | .inf s => .inf s
  | .nan => .nan
/-- the double a is i / 2^k, exactly -/
def DY (i : Int) (k : Int) (a : UInt64) : Prop := Whole i (sc k (val64 a))
theorem sc_zero (d : Datum) : sc 0 d = d := by cases d <;> simp [sc]
theorem DY.of_int {i : Int} {a : UInt64} (h : DInt i a) : DY i 0 a := by unfold DY; rw [sc_zero]; exact h
theorem DY.to_int {i : Int} {a : UInt64} (h : DY i 0 a) : DInt i a := by unfold DY at h; rw [sc_zero] at h; exact h
theorem units_sc (k : Int) (c : Nat) (q e : Int) : inUnits c (q + k) (e + k) = inUnits c q e := by
  unfold inUnits; rw [show q + k - (e + k) = q - e by omega]
theorem sc_sum (k : Int) (x y : Datum) : sc k (exactSum x y) = exactSum (sc k x) (sc k y) := by
  cases x with
  | nan => rfl
  | inf s => cases y with
    | nan => rfl
    | inf t => by_cases z : s = t <;> simp only [exactSum, sc, z, if_true, if_false]
    | fin t d r => rfl
  | fin s c q => cases y with
    | nan => rfl
    | inf t => rfl
    | fin t d r =>
      have e : min (q + k) (r + k) = min q r + k := by omega
      simp only [exactSum, sc, sumUnits]
      rw [e, units_sc, units_sc]
theorem sc_prod (k l : Int) (x y : Datum) : sc (k + l) (exactProduct x y) = exactProduct (sc k x) (sc l y) := by
  cases x with
  | nan => rfl
  | inf s => cases y with
    | nan => rfl
    | inf t => rfl
    | fin t d r => by_cases z : d = 0 <;> simp only [exactProduct, sc, z, if_true, if_false]
  | fin s c q => cases y with
    | nan => rfl
    | inf t => by_cases z : c = 0 <;> simp only [exactProduct, sc, z, if_true, if_false]
    | fin t d r =>
      simp only [exactProduct, sc]
      rw [show q + r + (k + l) = q + k + (r + l) by omega]
theorem sc_negate (k : Int) (x : Datum) : sc k (negate x) = negate (sc k x) := by cases x <;> rfl
theorem sc_order (k : Int) (x y : Datum) : order (sc k x) (sc k y) = order x y := by
  cases x with
  | nan => rfl
  | inf s => cases y <;> rfl
  | fin s c q => cases y with
    | nan => rfl
    | inf t => rfl
    | fin t d r =>
      have e : min (q + k) (r + k) = min q r + k := by omega
      simp only [order, sc]
      rw [e, units_sc, units_sc]
theorem pow_cancel {c n a b : Nat} (h : c * 2 ^ a = n * 2 ^ b) : c * 2 ^ (a - b) = n * 2 ^ (b - a) := by
  rcases Nat.le_total a b with q | q
  · obtain ⟨t, rfl⟩ := Nat.exists_eq_add_of_le q
    rw [Nat.pow_add, show n * (2 ^ a * 2 ^ t) = n * 2 ^ t * 2 ^ a by ac_rfl] at h
    have := Nat.eq_of_mul_eq_mul_right (Nat.two_pow_pos a) h
    rw [show a - (a + t) = 0 by omega, show a + t - a = t by omega, this]; simp
  · obtain ⟨t, rfl⟩ := Nat.exists_eq_add_of_le q
    rw [Nat.pow_add, show c * (2 ^ b * 2 ^ t) = c * 2 ^ t * 2 ^ b by ac_rfl] at h
    have := Nat.eq_of_mul_eq_mul_right (Nat.two_pow_pos b) h
    rw [show b - (b + t) = 0 by omega, show b + t - b = t by omega, this]; simp
theorem signed_of {i : Int} {s : Bool} {c : Nat} {q : Int} (h : Whole i (.fin s c q)) : signed s i.natAbs = i := by
  by_cases hi : i = 0
  · rw [hi]; exact signed_zero s
  · rw [whole_sign h hi]
    unfold signed
    by_cases h : i < 0 <;> simp [h] <;> omega
/-- a rounded datum of the value (-1)^s * n / 2^k is that number, where n has at most 53 digits -/
theorem whole_of_round {s : Bool} {i k : Int} (hs : signed s i.natAbs = i) (hi : i.natAbs < 2 ^ 53) (h1 : k ≤ 1074) (h2 : -971 ≤ k) : Whole i (sc k (round b64 (.fin s i.natAbs (-k)))) := by
  obtain ⟨c', q', e2, e3⟩ := round_exact good_b64 s (c := i.natAbs) (q := -k) hi (by rw [qmin_b64]; omega) (by rw [show b64.qmax = 971 by decide]; omega)
  have hf := round_fits good_b64 (.fin s i.natAbs (-k))
  rw [e2] at hf
  have hq : b64.qmin ≤ q' := hf.2.1
  rw [e2]
  rw [qmin_b64] at hq
  unfold inUnits at e3
  rw [qmin_b64] at e3
  have h3 := pow_cancel e3
  show signed s (c' * 2 ^ (q' + k).toNat) = i * ((2 ^ (-(q' + k)).toNat : Nat) : Int)
  rw [show (q' + k).toNat = (q' - -1074).toNat - (-k - -1074).toNat by omega, show (-(q' + k)).toNat = (-k - -1074).toNat - (q' - -1074).toNat by omega, h3, signed_mul, hs]
theorem sc_round {i k : Int} {d : Datum} (h : Whole i (sc k d)) (hi : i.natAbs < 2 ^ 53) (h1 : k ≤ 1074) (h2 : -971 ≤ k) : Whole i (sc k (round b64 d)) := by
  cases d with
  | nan => exact h.elim
  | inf => exact h.elim
  | fin s c q =>
    have h' : Whole i (.fin s c (q + k)) := h
    have h0 := whole_natAbs h'
    have e1 : round b64 (.fin s c q) = round b64 (.fin s i.natAbs (-k)) := by
      refine roundRatio_congr (by decide) (by decide) ?_
      rw [show (q - -k).toNat = (q + k).toNat by omega, show (-k - q).toNat = (-(q + k)).toNat by omega]
      simpa using h0
    rw [e1]
    exact whole_of_round (signed_of h') hi h1 h2
theorem dadd_dy {i j k : Int} {a b : UInt64} (ha : DY i k a) (hb : DY j k b) (h : (i + j).natAbs < 2 ^ 53) (h1 : k ≤ 1074) (h2 : -971 ≤ k) : DY (i + j) k (FP.dadd a b) := by
  unfold DY at *
  rw [show val64 (FP.dadd a b) = round b64 (exactSum (val64 a) (val64 b)) from val64_dadd a b]
  exact sc_round (by rw [sc_sum]; exact whole_sum ha hb) h h1 h2
theorem dsub_dy {i j k : Int} {a b : UInt64} (ha : DY i k a) (hb : DY j k b) (h : (i - j).natAbs < 2 ^ 53) (h1 : k ≤ 1074) (h2 : -971 ≤ k) : DY (i - j) k (FP.dsub a b) := by
  unfold DY at *
  rw [show val64 (FP.dsub a b) = round b64 (exactSum (val64 a) (negate (val64 b))) from val64_dsub a b]
  exact sc_round (by rw [sc_sum, sc_negate]; exact whole_sum ha (whole_negate hb)) h h1 h2
theorem dmul_dy {i j k l : Int} {a b : UInt64} (ha : DY i k a) (hb : DY j l b) (h : (i * j).natAbs < 2 ^ 53) (h1 : k + l ≤ 1074) (h2 : -971 ≤ k + l) : DY (i * j) (k + l) (FP.dmul a b) := by
  unfold DY at *
  rw [show val64 (FP.dmul a b) = round b64 (exactProduct (val64 a) (val64 b)) from val64_dmul a b]
  exact sc_round (by rw [sc_prod]; exact whole_product ha hb) h h1 h2
theorem dcmp_dy {i j k : Int} {a b : UInt64} (ha : DY i k a) (hb : DY j k b) : FP.dcmp a b = some (compare i j) := by
  show order (val64 a) (val64 b) = _
  rw [← sc_order k]
  exact order_whole ha hb
theorem DY.ne_nan {i k : Int} {a : UInt64} (h : DY i k a) : val64 a ≠ .nan := fun q => by unfold DY at h; rw [q] at h; exact h.elim
theorem DY.nn {i k : Int} {a : UInt64} (h : DY i k a) : NoNaN64 a := val64_no.mpr h.ne_nan
theorem DY.fin {i k : Int} {a : UInt64} (h : DY i k a) : ∃ s c q, val64 a = .fin s c q ∧ Whole i (.fin s c (q + k)) := by
  unfold DY at h
  cases hv : val64 a with
  | nan => rw [hv] at h; exact h.elim
  | inf s => rw [hv] at h; exact h.elim
  | fin s c q => rw [hv] at h; exact ⟨s, c, q, rfl, h⟩
theorem dcmpZ_dy {i j k : Int} {a b : UInt64} (ha : DY i k a) (hb : DY j k b) {o : CmpOp} : cmpValue (FP.dcmp a b) o = cmpZ i j := by
  rw [dcmp_dy ha hb, compare_ite]
  unfold cmpZ
  split
  · rfl
  · split <;> rfl
/-- the magnitude in units of 2^-1074 -/
theorem DY.units {i k : Int} {a : UInt64} (h : DY i k a) (hk : k ≤ 1074) : ∃ s c q, val64 a = .fin s c q ∧ -1074 ≤ q ∧ c * 2 ^ (q + 1074).toNat = i.natAbs * 2 ^ (1074 - k).toNat ∧ signed s i.natAbs = i ∧ (i ≠ 0 → s = decide (i < 0)) ∧ (c = 0 ↔ i = 0) := by
  obtain ⟨s, c, q, e, w⟩ := h.fin
  have hf := val64_fits a
  rw [e] at hf
  have hq := hf.2.1
  rw [qmin_b64] at hq
  refine ⟨s, c, q, e, hq, ?_, signed_of w, fun hi => whole_sign w hi, whole_zero w⟩
  have h1 := whole_units w (e := -1074 + k) (by omega)
  have h2 := congrArg Int.natAbs h1
  rw [Int.natAbs_mul, Int.natAbs_mul, natAbs_signed, Int.natAbs_natCast, Int.natAbs_natCast] at h2
  unfold inUnits at h2
  rw [show (-1074 + k).toNat = 0 by omega, show (-(-1074 + k)).toNat = (1074 - k).toNat by omega, show q + k - (-1074 + k) = q + 1074 by omega, Nat.pow_zero, Nat.mul_one] at h2
  exact h2
/-- an exact quotient -/
theorem ddiv_dy {i j m : Int} {k l n : Nat} {x y : UInt64} (hx : DY i k x) (hy : DY j l y) (hj : j ≠ 0) (hm : m.natAbs < 2 ^ 53) (hk : k ≤ 1074) (hl : l ≤ 1074) (hn : n ≤ 1074) (he : i * (2 ^ (n + l) : Nat) = m * j * (2 ^ k : Nat)) : DY m n (FP.ddiv x y) := by
  obtain ⟨s, c, q, ex, hq, hx1, hx2, hx3, hx4⟩ := hx.units (by omega)
  obtain ⟨t, d, r, ey, hr, hy1, hy2, hy3, hy4⟩ := hy.units (by omega)
  have hd : d ≠ 0 := fun z => hj (hy4.mp z)
  unfold DY
  rw [show val64 (FP.ddiv x y) = quotient b64 (val64 x) (val64 y) from val64_ddiv x y, ex, ey]
  have hd' : 0 < d := Nat.pos_of_ne_zero hd
  have eq1 : quotient b64 (.fin s c q) (.fin t d r) = roundRatio b64 (s != t) c d (q - r) := by simp only [quotient, if_neg hd]
  have hA := congrArg Int.natAbs he
  rw [Int.natAbs_mul, Int.natAbs_mul, Int.natAbs_mul, Int.natAbs_natCast, Int.natAbs_natCast] at hA
  have eq2 : roundRatio b64 (s != t) c d (q - r) = round b64 (.fin (s != t) m.natAbs (-(n : Int))) := by
    refine roundRatio_congr hd' (by decide) ?_
    have hB : c * 2 ^ ((q + 1074).toNat + n) = m.natAbs * d * 2 ^ (r + 1074).toNat := by
      refine Nat.eq_of_mul_eq_mul_right (Nat.two_pow_pos (k + l)) ?_
      have e1 : (1074 - (k : Int)).toNat + k = 1074 := by omega
      have e2 : (1074 - (l : Int)).toNat + l = 1074 := by omega
      calc c * 2 ^ ((q + 1074).toNat + n) * 2 ^ (k + l) = c * 2 ^ (q + 1074).toNat * 2 ^ n * 2 ^ (k + l) := by rw [Nat.pow_add 2 _ n]; ac_rfl
        _ = i.natAbs * 2 ^ (1074 - (k : Int)).toNat * 2 ^ n * 2 ^ (k + l) := by rw [hx1]
        _ = i.natAbs * 2 ^ (n + l) * 2 ^ ((1074 - (k : Int)).toNat + k) := by simp only [Nat.pow_add]; ac_rfl
        _ = m.natAbs * j.natAbs * 2 ^ k * 2 ^ ((1074 - (l : Int)).toNat + l) := by rw [hA, e1, e2]
        _ = m.natAbs * (j.natAbs * 2 ^ (1074 - (l : Int)).toNat) * 2 ^ (k + l) := by simp only [Nat.pow_add]; ac_rfl
        _ = m.natAbs * d * 2 ^ (r + 1074).toNat * 2 ^ (k + l) := by rw [← hy1]; ac_rfl
    have hC := pow_cancel hB
    rw [show (q - r - -(n : Int)).toNat = (q + 1074).toNat + n - (r + 1074).toNat by omega, show (-(n : Int) - (q - r)).toNat = (r + 1074).toNat - ((q + 1074).toNat + n) by omega, Nat.mul_one]
    exact hC
  rw [eq1, eq2]
  refine whole_of_round ?_ hm (by omega) (by omega)
  by_cases hm0 : m = 0
  · rw [hm0]; exact signed_zero _
  have hs := congrArg Int.sign he
  rw [Int.sign_mul, Int.sign_mul, Int.sign_mul, Int.sign_eq_one_of_pos (a := ((2 ^ (n + l) : Nat) : Int)) (by have := Nat.two_pow_pos (n + l); omega), Int.sign_eq_one_of_pos (a := ((2 ^ k : Nat) : Int)) (by have := Nat.two_pow_pos k; omega), Int.mul_one, Int.mul_one] at hs
  have hi0 : i ≠ 0 := fun z => by
    rw [z, Int.zero_mul] at he
    have h3 := Int.mul_eq_zero.mp he.symm
    have h4 := Nat.two_pow_pos k
    rcases h3 with h3 | h3
    · rcases Int.mul_eq_zero.mp h3 with h5 | h5
      · exact hm0 h5
      · exact hj h5
    · omega
  have e1 := hx3 hi0
  have e2 := hy3 hj
  subst e1 e2
  have si : ∀ z : Int, z ≠ 0 → z.sign = if z < 0 then -1 else 1 := fun z hz => by
    rcases Int.lt_or_gt_of_ne hz with h | h
    · rw [if_pos h, Int.sign_eq_neg_one_of_neg h]
    · rw [if_neg (by omega), Int.sign_eq_one_of_pos h]
  rw [si i hi0, si m hm0, si j hj] at hs
  unfold signed
  by_cases a1 : i < 0 <;> by_cases a2 : j < 0 <;> by_cases a3 : m < 0 <;> simp [a1, a2, a3] at hs ⊢ <;> omega
theorem ddiv_int {i j m : Int} {x y : UInt64} (hx : DInt i x) (hy : DInt j y) (hj : j ≠ 0) (hm : m.natAbs < 2 ^ 53) (he : i = m * j) : DInt m (FP.ddiv x y) :=
  (ddiv_dy (k := 0) (l := 0) (n := 0) (DY.of_int hx) (DY.of_int hy) hj hm (by omega) (by omega) (by omega) (by rw [he]; first | done | simp)).to_int
/-- the same number, over a greater power of two -/
theorem DY.up {i k : Int} {a : UInt64} (h : DY i k a) (t : Nat) : DY (i * (2 ^ t : Nat)) (k + t) a := by
  obtain ⟨s, c, q, e, w⟩ := h.fin
  unfold DY
  rw [e]
  show signed s (c * 2 ^ (q + (k + t)).toNat) = i * (2 ^ t : Nat) * ((2 ^ (-(q + (k + t))).toNat : Nat) : Int)
  have w' : signed s (c * 2 ^ (q + k).toNat) = i * ((2 ^ (-(q + k)).toNat : Nat) : Int) := w
  have p2 : ((2 ^ (-(q + k)).toNat : Nat) : Int) ≠ 0 := by have := Nat.two_pow_pos (-(q + k)).toNat; omega
  refine Int.eq_of_mul_eq_mul_right p2 ?_
  have hx : (q + (k + t)).toNat + (-(q + k)).toNat = (q + k).toNat + t + (-(q + (k + t))).toNat := by omega
  rw [← signed_mul, Nat.mul_assoc c, ← Nat.pow_add, hx, show c * 2 ^ ((q + k).toNat + t + (-(q + (k + t))).toNat) = c * 2 ^ (q + k).toNat * (2 ^ t * 2 ^ (-(q + (k + t))).toNat) by simp only [Nat.pow_add]; ac_rfl, signed_mul, w', Int.natCast_mul]
  ac_rfl

theorem DY.cast {i i' k k' : Int} {a : UInt64} (h : DY i k a) (hi : i = i') (hk : k = k') : DY i' k' a := by subst hi hk; exact h
theorem lit_dy {n : Int32} {b : UInt64} (h : Core.i2d n = b) : DInt n.toInt b := h ▸ i2d_int n
end Fp
end Jvm.OwnW
namespace Jvm.OwnI
open Sem ClassFile Op Lib Jvm.Stand Jvm.Free Jvm.LawKit Jvm.RoadKit Jvm.OwnW
abbrev AH := List (Nat × List Value)
abbrev St := Array Slot × List Value × AH × Nat × Nat
abbrev Caller := Nat → List Value → AH → Option (Option Value × AH)
abbrev Sm := Caller → St → Option (Option Nat × St)
abbrev Rf := St → Option (Option Value)
abbrev Ent := Nat × Nat × (Sm ⊕ Rf)
/-- addresses, doubles, ints that the names stand for -/
abbrev Den := (Nat → Addr) × (UInt64 → UInt64) × (UInt32 → Int32)
abbrev Kls := Nat → Option FieldType × String × List (String × String)
abbrev Tape := List (Nat × UInt64 × UInt64 × UInt64)
def mv (A : Den) : Value → Value
  | .int x => .int x
  | .long x => .long x
  | .float b => .int (A.2.2 b)
  | .double b => .double (A.2.1 b)
  | .null => .null
  | .ref a => .ref (A.1 a)
  | .retAddr q => .retAddr q
def ml (A : Den) : Slot → Slot
  | .val v => .val (mv A v)
  | .unset => .unset
  | .second => .second
theorem mv_cat (A : Den) (v : Value) : (mv A v).category = v.category := by cases v <;> rfl
theorem mv_ref (A : Den) {v : Value} (h : v.isRef = true) : (mv A v).isRef = true := by cases v <;> first | rfl | (simp [Value.isRef] at h)
theorem get_ml (A : Den) {L : Array Slot} {i : Nat} {x : Slot} (h : L[i]? = some x) : (L.map (ml A))[i]? = some (ml A x) := by rw [Array.getElem?_map, h]; rfl
theorem setAt_ml (A : Den) {L L' : Array Slot} {i : Nat} {x : Slot} (h : setAt L i x = some L') : setAt (L.map (ml A)) i (ml A x) = some (L'.map (ml A)) := by
  unfold setAt at h ⊢
  split at h
  · rename_i q
    cases h
    rw [if_pos (by rw [Array.size_map]; exact q)]
    congr 1
    apply Array.ext_getElem?
    intro j
    simp only [Array.getElem?_map, Array.getElem?_setIfInBounds, Array.size_map]
    split
    · first | rfl | (split <;> rfl)
    · rfl
  · cases h
theorem storeSelf_ml (A : Den) {L L' : Array Slot} {i : Nat} {v : Value} (h : storeSelf L i v = some L') : storeSelf (L.map (ml A)) i (mv A v) = some (L'.map (ml A)) := by
  unfold storeSelf at h ⊢
  simp only [Option.bind_eq_bind, Option.bind_eq_some_iff] at h ⊢
  obtain ⟨l, h1, h2⟩ := h
  refine ⟨l.map (ml A), setAt_ml A h1, ?_⟩
  rw [mv_cat]
  split at h2
  · rename_i q
    rw [if_pos q]
    simp only [Option.bind_eq_some_iff] at h2 ⊢
    obtain ⟨x, h3, h4⟩ := h2
    refine ⟨ml A x, get_ml A h3, ?_⟩
    cases x with
    | unset => exact setAt_ml A h4
    | second => exact setAt_ml A h4
    | val old =>
      simp only [ml, mv_cat] at h4 ⊢
      split at h4
      · rename_i q2
        rw [if_pos q2]
        simp only [Option.bind_eq_some_iff] at h4 ⊢
        obtain ⟨y, h5, h6⟩ := h4
        exact ⟨y.map (ml A), setAt_ml A h5, setAt_ml A h6⟩
      · rename_i q2
        rw [if_neg q2]
        exact setAt_ml A h4
  · rename_i q
    rw [if_neg q]
    cases h2; rfl
theorem store_ml (A : Den) {L L' : Array Slot} {i : Nat} {v : Value} (h : storeLocals L i v = some L') : storeLocals (L.map (ml A)) i (mv A v) = some (L'.map (ml A)) := by
  unfold storeLocals at h ⊢
  simp only [Option.bind_eq_bind, Option.bind_eq_some_iff] at h ⊢
  obtain ⟨x, h1, h2⟩ := h
  refine ⟨ml A x, get_ml A h1, ?_⟩
  cases x with
  | unset => exact storeSelf_ml A h2
  | second =>
    simp only [Option.bind_eq_some_iff, ml] at h2 ⊢
    obtain ⟨y, h3, h4⟩ := h2
    exact ⟨y.map (ml A), setAt_ml A h3, storeSelf_ml A h4⟩
  | val old =>
    simp only [ml, mv_cat] at h2 ⊢
    split at h2
    · rename_i q
      rw [if_pos q]
      simp only [Option.bind_eq_some_iff] at h2 ⊢
      obtain ⟨y, h3, h4⟩ := h2
      exact ⟨y.map (ml A), setAt_ml A h3, storeSelf_ml A h4⟩
    · rename_i q
      rw [if_neg q]
      exact storeSelf_ml A h2
def CellOk (K : Kls) (A : Den) (Z : State) (h : Heap) (a : Addr) (c : Nat × List Value) : Prop :=
  match (K c.1).1 with
  | some ty => Ar Z h a ty c.2.length (fun i => mv A (c.2.getD i .null)) ∧ Exa Z h a (K c.1).2.1
  | none => c.1 = 0 ∨ (Exa Z h a (K c.1).2.1 ∧ ∀ (j : Nat) (fd : String × String), (K c.1).2.2[j]? = some fd → ∃ v : Value, c.2[j]? = some v ∧ Fld Z h a (K c.1).2.1 fd.1 fd.2 (mv A v))
def Inv (K : Kls) (A : Den) (Z : State) (n0 bs : Nat) (wr : Nat → Bool) (s : State) (ws : List Addr) (bd : Nat) (h : Heap) (H : AH) (k : Nat) : Prop :=
  (∀ (i : Nat) (c : Nat × List Value), H[i]? = some c → CellOk K A Z h (A.1 i) c) ∧ h.size = s.heap.size + k ∧ h.size + n0 = bs + H.length ∧ n0 ≤ H.length ∧ ∀ i, i < H.length → wr i = true → A.1 i ∈ ws ∨ bd ≤ A.1 i
def AdOk (A : Den) (n0 bs : Nat) : Prop := (∀ i j, A.1 i = A.1 j → i = j) ∧ ∀ i, n0 ≤ i → A.1 i = bs + (i - n0)
section R
variable {K : Kls} {A : Den} {Z : State} {h h' : Heap}
theorem CellOk.ext {a : Addr} {c : Nat × List Value} (C : CellOk K A Z h a c) (E : Ext h h') : CellOk K A Z h' a c := by
  unfold CellOk at C ⊢
  split at C
  · exact ⟨C.1.ext E, C.2.ext E⟩
  · rcases C with C | ⟨C1, C2⟩
    · exact Or.inl C
    · exact Or.inr ⟨C1.ext E, fun j fd q => by obtain ⟨v, q1, q2⟩ := C2 j fd q; exact ⟨v, q1, q2.ext E⟩⟩
theorem CellOk.other {a b : Addr} {sl : Nat} {v : Value} {c : Nat × List Value} (C : CellOk K A Z h b c) (W : Wr h h' a sl v) (q : b ≠ a) : CellOk K A Z h' b c := by
  unfold CellOk at C ⊢
  split at C
  · exact ⟨C.1.other W q, C.2.wr W⟩
  · rcases C with C | ⟨C1, C2⟩
    · exact Or.inl C
    · exact Or.inr ⟨C1.wr W, fun j fd r => by obtain ⟨v, q1, q2⟩ := C2 j fd r; exact ⟨v, q1, q2.other W (Or.inl q)⟩⟩
theorem CellOk.keep {a : Addr} {ws : List Addr} {c : Nat × List Value} (C : CellOk K A Z h a c) (W : Keep h h' ws) (q : a ∉ ws) : CellOk K A Z h' a c := by
  unfold CellOk at C ⊢
  split at C
  · exact ⟨C.1.keep W q, C.2.keep W⟩
  · rcases C with C | ⟨C1, C2⟩
    · exact Or.inl C
    · exact Or.inr ⟨C1.keep W, fun j fd r => by obtain ⟨v, q1, q2⟩ := C2 j fd r; exact ⟨v, q1, q2.keep W q⟩⟩
end R
def OkE (l : Launch) (K : Kls) (A : Den) (Z : State) (n0 bs : Nat) (wr : Nat → Bool) (own : String) (code : ByteArray) (maxL : Nat) (ret : Option FieldType) (nm : String) (R : Room) (call : Caller) (x : Ent) : Prop :=
  match x.2.2 with
  | .inl sem => ∀ L S H k n nx L' S' H' k' n', sem call (L, S, H, k, n) = some (nx, L', S', H', k', n') → ∀ p e s m args below meth c ws bd Q T h, Pos p l e R s m args below meth c Z own ws bd T h k n → c.code = code → c.maxLocals = maxL → meth.name = nm → Inv K A Z n0 bs wr s ws bd h H k →
      (∀ T' h', Pos p l e R s m args below meth c Z own ws bd T' h' k' n' → Inv K A Z n0 bs wr s ws bd h' H' k' → Done p l e R s m args below meth c Z own ws bd Q T' (mkF m (nx.getD (x.1 + x.2.1)) (L'.map (ml A)) (S'.map (mv A)))) →
      Done p l e R s m args below meth c Z own ws bd Q T (mkF m x.1 (L.map (ml A)) (S.map (mv A)))
  | .inr rf => ∀ L S H k n v, rf (L, S, H, k, n) = some v → ∀ p e s m args below meth c ws bd Q T h, Pos p l e R s m args below meth c Z own ws bd T h k n → c.code = code → meth.sig.returnType = ret → Q (v.map (mv A)) h →
      Done p l e R s m args below meth c Z own ws bd Q T (mkF m x.1 (L.map (ml A)) (S.map (mv A)))
abbrev Pg := Array Slot → List Value → Option (Option Nat × Array Slot × List Value)
def pu (g : Pg) : Sm := fun _ st => match g st.1 st.2.1 with
  | some (nx, L', S') => some (nx, L', S', st.2.2)
  | none => none
section P
variable {l : Launch} {K : Kls} {A : Den} {Z : State} {n0 bs : Nat} {wr : Nat → Bool} {own : String} {code : ByteArray} {maxL : Nat} {ret : Option FieldType} {nm : String} {R : Room} {call : Caller} {pc len : Nat} {tp : Tape}
theorem ok_pu {g : Pg} (H : ∀ L S nx L' S', g L S = some (nx, L', S') → ∀ p e s m args below meth c ws bd T h k n, Pos p l e R s m args below meth c Z own ws bd T h k n → c.code = code → ∀ t, Steps p.tables e below (T.setTop (mkF m (nx.getD (pc + len)) (L'.map (ml A)) (S'.map (mv A)))) t → Steps p.tables e below (T.setTop (mkF m pc (L.map (ml A)) (S.map (mv A)))) t) :
    OkE l K A Z n0 bs wr own code maxL ret nm R call (pc, len, .inl (pu g)) := by
  intro L S Hp k n nx L' S' H' k' n' he p e s m args below meth c ws bd Q T h P hc hm hn I D
  unfold pu at he
  dsimp only at he
  split at he
  · rename_i nx1 L1 S1 q
    cases he
    exact Done.step (H _ _ _ _ _ q p e s m args below meth c ws bd T h k n P hc) (D T h P I)
  · cases he
def isI : Value → Bool
  | .int _ => true
  | .float _ => true
  | _ => false
def isJ : Value → Bool
  | .long _ => true
  | _ => false
def isD : Value → Bool
  | .double _ => true
  | _ => false
def gLoad (ok : Value → Bool) (k : Nat) : Pg := fun L S => match L[k]? with
  | some (.val v) => if ok v then some (none, L, v :: S) else none
  | _ => none
def gStore (ok : Value → Bool) (k : Nat) : Pg := fun L S => match S with
  | v :: r => if ok v then (match storeLocals L k v with | some L' => some (none, L', r) | none => none) else none
  | [] => none
theorem gLoad_i {ok : Value → Bool} {k : Nat} {L L' : Array Slot} {S S' : List Value} {nx : Option Nat} (h : gLoad ok k L S = some (nx, L', S')) : ∃ v, L[k]? = some (.val v) ∧ ok v = true ∧ nx = none ∧ L' = L ∧ S' = v :: S := by
  unfold gLoad at h
  split at h
  · split at h
    · cases h; rename_i v q1 q2; exact ⟨v, q1, q2, rfl, rfl, rfl⟩
    · cases h
  · cases h
theorem gStore_i {ok : Value → Bool} {k : Nat} {L L' : Array Slot} {S S' : List Value} {nx : Option Nat} (h : gStore ok k L S = some (nx, L', S')) : ∃ v, S = v :: S' ∧ ok v = true ∧ nx = none ∧ storeLocals L k v = some L' := by
  unfold gStore at h
  split at h
  · split at h
    · split at h
      · cases h; rename_i q1 _ q2; exact ⟨_, rfl, q1, rfl, q2⟩
      · cases h
    · cases h
  · cases h
theorem isI_e {v : Value} (h : isI v = true) : ∃ x : Den → Int32, ∀ A : Den, mv A v = .int (x A) := by
  cases v with
  | int x => exact ⟨fun _ => x, fun _ => rfl⟩
  | float b => exact ⟨fun A => A.2.2 b, fun _ => rfl⟩
  | _ => cases h
theorem isJ_e {v : Value} (h : isJ v = true) : ∃ x, v = .long x := by
  cases v with
  | long x => exact ⟨x, rfl⟩
  | _ => cases h
theorem isD_e {v : Value} (h : isD v = true) : ∃ x, v = .double x := by
  cases v with
  | double x => exact ⟨x, rfl⟩
  | _ => cases h
theorem ok_iload {k : Nat} (hd : decode code pc = .ok (.iload k, 2)) : OkE l K A Z n0 bs wr own code maxL ret nm R call (pc, 2, .inl (pu (gLoad isI k))) := ok_pu fun L S nx L' S' hg p e s m args below meth c ws bd T h k n P hc t kk => by
  obtain ⟨v, q1, q2, rfl, rfl, rfl⟩ := gLoad_i hg
  obtain ⟨x, hx⟩ := isI_e q2
  have g1 := get_ml A q1
  rw [show ml A (.val v) = .val (mv A v) from rfl, hx] at g1
  refine XS.iload P.here P.x rfl (hb hc hd) g1 ?_
  simpa [hx] using kk
theorem ok_iloadN {k : Fin 4} (hd : decode code pc = .ok (.iload_n k, 1)) : OkE l K A Z n0 bs wr own code maxL ret nm R call (pc, 1, .inl (pu (gLoad isI k.val))) := ok_pu fun L S nx L' S' hg p e s m args below meth c ws bd T h k n P hc t kk => by
  obtain ⟨v, q1, q2, rfl, rfl, rfl⟩ := gLoad_i hg
  obtain ⟨x, hx⟩ := isI_e q2
  have g1 := get_ml A q1
  rw [show ml A (.val v) = .val (mv A v) from rfl, hx] at g1
  refine XS.iloadN P.here P.x rfl (hb hc hd) g1 ?_
  simpa [hx] using kk
theorem ok_aload {k : Nat} (hd : decode code pc = .ok (.aload k, 2)) : OkE l K A Z n0 bs wr own code maxL ret nm R call (pc, 2, .inl (pu (gLoad Value.isRef k))) := ok_pu fun L S nx L' S' hg p e s m args below meth c ws bd T h k n P hc t kk => by
  obtain ⟨v, q1, q2, rfl, rfl, rfl⟩ := gLoad_i hg
  exact XS.aload P.here P.x rfl (hb hc hd) (get_ml A q1) (mv_ref A q2) kk
theorem ok_aloadN {k : Fin 4} (hd : decode code pc = .ok (.aload_n k, 1)) : OkE l K A Z n0 bs wr own code maxL ret nm R call (pc, 1, .inl (pu (gLoad Value.isRef k.val))) := ok_pu fun L S nx L' S' hg p e s m args below meth c ws bd T h k n P hc t kk => by
  obtain ⟨v, q1, q2, rfl, rfl, rfl⟩ := gLoad_i hg
  exact XS.aloadN P.here P.x rfl (hb hc hd) (get_ml A q1) (mv_ref A q2) kk
theorem ok_lload {k : Nat} (hd : decode code pc = .ok (.lload k, 2)) : OkE l K A Z n0 bs wr own code maxL ret nm R call (pc, 2, .inl (pu (gLoad isJ k))) := ok_pu fun L S nx L' S' hg p e s m args below meth c ws bd T h k n P hc t kk => by
  obtain ⟨v, q1, q2, rfl, rfl, rfl⟩ := gLoad_i hg
  obtain ⟨x, rfl⟩ := isJ_e q2
  exact XS.lload P.here P.x rfl (hb hc hd) (get_ml A q1) kk
theorem ok_lloadN {k : Fin 4} (hd : decode code pc = .ok (.lload_n k, 1)) : OkE l K A Z n0 bs wr own code maxL ret nm R call (pc, 1, .inl (pu (gLoad isJ k.val))) := ok_pu fun L S nx L' S' hg p e s m args below meth c ws bd T h k n P hc t kk => by
  obtain ⟨v, q1, q2, rfl, rfl, rfl⟩ := gLoad_i hg
  obtain ⟨x, rfl⟩ := isJ_e q2
  exact XS.lloadN P.here P.x rfl (hb hc hd) (get_ml A q1) kk
theorem ok_dload {k : Nat} (hd : decode code pc = .ok (.dload k, 2)) : OkE l K A Z n0 bs wr own code maxL ret nm R call (pc, 2, .inl (pu (gLoad isD k))) := ok_pu fun L S nx L' S' hg p e s m args below meth c ws bd T h k n P hc t kk => by
  obtain ⟨v, q1, q2, rfl, rfl, rfl⟩ := gLoad_i hg
  obtain ⟨x, rfl⟩ := isD_e q2
  exact XS.dload P.here P.x rfl (hb hc hd) (get_ml A q1) kk
theorem ok_dloadN {k : Fin 4} (hd : decode code pc = .ok (.dload_n k, 1)) : OkE l K A Z n0 bs wr own code maxL ret nm R call (pc, 1, .inl (pu (gLoad isD k.val))) := ok_pu fun L S nx L' S' hg p e s m args below meth c ws bd T h k n P hc t kk => by
  obtain ⟨v, q1, q2, rfl, rfl, rfl⟩ := gLoad_i hg
  obtain ⟨x, rfl⟩ := isD_e q2
  exact XS.dloadN P.here P.x rfl (hb hc hd) (get_ml A q1) kk
theorem ok_istore {k : Nat} (hd : decode code pc = .ok (.istore k, 2)) : OkE l K A Z n0 bs wr own code maxL ret nm R call (pc, 2, .inl (pu (gStore isI k))) := ok_pu fun L S nx L' S' hg p e s m args below meth c ws bd T h k n P hc t kk => by
  obtain ⟨v, rfl, q2, rfl, q3⟩ := gStore_i hg
  obtain ⟨x, hx⟩ := isI_e q2
  have g1 := store_ml A q3
  rw [hx] at g1
  exact XS.istore P.here P.x rfl (hb hc hd) (by show List.map (mv A) (v :: S') = _; rw [List.map_cons, hx]) g1 kk
theorem ok_istoreN {k : Fin 4} (hd : decode code pc = .ok (.istore_n k, 1)) : OkE l K A Z n0 bs wr own code maxL ret nm R call (pc, 1, .inl (pu (gStore isI k.val))) := ok_pu fun L S nx L' S' hg p e s m args below meth c ws bd T h k n P hc t kk => by
  obtain ⟨v, rfl, q2, rfl, q3⟩ := gStore_i hg
  obtain ⟨x, hx⟩ := isI_e q2
  have g1 := store_ml A q3
  rw [hx] at g1
  exact XS.istoreN P.here P.x rfl (hb hc hd) (by show List.map (mv A) (v :: S') = _; rw [List.map_cons, hx]) g1 kk
theorem ok_astore {k : Nat} (hd : decode code pc = .ok (.astore k, 2)) : OkE l K A Z n0 bs wr own code maxL ret nm R call (pc, 2, .inl (pu (gStore Value.isRef k))) := ok_pu fun L S nx L' S' hg p e s m args below meth c ws bd T h k n P hc t kk => by
  obtain ⟨v, rfl, q2, rfl, q3⟩ := gStore_i hg
  exact XS.astore P.here P.x rfl (hb hc hd) rfl (mv_ref A q2) (store_ml A q3) kk
theorem ok_astoreN {k : Fin 4} (hd : decode code pc = .ok (.astore_n k, 1)) : OkE l K A Z n0 bs wr own code maxL ret nm R call (pc, 1, .inl (pu (gStore Value.isRef k.val))) := ok_pu fun L S nx L' S' hg p e s m args below meth c ws bd T h k n P hc t kk => by
  obtain ⟨v, rfl, q2, rfl, q3⟩ := gStore_i hg
  exact XS.astoreN P.here P.x rfl (hb hc hd) rfl (mv_ref A q2) (store_ml A q3) kk
theorem ok_lstore {k : Nat} (hd : decode code pc = .ok (.lstore k, 2)) : OkE l K A Z n0 bs wr own code maxL ret nm R call (pc, 2, .inl (pu (gStore isJ k))) := ok_pu fun L S nx L' S' hg p e s m args below meth c ws bd T h k n P hc t kk => by
  obtain ⟨v, rfl, q2, rfl, q3⟩ := gStore_i hg
  obtain ⟨x, rfl⟩ := isJ_e q2
  exact XS.lstore P.here P.x rfl (hb hc hd) rfl (store_ml A q3) kk
theorem ok_lstoreN {k : Fin 4} (hd : decode code pc = .ok (.lstore_n k, 1)) : OkE l K A Z n0 bs wr own code maxL ret nm R call (pc, 1, .inl (pu (gStore isJ k.val))) := ok_pu fun L S nx L' S' hg p e s m args below meth c ws bd T h k n P hc t kk => by
  obtain ⟨v, rfl, q2, rfl, q3⟩ := gStore_i hg
  obtain ⟨x, rfl⟩ := isJ_e q2
  exact XS.lstoreN P.here P.x rfl (hb hc hd) rfl (store_ml A q3) kk
theorem ok_dstore {k : Nat} (hd : decode code pc = .ok (.dstore k, 2)) : OkE l K A Z n0 bs wr own code maxL ret nm R call (pc, 2, .inl (pu (gStore isD k))) := ok_pu fun L S nx L' S' hg p e s m args below meth c ws bd T h k n P hc t kk => by
  obtain ⟨v, rfl, q2, rfl, q3⟩ := gStore_i hg
  obtain ⟨x, rfl⟩ := isD_e q2
  exact XS.dstore P.here P.x rfl (hb hc hd) rfl (store_ml A q3) kk
theorem ok_dstoreN {k : Fin 4} (hd : decode code pc = .ok (.dstore_n k, 1)) : OkE l K A Z n0 bs wr own code maxL ret nm R call (pc, 1, .inl (pu (gStore isD k.val))) := ok_pu fun L S nx L' S' hg p e s m args below meth c ws bd T h k n P hc t kk => by
  obtain ⟨v, rfl, q2, rfl, q3⟩ := gStore_i hg
  obtain ⟨x, rfl⟩ := isD_e q2
  exact XS.dstoreN P.here P.x rfl (hb hc hd) rfl (store_ml A q3) kk
def gPush (v : Value) : Pg := fun L S => some (none, L, v :: S)
theorem ok_iconst {i : Int} (hd : decode code pc = .ok (.iconst i, 1)) : OkE l K A Z n0 bs wr own code maxL ret nm R call (pc, 1, .inl (pu (gPush (.int (Int32.ofInt i))))) := ok_pu fun L S nx L' S' hg p e s m args below meth c ws bd T h k n P hc t kk => by
  cases hg; exact XS.iconst P.here P.x rfl (hb hc hd) kk
theorem ok_bipush {i : Int} (hd : decode code pc = .ok (.bipush i, 2)) : OkE l K A Z n0 bs wr own code maxL ret nm R call (pc, 2, .inl (pu (gPush (.int (Int8.ofInt i).toInt32)))) := ok_pu fun L S nx L' S' hg p e s m args below meth c ws bd T h k n P hc t kk => by
  cases hg; exact XS.bipush P.here P.x rfl (hb hc hd) kk
def gIinc (j : Nat) (cst : Int) : Pg := fun L S => match L[j]? with
  | some (.val (.int x)) => (match storeLocals L j (.int (x + Int32.ofInt cst)) with | some L' => some (none, L', S) | none => none)
  | _ => none
theorem ok_iinc {j : Nat} {cst : Int} (hd : decode code pc = .ok (.iinc j cst, 3)) : OkE l K A Z n0 bs wr own code maxL ret nm R call (pc, 3, .inl (pu (gIinc j cst))) := ok_pu fun L S nx L' S' hg p e s m args below meth c ws bd T h k n P hc t kk => by
  unfold gIinc at hg
  split at hg
  · split at hg
    · cases hg
      rename_i x q1 L1 q2
      exact XS.iinc P.here P.x rfl (hb hc hd) (get_ml A q1) (store_ml A q2) kk
    · cases hg
  · cases hg
def cat1b (v : Value) : Bool := v.category == 1
def gDup : Pg := fun L S => match S with
  | v :: r => if cat1b v then some (none, L, v :: v :: r) else none
  | _ => none
def gDup2 : Pg := fun L S => match S with
  | v :: w :: r => if cat1b v && cat1b w then some (none, L, v :: w :: v :: w :: r) else none
  | _ => none
def gPop : Pg := fun L S => match S with
  | v :: r => if cat1b v then some (none, L, r) else none
  | _ => none
theorem cat_ml {v : Value} (h : cat1b v = true) : (mv A v).category = 1 := by rw [mv_cat]; exact beq_iff_eq.mp h
theorem ok_dup (hd : decode code pc = .ok (.dup, 1)) : OkE l K A Z n0 bs wr own code maxL ret nm R call (pc, 1, .inl (pu gDup)) := ok_pu fun L S nx L' S' hg p e s m args below meth c ws bd T h k n P hc t kk => by
  unfold gDup at hg
  split at hg
  · split at hg
    · cases hg; rename_i q; exact XS.dup P.here P.x rfl (hb hc hd) rfl (cat_ml q) kk
    · cases hg
  · cases hg
theorem ok_dup2 (hd : decode code pc = .ok (.dup2, 1)) : OkE l K A Z n0 bs wr own code maxL ret nm R call (pc, 1, .inl (pu gDup2)) := ok_pu fun L S nx L' S' hg p e s m args below meth c ws bd T h k n P hc t kk => by
  unfold gDup2 at hg
  split at hg
  · split at hg
    · cases hg; rename_i q; rw [Bool.and_eq_true] at q; exact XT.dup2 P.here P.x rfl (hb hc hd) rfl (cat_ml q.1) (cat_ml q.2) kk
    · cases hg
  · cases hg
theorem ok_pop (hd : decode code pc = .ok (.pop, 1)) : OkE l K A Z n0 bs wr own code maxL ret nm R call (pc, 1, .inl (pu gPop)) := ok_pu fun L S nx L' S' hg p e s m args below meth c ws bd T h k n P hc t kk => by
  unfold gPop at hg
  split at hg
  · split at hg
    · cases hg; rename_i q; exact XS.pop P.here P.x rfl (hb hc hd) rfl (cat_ml q) kk
    · cases hg
  · cases hg
def gGoto (t : Nat) : Pg := fun L S => some (some t, L, S)
theorem ok_goto {o : Int} {t : Nat} (hd : decode code pc = .ok (.goto o, 3)) (ho : 0 ≤ (pc : Int) + o) (ht : ((pc : Int) + o).toNat = t) : OkE l K A Z n0 bs wr own code maxL ret nm R call (pc, 3, .inl (pu (gGoto t))) := ok_pu fun L S nx L' S' hg p e s m args below meth c ws bd T h k n P hc t kk => by
  cases hg; exact XS.goto P.here P.x rfl (pc0 := pc) rfl (hb hc hd) ho ht kk
def look (tp : Tape) (o : Nat) (x y : UInt64) : Option UInt64 := (tp.find? fun t => t.1 == o && (t.2.1 == x && t.2.2.1 == y)).map (·.2.2.2)
theorem look_i {tp : Tape} {o : Nat} {x y r : UInt64} (h : look tp o x y = some r) : (o, x, y, r) ∈ tp := by
  unfold look at h
  rw [Option.map_eq_some_iff] at h
  obtain ⟨⟨a, b, c, d⟩, h1, rfl⟩ := h
  have h2 := List.find?_some h1
  have h3 := List.mem_of_find?_eq_some h1
  simp only [Bool.and_eq_true, beq_iff_eq] at h2
  obtain ⟨rfl, rfl, rfl⟩ := h2
  exact h3
def isC (x : UInt64) : Bool := x == 0 || decide (1048576 ≤ x)
def fop (o : Nat) (x y : UInt64) : UInt64 := match o with
  | 0 => FP.dadd x y
  | 1 => FP.dsub x y
  | 2 => FP.dmul x y
  | _ => FP.ddiv x y
def nnb (x : UInt64) : Bool := decide (x &&& 0x7fffffffffffffff ≤ 0x7ff0000000000000)
/-- what the tape says of the names: 0 to 3: the four operations; 10: i2d; 11: dneg; 12: dcmpl; 13: whether an int is zero -/
def TpE (A : Den) (t : Nat × UInt64 × UInt64 × UInt64) : Prop :=
  (t.1 < 4 → Jvm.Free.Fl.NoNaN64 (fop t.1 (A.2.1 t.2.1) (A.2.1 t.2.2.1)) ∧ fop t.1 (A.2.1 t.2.1) (A.2.1 t.2.2.1) = A.2.1 t.2.2.2) ∧ (t.1 = 10 → FP.i2d (A.2.2 t.2.1.toUInt32) = A.2.1 t.2.2.2) ∧ (t.1 = 11 → FP.dneg (A.2.1 t.2.1) = A.2.1 t.2.2.2) ∧
    (t.1 = 12 → cmpValue (FP.dcmp (A.2.1 t.2.1) (A.2.1 t.2.2.1)) .l = A.2.2 t.2.2.2.toUInt32) ∧ (t.1 = 13 → (A.2.2 t.2.1.toUInt32 = 0 ↔ t.2.2.2 = 1))
def TpOk (A : Den) (tp : Tape) : Prop := (∀ x, isC x = true → A.2.1 x = x) ∧ ∀ t ∈ tp, TpE A t
/-- what an 'ifeq' or 'ifne' says of an int -/
def zer (cd : ClassFile.Cond) (z : Bool) : Option Bool := match cd with
  | .eq => some z
  | .ne => some (!z)
  | _ => none
def gIf (tp : Tape) (cd : ClassFile.Cond) (t : Nat) : Pg := fun L S => match S with
  | .int x :: r => if ifCond.holds cd x then some (some t, L, r) else some (none, L, r)
  | .float b :: r => (match look tp 13 b.toUInt64 0 with
    | some f => (match zer cd (f == 1) with
      | some true => some (some t, L, r)
      | some false => some (none, L, r)
      | none => none)
    | none => none)
  | _ => none
theorem zer_i {cd : ClassFile.Cond} {z : Bool} {b : Bool} {x : Int32} (h : zer cd z = some b) (hz : x = 0 ↔ z = true) : ifCond.holds cd x = b := by
  cases cd <;> simp only [zer] at h <;> cases h
  · by_cases q : x = 0
    · rw [show z = true from hz.mp q]; exact i0W_eq_t q
    · rw [show z = false from by cases z <;> simp_all]; exact i0W_eq_f (fun y => q y)
  · by_cases q : x = 0
    · rw [show z = true from hz.mp q]; exact i0W_ne_f (fun y => y q)
    · rw [show z = false from by cases z <;> simp_all]; exact i0W_ne_t q
theorem u32 (b : UInt32) : b.toUInt64.toUInt32 = b := by simp
theorem ok_if {cd : ClassFile.Cond} {o : Int} {t : Nat} (hT : TpOk A tp) (hd : decode code pc = .ok (.ifCond cd o, 3)) (ho : 0 ≤ (pc : Int) + o) (ht : ((pc : Int) + o).toNat = t) : OkE l K A Z n0 bs wr own code maxL ret nm R call (pc, 3, .inl (pu (gIf tp cd t))) := ok_pu fun L S nx L' S' hg p e s m args below meth c ws bd T h k n P hc t kk => by
  unfold gIf at hg
  split at hg
  · split at hg
    · cases hg; rename_i q; exact XS.ifYes P.here P.x rfl (pc0 := pc) rfl (hb hc hd) rfl q ho ht kk
    · cases hg; rename_i q; exact XS.ifNo P.here P.x rfl (hb hc hd) rfl (Bool.not_eq_true _ ▸ q) kk
  · split at hg
    · rename_i q1
      have q2 := ((hT.2 _ (look_i q1)).2.2.2.2 rfl)
      simp only [u32] at q2
      split at hg
      · cases hg; rename_i q; exact XS.ifYes P.here P.x rfl (pc0 := pc) rfl (hb hc hd) rfl (zer_i q (q2.trans beq_iff_eq.symm)) ho ht kk
      · cases hg; rename_i q; exact XS.ifNo P.here P.x rfl (hb hc hd) rfl (zer_i q (q2.trans beq_iff_eq.symm)) kk
      · cases hg
    · cases hg
  · cases hg
def gIcmp (cd : ClassFile.Cond) (t : Nat) : Pg := fun L S => match S with
  | .int y :: .int x :: r => if if_icmp.holds cd x y then some (some t, L, r) else some (none, L, r)
  | _ => none
theorem ok_icmp {cd : ClassFile.Cond} {o : Int} {t : Nat} (hd : decode code pc = .ok (.if_icmp cd o, 3)) (ho : 0 ≤ (pc : Int) + o) (ht : ((pc : Int) + o).toNat = t) : OkE l K A Z n0 bs wr own code maxL ret nm R call (pc, 3, .inl (pu (gIcmp cd t))) := ok_pu fun L S nx L' S' hg p e s m args below meth c ws bd T h k n P hc t kk => by
  unfold gIcmp at hg
  split at hg
  · split at hg
    · cases hg; rename_i q; exact XS.icmpYes P.here P.x rfl (pc0 := pc) rfl (hb hc hd) rfl q ho ht kk
    · cases hg; rename_i q; exact XS.icmpNo P.here P.x rfl (hb hc hd) rfl (Bool.not_eq_true _ ▸ q) kk
  · cases hg
def gI2l : Pg := fun L S => match S with
  | .int x :: r => some (none, L, .long x.toInt64 :: r)
  | _ => none
theorem ok_i2l (hd : decode code pc = .ok (.i2l, 1)) : OkE l K A Z n0 bs wr own code maxL ret nm R call (pc, 1, .inl (pu gI2l)) := ok_pu fun L S nx L' S' hg p e s m args below meth c ws bd T h k n P hc t kk => by
  unfold gI2l at hg
  split at hg
  · cases hg; exact XS.i2l P.here P.x rfl (hb hc hd) rfl kk
  · cases hg
def gLmul : Pg := fun L S => match S with
  | .long y :: .long x :: r => some (none, L, .long (x * y) :: r)
  | _ => none
theorem ok_lmul (hd : decode code pc = .ok (.lmul, 1)) : OkE l K A Z n0 bs wr own code maxL ret nm R call (pc, 1, .inl (pu gLmul)) := ok_pu fun L S nx L' S' hg p e s m args below meth c ws bd T h k n P hc t kk => by
  unfold gLmul at hg
  split at hg
  · cases hg; exact XS.lmul P.here P.x rfl (hb hc hd) rfl kk
  · cases hg
def gLcmp : Pg := fun L S => match S with
  | .long y :: .long x :: r => some (none, L, .int (XT.cmpL x y) :: r)
  | _ => none
theorem ok_lcmp (hd : decode code pc = .ok (.lcmp, 1)) : OkE l K A Z n0 bs wr own code maxL ret nm R call (pc, 1, .inl (pu gLcmp)) := ok_pu fun L S nx L' S' hg p e s m args below meth c ws bd T h k n P hc t kk => by
  unfold gLcmp at hg
  split at hg
  · cases hg; exact XT.lcmp P.here P.x rfl (hb hc hd) rfl kk
  · cases hg
def gI2d (tp : Tape) : Pg := fun L S => match S with
  | .int x :: r => if isC (FP.i2d x) then some (none, L, .double (FP.i2d x) :: r) else none
  | .float b :: r => (match look tp 10 b.toUInt64 0 with | some v => some (none, L, .double v :: r) | none => none)
  | _ => none
theorem ok_i2d (hT : TpOk A tp) (hd : decode code pc = .ok (.i2d, 1)) : OkE l K A Z n0 bs wr own code maxL ret nm R call (pc, 1, .inl (pu (gI2d tp))) := ok_pu fun L S nx L' S' hg p e s m args below meth c ws bd T h k n P hc t kk => by
  unfold gI2d at hg
  split at hg
  · split at hg
    · cases hg; rename_i q; exact XS.i2dS P.here P.x rfl (hb hc hd) rfl (hT.1 _ q).symm kk
    · cases hg
  · split at hg
    · cases hg
      rename_i q
      have q2 := (hT.2 _ (look_i q)).2.1 rfl
      simp only [u32] at q2
      exact XS.i2dS P.here P.x rfl (hb hc hd) rfl q2 kk
    · cases hg
  · cases hg
def dop (tp : Tape) (o : Nat) (x y : UInt64) : Option UInt64 := if isC x && isC y then (if isC (fop o x y) && nnb (fop o x y) then some (fop o x y) else none) else look tp o x y
theorem dop_i {o : Nat} {x y v : UInt64} (hT : TpOk A tp) (ho : o < 4) (h : dop tp o x y = some v) : Jvm.Free.Fl.NoNaN64 (fop o (A.2.1 x) (A.2.1 y)) ∧ fop o (A.2.1 x) (A.2.1 y) = A.2.1 v := by
  unfold dop at h
  split at h
  · rename_i q
    rw [Bool.and_eq_true] at q
    split at h
    · rename_i q2
      rw [Bool.and_eq_true] at q2
      cases h
      rw [hT.1 _ q.1, hT.1 _ q.2, hT.1 _ q2.1]
      exact ⟨of_decide_eq_true q2.2, rfl⟩
    · cases h
  · exact (hT.2 _ (look_i h)).1 ho
def gDD (tp : Tape) (o : Nat) : Pg := fun L S => match S with
  | .double y :: .double x :: r => (match dop tp o x y with | some v => some (none, L, .double v :: r) | none => none)
  | _ => none
theorem gDD_i {o : Nat} {L L' : Array Slot} {S S' : List Value} {nx : Option Nat} (hT : TpOk A tp) (ho : o < 4) (h : gDD tp o L S = some (nx, L', S')) : ∃ x y v r, S = .double y :: .double x :: r ∧ nx = none ∧ L' = L ∧ S' = .double v :: r ∧ Jvm.Free.Fl.NoNaN64 (fop o (A.2.1 x) (A.2.1 y)) ∧ fop o (A.2.1 x) (A.2.1 y) = A.2.1 v := by
  unfold gDD at h
  split at h
  · split at h
    · cases h; rename_i q; exact ⟨_, _, _, _, rfl, rfl, rfl, rfl, dop_i hT ho q⟩
    · cases h
  · cases h
theorem ok_dadd (hT : TpOk A tp) (hd : decode code pc = .ok (.dadd, 1)) : OkE l K A Z n0 bs wr own code maxL ret nm R call (pc, 1, .inl (pu (gDD tp 0))) := ok_pu fun L S nx L' S' hg p e s m args below meth c ws bd T h k n P hc t kk => by
  obtain ⟨x, y, v, r, rfl, rfl, rfl, rfl, q1, q2⟩ := gDD_i hT (by decide) hg
  exact XS.daddS P.here P.x rfl (hb hc hd) rfl q1 q2 kk
theorem ok_dsub (hT : TpOk A tp) (hd : decode code pc = .ok (.dsub, 1)) : OkE l K A Z n0 bs wr own code maxL ret nm R call (pc, 1, .inl (pu (gDD tp 1))) := ok_pu fun L S nx L' S' hg p e s m args below meth c ws bd T h k n P hc t kk => by
  obtain ⟨x, y, v, r, rfl, rfl, rfl, rfl, q1, q2⟩ := gDD_i hT (by decide) hg
  exact XS.dsubS P.here P.x rfl (hb hc hd) rfl q1 q2 kk
theorem ok_dmul (hT : TpOk A tp) (hd : decode code pc = .ok (.dmul, 1)) : OkE l K A Z n0 bs wr own code maxL ret nm R call (pc, 1, .inl (pu (gDD tp 2))) := ok_pu fun L S nx L' S' hg p e s m args below meth c ws bd T h k n P hc t kk => by
  obtain ⟨x, y, v, r, rfl, rfl, rfl, rfl, q1, q2⟩ := gDD_i hT (by decide) hg
  exact XS.dmulS P.here P.x rfl (hb hc hd) rfl q1 q2 kk
theorem ok_ddiv (hT : TpOk A tp) (hd : decode code pc = .ok (.ddiv, 1)) : OkE l K A Z n0 bs wr own code maxL ret nm R call (pc, 1, .inl (pu (gDD tp 3))) := ok_pu fun L S nx L' S' hg p e s m args below meth c ws bd T h k n P hc t kk => by
  obtain ⟨x, y, v, r, rfl, rfl, rfl, rfl, q1, q2⟩ := gDD_i hT (by decide) hg
  exact XS.ddivS P.here P.x rfl (hb hc hd) rfl q1 q2 kk
def gDcmp (tp : Tape) : Pg := fun L S => match S with
  | .double y :: .double x :: r => if isC x && isC y then some (none, L, .int (cmpValue (FP.dcmp x y) .l) :: r) else (match look tp 12 x y with | some v => some (none, L, .float v.toUInt32 :: r) | none => none)
  | _ => none
theorem ok_dcmp (hT : TpOk A tp) (hd : decode code pc = .ok (.dcmp .l, 1)) : OkE l K A Z n0 bs wr own code maxL ret nm R call (pc, 1, .inl (pu (gDcmp tp))) := ok_pu fun L S nx L' S' hg p e s m args below meth c ws bd T h k n P hc t kk => by
  unfold gDcmp at hg
  split at hg
  · split at hg
    · cases hg
      rename_i q
      rw [Bool.and_eq_true] at q
      exact XS.dcmpS P.here P.x rfl (hb hc hd) rfl (by rw [hT.1 _ q.1, hT.1 _ q.2]) kk
    · split at hg
      · cases hg
        rename_i q
        exact XS.dcmpS P.here P.x rfl (hb hc hd) rfl ((hT.2 _ (look_i q)).2.2.2.1 rfl) kk
      · cases hg
  · cases hg
theorem ok_dconst0 (hT : TpOk A tp) (hd : decode code pc = .ok (.dconst 0, 1)) : OkE l K A Z n0 bs wr own code maxL ret nm R call (pc, 1, .inl (pu (gPush (.double 0)))) := ok_pu fun L S nx L' S' hg p e s m args below meth c ws bd T h k n P hc t kk => by
  cases hg; exact XS.dconst0 P.here P.x rfl (hb hc hd) (by rw [hT.1 0 rfl]; decide +kernel) kk
theorem ok_ldc2D {a0 : Array Value} {index : Nat} {v : UInt64} (hT : TpOk A tp) (hv : isC v = true) (w : (Cond.constantDouble own index v).before a0 Z = true) (hd : decode code pc = .ok (.ldc2_w index, 3)) : OkE l K A Z n0 bs wr own code maxL ret nm R call (pc, 3, .inl (pu (gPush (.double v)))) := ok_pu fun L S nx L' S' hg p e s m args below meth c ws bd T h k n P hc t kk => by
  cases hg
  have kk : Steps p.tables e below (T.setTop (mkF m (pc + 3) (L.map (ml A)) (.double (A.2.1 v) :: S.map (mv A)))) t := kk
  rw [hT.1 v hv] at kk
  exact pLdcD P w (hb hc hd) rfl kk
theorem ok_ldc2J {a0 : Array Value} {index : Nat} {v : Int64} (w : (Cond.constantLong own index v).before a0 Z = true) (hd : decode code pc = .ok (.ldc2_w index, 3)) : OkE l K A Z n0 bs wr own code maxL ret nm R call (pc, 3, .inl (pu (gPush (.long v)))) := ok_pu fun L S nx L' S' hg p e s m args below meth c ws bd T h k n P hc t kk => by
  cases hg; exact pLdcJ P w (hb hc hd) rfl kk
def rI : Rf := fun st => match st.2.1 with
  | .int x :: _ => some (some (.int x))
  | _ => none
def rZ : Rf := fun st => match st.2.1 with
  | .int x :: _ => if nar .boolean x = x then some (some (.int x)) else none
  | _ => none
def rD : Rf := fun st => match st.2.1 with
  | .double x :: _ => some (some (.double x))
  | _ => none
def rA : Rf := fun st => match st.2.1 with
  | .ref x :: _ => some (some (.ref x))
  | _ => none
def rV : Rf := fun st => match st.2.1 with
  | [] => some none
  | _ => none
theorem ok_rI (hr : ret = some .int) (hd : decode code pc = .ok (.ireturn, 1)) : OkE l K A Z n0 bs wr own code maxL ret nm R call (pc, 1, .inr rI) := by
  intro L S H k n v he p e s m args below meth c ws bd Q T h P hc hrt hq
  unfold rI at he
  dsimp only at he
  split at he
  · cases he; exact wRetI P (hrt.trans hr) (hb hc hd) hq
  · cases he
theorem ok_rZ (hr : ret = some .boolean) (hd : decode code pc = .ok (.ireturn, 1)) : OkE l K A Z n0 bs wr own code maxL ret nm R call (pc, 1, .inr rZ) := by
  intro L S H k n v he p e s m args below meth c ws bd Q T h P hc hrt hq
  unfold rZ at he
  dsimp only at he
  split at he
  · split at he
    · rename_i q
      cases he
      exact wRetN P (hrt.trans hr) (Or.inl rfl) (hb hc hd) (by rw [q]; exact hq)
    · cases he
  · cases he
theorem ok_rD (hr : ret = some .double) (hd : decode code pc = .ok (.dreturn, 1)) : OkE l K A Z n0 bs wr own code maxL ret nm R call (pc, 1, .inr rD) := by
  intro L S H k n v he p e s m args below meth c ws bd Q T h P hc hrt hq
  unfold rD at he
  dsimp only at he
  split at he
  · cases he; exact wRetD P (hrt.trans hr) (hb hc hd) hq
  · cases he
theorem ok_rA {t : FieldType} (hr : ret = some t) (ht : t.isReference = true) (hd : decode code pc = .ok (.areturn, 1)) : OkE l K A Z n0 bs wr own code maxL ret nm R call (pc, 1, .inr rA) := by
  intro L S H k n v he p e s m args below meth c ws bd Q T h P hc hrt hq
  unfold rA at he
  dsimp only at he
  split at he
  · cases he; exact wRetA P (hrt.trans hr) ht rfl (hb hc hd) hq
  · cases he
theorem ok_rV (hr : ret = none) (hd : decode code pc = .ok (.return_, 1)) : OkE l K A Z n0 bs wr own code maxL ret nm R call (pc, 1, .inr rV) := by
  intro L S H k n v he p e s m args below meth c ws bd Q T h P hc hrt hq
  cases S with
  | nil => cases he; exact wRetV P (hrt.trans hr) (hb hc hd) hq
  | cons a b => cases he
def hGet (cid j : Nat) : Sm := fun _ st => match st with
  | (L, .ref i :: r, H, k, n) => (match H[i]? with
    | some (c, vs) => if c == cid then (match vs[j]? with | some v => some (none, L, v :: r, H, k, n) | none => none) else none
    | none => none)
  | _ => none
theorem hGet_i {cid j : Nat} {L L' : Array Slot} {S S' : List Value} {H H' : AH} {k n k' n' : Nat} {nx : Option Nat} (h : hGet cid j call (L, S, H, k, n) = some (nx, L', S', H', k', n')) : ∃ i r vs v, S = .ref i :: r ∧ H[i]? = some (cid, vs) ∧ vs[j]? = some v ∧ nx = none ∧ L' = L ∧ S' = v :: r ∧ H' = H ∧ k' = k ∧ n' = n := by
  unfold hGet at h
  split at h
  · rename_i q0
    cases q0
    split at h
    · rename_i q1
      split at h
      · rename_i q2
        rw [beq_iff_eq] at q2
        subst q2
        split at h
        · rename_i q3
          cases h
          exact ⟨_, _, _, _, rfl, q1, q3, rfl, rfl, rfl, rfl, rfl, rfl⟩
        · cases h
      · cases h
    · cases h
  · cases h
theorem CellOk.fld {cid : Nat} {C : String} {F : List (String × String)} {h : Heap} {a : Addr} {vs : List Value} {j : Nat} {fd : String × String} {v : Value} (hK : K cid = (none, C, F)) (h0 : cid ≠ 0) (hj : F[j]? = some fd) (X : CellOk K A Z h a (cid, vs)) (hv : vs[j]? = some v) : Exa Z h a C ∧ Fld Z h a C fd.1 fd.2 (mv A v) := by
  unfold CellOk at X
  simp only [hK] at X
  rcases X with X | ⟨X1, X2⟩
  · exact absurd X h0
  · obtain ⟨w, q1, q2⟩ := X2 j fd hj
    cases hv.symm.trans q1
    exact ⟨X1, q2⟩
theorem ok_get {a0 : Array Value} {cid j index : Nat} {C nf d host : String} {F : List (String × String)} (hK : K cid = (none, C, F)) (h0 : cid ≠ 0) (hj : F[j]? = some (nf, d)) (w : (Cond.fieldLink own index C nf d).before a0 Z = true ∨ (Cond.fieldLinkNest own index C nf d host).before a0 Z = true)
    (hd : decode code pc = .ok (.getfield index, 3)) : OkE l K A Z n0 bs wr own code maxL ret nm R call (pc, 3, .inl (hGet cid j)) := by
  intro L S H k n nx L' S' H' k' n' he p e s m args below meth c ws bd Q T h P hc hm hn I D
  obtain ⟨i, r, vs, v, rfl, q1, q2, rfl, rfl, rfl, rfl, rfl, rfl⟩ := hGet_i he
  exact wGet P w (fun _ q => q) ((I.1 i _ q1).fld hK h0 hj q2).2 (hb hc hd) rfl fun T' P' => D T' h P' I
/-- getfield, its entry resolved -/
theorem getR {p : Program} {e : Env} {s : State} {m : MethodId} {args : Array Value} {below : List Frame} {meth : Method} {c : Code} {T : State} {locs : List Loc} {k n : Nat} {a0 : Array Value} {O nf d : String} {index : Nat} {a : Addr} {v : Value} {h : Heap}
    (X : Stand p l e R s m args below meth c T locs k n) (hx : p.tables.exec = Jvm.exec) (hZ : Z.Warmed39 s.vm) (ho : s.vm.findClass own = some m.cls) (w : (Cond.fieldRef own index O nf d).before a0 Z = true) (eT : T.heap = h) (F : Fld Z h a O nf d v)
    {g : JFrame} (hg : g.method = m) {rest : List Value} (hs : g.stack = .ref a :: rest) (hd : decode c.code g.pc = .ok (.getfield index, 3)) : ∀ target, Steps p.tables e below (T.setTop { g with pc := g.pc + 3, stack := v :: rest }) target → Steps p.tables e below (T.setTop g) target := by
  obtain ⟨cell, cf, kc, i, f, h1, h2, h3, h4, -, -, h7⟩ := F
  have w2 : (Cond.fieldRef own index O nf d).before a0 (Z.setVm T.vm) = true := Cond.fieldRef_warmed39 (wtrans hZ X.warmed) w
  have ho2 : (Z.setVm T.vm).vm.findClass own = some m.cls := by
    show T.vm.findClass own = _
    rw [X.warmed.alike.findClass]; exact ho
  obtain ⟨c1, k1, i1, f1, g1, g2⟩ := Cond.fieldRef_spec (s := Z.setVm T.vm) (cur := m.cls) ho2 w2
  obtain ⟨k', hi, -⟩ := State.fieldFound?_setVm (s := Z) (wtrans hZ X.warmed).alike h2
  cases hi.symm.trans g1
  have g3 : T.vm.fieldReady m.cls index cf f := g2
  intro target hrest
  subst hg
  jvm_step X.here [hx, hd, getfield.wp_ready (e := e) (s := T) (f := g) X.here.top g3 h3 hs (show T.heap[a]? = some cell from by rw [eT]; exact h1) h4 h7]
  exact hrest
theorem wGetR {p : Program} {e : Env} {s : State} {m : MethodId} {args : Array Value} {below : List Frame} {meth : Method} {c : Code} {ws : List Addr} {bd : Nat} {T : State} {h : Heap} {k n : Nat} {a0 : Array Value} {Q : Option Value → Heap → Prop} {pc pc' : Nat} {Ls : Array Slot} {st : List Value} {O nf d : String} {index : Nat} {a : Addr} {v : Value}
    (P : Pos p l e R s m args below meth c Z own ws bd T h k n) (w : (Cond.fieldRef own index O nf d).before a0 Z = true) (F : Fld Z h a O nf d v)
    (hd : decode c.code pc = .ok (.getfield index, 3)) (hp : pc + 3 = pc') (D : Done p l e R s m args below meth c Z own ws bd Q T (mkF m pc' Ls (v :: st))) : Done p l e R s m args below meth c Z own ws bd Q T (mkF m pc Ls (.ref a :: st)) := by
  obtain ⟨⟨L, X, N'⟩, eT, b, hZ, hx, ho, r⟩ := id P
  subst hp
  exact Done.step (getR X hx hZ ho w eT F (g := mkF m pc Ls (.ref a :: st)) rfl rfl hd) D
theorem ok_getR {a0 : Array Value} {cid j index : Nat} {C nf d : String} {F : List (String × String)} (hK : K cid = (none, C, F)) (h0 : cid ≠ 0) (hj : F[j]? = some (nf, d)) (w : (Cond.fieldRef own index C nf d).before a0 Z = true)
    (hd : decode code pc = .ok (.getfield index, 3)) : OkE l K A Z n0 bs wr own code maxL ret nm R call (pc, 3, .inl (hGet cid j)) := by
  intro L S H k n nx L' S' H' k' n' he p e s m args below meth c ws bd Q T h P hc hm hn I D
  obtain ⟨i, r, vs, v, rfl, q1, q2, rfl, rfl, rfl, rfl, rfl, rfl⟩ := hGet_i he
  exact wGetR P w ((I.1 i _ q1).fld hK h0 hj q2).2 (hb hc hd) rfl (D T h P I)
theorem Inv.set {s : State} {ws : List Addr} {bd : Nat} {h h' : Heap} {H : AH} {k i : Nat} {sl : Nat} {v : Value} {c' : Nat × List Value} (hA : AdOk A n0 bs) (I : Inv K A Z n0 bs wr s ws bd h H k) (W : Wr h h' (A.1 i) sl v) (hc : CellOk K A Z h' (A.1 i) c') : Inv K A Z n0 bs wr s ws bd h' (H.set i c') k := by
  obtain ⟨I1, I2, I3, I4, I5⟩ := I
  refine ⟨fun j c hj => ?_, by rw [W.size]; exact I2, by rw [W.size, List.length_set]; exact I3, by rw [List.length_set]; exact I4, fun j hj => I5 j (by rw [List.length_set] at hj; exact hj)⟩
  rw [List.getElem?_set] at hj
  split at hj
  · rename_i q
    subst q
    split at hj
    · cases hj; exact hc
    · cases hj
  · rename_i q
    exact (I1 j c hj).other W fun z => q (hA.1 _ _ z).symm
def KOk (Z : State) (a0 : Array Value) (C : String) (F : List (String × String)) (nsl : Nat) : Prop :=
  (Cond.instantiable C nsl).before a0 Z = true ∧ (Cond.initialized C).before a0 Z = true ∧ (∀ fd ∈ F, Laid Z a0 C C fd.1 fd.2 ∧ ∃ t, parseFieldDescriptor fd.2 = some t ∧ defaultValue t = (if fd.2 = "I" then .int 0 else .null)) ∧ (F.map (·.1)).Nodup
def hPut (wr : Nat → Bool) (cid j : Nat) (ok : Value → Bool) : Sm := fun _ st => match st with
  | (L, v :: .ref i :: r, H, k, n) => if ok v && wr i then (match H[i]? with
    | some (c, vs) => if c == cid && decide (j < vs.length) then some (none, L, r, H.set i (c, vs.set j v), k, n) else none
    | none => none) else none
  | _ => none
theorem hPut_i {cid j : Nat} {ok : Value → Bool} {L L' : Array Slot} {S S' : List Value} {H H' : AH} {k n k' n' : Nat} {nx : Option Nat} (h : hPut wr cid j ok call (L, S, H, k, n) = some (nx, L', S', H', k', n')) : ∃ i v vs, S = v :: .ref i :: S' ∧ ok v = true ∧ wr i = true ∧ H[i]? = some (cid, vs) ∧ j < vs.length ∧ nx = none ∧ L' = L ∧ H' = H.set i (cid, vs.set j v) ∧ k' = k ∧ n' = n := by
  unfold hPut at h
  split at h
  · rename_i q0
    cases q0
    split at h
    · rename_i q1
      rw [Bool.and_eq_true] at q1
      split at h
      · rename_i q2
        split at h
        · rename_i q3
          rw [Bool.and_eq_true, beq_iff_eq, decide_eq_true_eq] at q3
          obtain ⟨rfl, q3⟩ := q3
          cases h
          exact ⟨_, _, _, rfl, q1.1, q1.2, q2, q3, rfl, rfl, rfl, rfl, rfl⟩
        · cases h
      · cases h
    · cases h
  · cases h
theorem ok_put {a0 : Array Value} {cid j index nsl : Nat} {C nf d host : String} {F : List (String × String)} {ty : FieldType} {ok : Value → Bool} (hA : AdOk A n0 bs) (hK : K cid = (none, C, F)) (h0 : cid ≠ 0) (hj : F[j]? = some (nf, d)) (hF : KOk Z a0 C F nsl) (w : (Cond.fieldLink own index C nf d).before a0 Z = true ∨ (Cond.fieldLinkNest own index C nf d host).before a0 Z = true)
    (La : (Cond.lays C C nf d).before a0 Z = true ∨ ((Cond.laysFinal C C nf d).before a0 Z = true ∧ own = C ∧ nm = "<init>")) (hty : parseFieldDescriptor d = some ty) (hok : ∀ v, ok v = true → narrow ty (mv A v) = mv A v ∧ fits ty (mv A v) = true)
    (hd : decode code pc = .ok (.putfield index, 3)) : OkE l K A Z n0 bs wr own code maxL ret nm R call (pc, 3, .inl (hPut wr cid j ok)) := by
  intro L S H k n nx L' S' H' k' n' he p e s m args below meth c ws bd Q T h P hc hm hn I D
  obtain ⟨i, v, vs, rfl, q1, q2, q3, q4, rfl, rfl, rfl, rfl, rfl⟩ := hPut_i he
  have X := I.1 i _ q3
  have hi : i < H.length := (List.getElem?_eq_some_iff.mp q3).1
  obtain ⟨E, F0⟩ := X.fld hK h0 hj (List.getElem?_eq_getElem q4)
  obtain ⟨o1, o2⟩ := hok v q1
  refine wPut P w (fun _ q => q) F0 E (La.imp id fun z => ⟨z.1, z.2.1, hn.trans z.2.2⟩) hF.1 hty o1 o2 (I.2.2.2.2 i hi q2) (hb hc hd) rfl fun T' h' P' W F' => D T' h' P' (I.set hA W ?_)
  unfold CellOk
  simp only [hK]
  refine Or.inr ⟨E.wr W, fun j' fd hj' => ?_⟩
  by_cases q : j = j'
  · subst q
    cases hj.symm.trans hj'
    exact ⟨v, by rw [List.getElem?_set]; simp [q4], F'⟩
  · unfold CellOk at X
    simp only [hK] at X
    rcases X with X | ⟨X1, X2⟩
    · exact absurd X h0
    · obtain ⟨w', g1, g2⟩ := X2 j' fd hj'
      refine ⟨w', by rw [List.getElem?_set, if_neg q]; exact g1, g2.other W (Or.inr ?_)⟩
      obtain ⟨L1, t1, p1, -⟩ := hF.2.2.1 fd (List.mem_of_getElem? hj')
      obtain ⟨L2, t2, p2, -⟩ := hF.2.2.1 (nf, d) (List.mem_of_getElem? hj)
      refine slot_ne L1 L2 (fun z => q ?_) p1 p2
      have b1 : (F.map (·.1))[j']? = some fd.1 := by rw [List.getElem?_map, hj']; rfl
      have b2 : (F.map (·.1))[j]? = some fd.1 := by rw [List.getElem?_map, hj]; exact congrArg some z.symm
      exact (List.getElem?_inj (List.getElem?_eq_some_iff.mp b2).1 hF.2.2.2).mp (b2.trans b1.symm)
theorem okI {v : Value} (h : isI v = true) : narrow .int (mv A v) = mv A v ∧ fits .int (mv A v) = true := by
  obtain ⟨x, hx⟩ := isI_e h
  rw [hx]; exact ⟨rfl, rfl⟩
theorem okR {ty : FieldType} {v : Value} (ht : ty.isReference = true) (h : v.isRef = true) : narrow ty (mv A v) = mv A v ∧ fits ty (mv A v) = true := ⟨narrow_refT (mv_ref A h), fits_refT (mv_ref A h) ht⟩
theorem posSz {p : Program} {e : Env} {s : State} {m : MethodId} {args : Array Value} {below : List Frame} {meth : Method} {c : Code} {ws : List Addr} {bd : Nat} {T : State} {h : Heap} {k n : Nat} (P : Pos p l e R s m args below meth c Z own ws bd T h k n) : h.size ≤ s.heap.size + k := by
  obtain ⟨⟨L, X, N'⟩, eT, b, hZ, hx, ho, r⟩ := id P
  have q := X.same.2.2.1
  rw [← eT]; exact q
theorem Inv.push {p : Program} {e : Env} {s : State} {m : MethodId} {args : Array Value} {below : List Frame} {meth : Method} {c : Code} {ws : List Addr} {bd : Nat} {T : State} {h h' : Heap} {k n : Nat} {H : AH} {c' : Nat × List Value} (hA : AdOk A n0 bs) (I : Inv K A Z n0 bs wr s ws bd h H k) (hb : bd ≤ h.size) (P : Pos p l e R s m args below meth c Z own ws bd T h' (k + 1) n) (E : Ext h h') (hlt : h.size < h'.size) (hc : CellOk K A Z h' h.size c') :
    Inv K A Z n0 bs wr s ws bd h' (H ++ [c']) (k + 1) ∧ A.1 H.length = h.size := by
  obtain ⟨I1, I2, I3, I4, I5⟩ := I
  have z := posSz P
  have ad0 : bs + (H.length - n0) = h.size := by omega
  have ad : A.1 H.length = h.size := (hA.2 _ I4).trans ad0
  refine ⟨⟨fun j c hj => ?_, by omega, by rw [List.length_append]; simp; omega, by rw [List.length_append]; omega, fun j hj hw => ?_⟩, ad⟩
  · rw [List.getElem?_append] at hj
    split at hj
    · exact (I1 j c hj).ext E
    · rename_i q
      have q2 : j = H.length := by
        have := (List.getElem?_eq_some_iff.mp hj).1
        simp at this; omega
      subst q2
      simp at hj
      subst hj
      rw [ad]; exact hc
  · by_cases q : j < H.length
    · exact I5 j q hw
    · refine Or.inr ?_
      rw [List.length_append] at hj
      simp at hj
      have q2 : j = H.length := by omega
      subst q2
      rw [ad]; exact hb
def hNew (cid nsl : Nat) (F : List (String × String)) (R : Room) : Sm := fun _ st => match st with
  | (L, S, H, k, n) => if decide (k + 1 ≤ R.cells) && decide (n + nsl ≤ R.slots) then some (none, L, .ref H.length :: S, H ++ [(cid, F.map fun fd => if fd.2 = "I" then .int 0 else .null)], k + 1, n + nsl) else none
theorem ok_new {a0 : Array Value} {cid nsl index : Nat} {C : String} {F : List (String × String)} (hA : AdOk A n0 bs) (hK : K cid = (none, C, F)) (hF : KOk Z a0 C F nsl) (w : (Cond.classLink own index C).before a0 Z = true)
    (hd : decode code pc = .ok (.new index, 3)) : OkE l K A Z n0 bs wr own code maxL ret nm R call (pc, 3, .inl (hNew cid nsl F R)) := by
  intro L S H k n nx L' S' H' k' n' he p e s m args below meth c ws bd Q T h P hc hm hn I D
  unfold hNew at he
  dsimp only at he
  split at he
  · rename_i q
    rw [Bool.and_eq_true, decide_eq_true_eq, decide_eq_true_eq] at q
    cases he
    refine wNew P w hF.1 hF.2.1 (hb hc hd) rfl q.1 q.2 rfl rfl fun T' h' a ha hlt P' E X Dd => ?_
    subst ha
    have C1 : CellOk K A Z h' h.size (cid, F.map fun fd => if fd.2 = "I" then .int 0 else .null) := by
      unfold CellOk
      simp only [hK]
      refine Or.inr ⟨X, fun j fd hj => ?_⟩
      obtain ⟨L1, t1, p1, d1⟩ := hF.2.2.1 fd (List.mem_of_getElem? hj)
      have F1 := Dd L1 p1
      rw [d1] at F1
      refine ⟨_, by rw [List.getElem?_map, hj]; rfl, ?_⟩
      rw [show mv A (if fd.2 = "I" then Value.int 0 else Value.null) = (if fd.2 = "I" then Value.int 0 else Value.null) from by split <;> rfl]
      exact F1
    obtain ⟨I', ad⟩ := I.push hA P.ge P' E hlt C1
    have D' := D T' h' P' I'
    rw [show List.map (mv A) (.ref H.length :: S) = .ref h.size :: List.map (mv A) S from by rw [List.map_cons]; show Value.ref (A.1 H.length) :: _ = _; rw [ad]] at D'
    exact D'
  · cases he
def hNewA (cid : Nat) (dv : Value) (R : Room) : Sm := fun _ st => match st with
  | (L, .int z :: S, H, k, n) => if decide (0 ≤ z) && (decide (z.toNatClampNeg ≤ 4096) && (decide (k + 1 ≤ R.cells) && decide (n + z.toNatClampNeg ≤ R.slots))) then some (none, L, .ref H.length :: S, H ++ [(cid, List.replicate z.toNatClampNeg dv)], k + 1, n + z.toNatClampNeg) else none
  | _ => none
theorem hNewA_i {cid : Nat} {dv : Value} {L L' : Array Slot} {S S' : List Value} {H H' : AH} {k n k' n' : Nat} {nx : Option Nat} (h : hNewA cid dv R call (L, S, H, k, n) = some (nx, L', S', H', k', n')) : ∃ (z : Int32) (r : List Value) (N : Nat), S = .int z :: r ∧ z.toInt = (N : Int) ∧ N ≤ 4096 ∧ k + 1 ≤ R.cells ∧ n + N ≤ R.slots ∧ nx = none ∧ L' = L ∧ S' = .ref H.length :: r ∧ H' = H ++ [(cid, List.replicate N dv)] ∧ k' = k + 1 ∧ n' = n + N := by
  unfold hNewA at h
  split at h
  · rename_i q0
    cases q0
    split at h
    · rename_i q
      simp only [Bool.and_eq_true, decide_eq_true_eq] at q
      cases h
      obtain ⟨q1, q2, q3, q4⟩ := q
      refine ⟨_, _, _, rfl, ?_, q2, q3, q4, rfl, rfl, rfl, rfl, rfl, rfl⟩
      rw [Int32.le_iff_toInt_le, show (0 : Int32).toInt = 0 from rfl] at q1
      rw [Int32.toNatClampNeg]; omega
    · cases h
  · cases h
theorem cell_rep {h : Heap} {a : Addr} {cid N : Nat} {ty : FieldType} {ad : String} {dv dv' : Value} {F : List (String × String)} (hK : K cid = (some ty, ad, F)) (hv : dv' = mv A dv) (X : Ar Z h a ty N (fun _ => dv')) (E : Exa Z h a ad) : CellOk K A Z h a (cid, List.replicate N dv) := by
  unfold CellOk
  simp only [hK, List.length_replicate]
  refine ⟨X.congr fun i hi => ?_, E⟩
  rw [hv, List.getD_eq_getElem?_getD, List.getElem?_replicate, if_pos hi]; rfl
theorem ok_newA {a0 : Array Value} {cid : Nat} {aty : ArrayType} {ty : FieldType} {ad : String} {dv dv' : Value} {F : List (String × String)} (hA : AdOk A n0 bs) (hK : K cid = (some ty, ad, F)) (w : (Cond.arrayClass (newarray.typeOf aty)).before a0 Z = true) (had : "[" ++ (newarray.typeOf aty).toString = ad) (hty : newarray.typeOf aty = ty) (hdv : defaultValue ty = dv') (hv : dv' = mv A dv)
    (hd : decode code pc = .ok (.newarray aty, 2)) : OkE l K A Z n0 bs wr own code maxL ret nm R call (pc, 2, .inl (hNewA cid dv R)) := by
  intro L S H k n nx L' S' H' k' n' he p e s m args below meth c ws bd Q T h P hc hm hn I D
  obtain ⟨z, r, N, rfl, q1, q2, q3, q4, rfl, rfl, rfl, rfl, rfl, rfl⟩ := hNewA_i he
  refine wNewA (aty := aty) P w (hb hc hd) rfl q1 (Nat.le_refl N) (by omega) q3 q4 had hty hdv rfl rfl fun T' h' a ha hlt P' E X Ex => ?_
  subst ha
  obtain ⟨I', ad'⟩ := I.push hA P.ge P' E hlt (cell_rep hK hv X Ex)
  have D' := D T' h' P' I'
  rw [show List.map (mv A) (.ref H.length :: r) = .ref h.size :: List.map (mv A) r from by rw [List.map_cons]; show Value.ref (A.1 H.length) :: _ = _; rw [ad']] at D'
  exact D'
theorem ok_anewA {a0 : Array Value} {cid index : Nat} {ty : FieldType} {C ad : String} {F : List (String × String)} (hA : AdOk A n0 bs) (hK : K cid = (some (.array ty), ad, F)) (hC : (FieldType.array ty).toString = C) (w1 : (Cond.classLink own index C).before a0 Z = true) (w2 : (Cond.arrayOver (.array ty)).before a0 Z = true) (had : "[" ++ C = ad)
    (hd : decode code pc = .ok (.anewarray index, 3)) : OkE l K A Z n0 bs wr own code maxL ret nm R call (pc, 3, .inl (hNewA cid .null R)) := by
  intro L S H k n nx L' S' H' k' n' he p e s m args below meth c ws bd Q T h P hc hm hn I D
  obtain ⟨z, r, N, rfl, q1, q2, q3, q4, rfl, rfl, rfl, rfl, rfl, rfl⟩ := hNewA_i he
  refine wANewA P hC w1 w2 (hb hc hd) rfl q1 (Nat.le_refl N) (by omega) q3 q4 had rfl rfl fun T' h' a ha hlt P' E X Ex => ?_
  subst ha
  obtain ⟨I', ad'⟩ := I.push hA P.ge P' E hlt (cell_rep hK (dv := .null) rfl X Ex)
  have D' := D T' h' P' I'
  rw [show List.map (mv A) (.ref H.length :: r) = .ref h.size :: List.map (mv A) r from by rw [List.map_cons]; show Value.ref (A.1 H.length) :: _ = _; rw [ad']] at D'
  exact D'
def hLen (K : Kls) : Sm := fun _ st => match st with
  | (L, .ref i :: S, H, k, n) => (match H[i]? with
    | some (c, vs) => if (K c).1.isSome then some (none, L, .int vs.length.toInt32 :: S, H, k, n) else none
    | none => none)
  | _ => none
theorem ok_len (hd : decode code pc = .ok (.arraylength, 1)) : OkE l K A Z n0 bs wr own code maxL ret nm R call (pc, 1, .inl (hLen K)) := by
  intro L S H k n nx L' S' H' k' n' he p e s m args below meth c ws bd Q T h P hc hm hn I D
  unfold hLen at he
  split at he
  · rename_i q0
    cases q0
    split at he
    · rename_i q1
      split at he
      · rename_i q2
        cases he
        have X := I.1 _ _ q1
        unfold CellOk at X
        split at X
        · exact wLen P X.1 (toI32 X.1.len) (hb hc hd) rfl (D T h P I)
        · rename_i q3; rw [q3] at q2; cases q2
      · cases he
    · cases he
  · cases he
def hALoad (cid : Nat) : Sm := fun _ st => match st with
  | (L, .int j :: .ref i :: S, H, k, n) => (match H[i]? with
    | some (c, vs) => if c == cid && decide (0 ≤ j) then (match vs[j.toNatClampNeg]? with | some v => some (none, L, v :: S, H, k, n) | none => none) else none
    | none => none)
  | _ => none
theorem i32n {j : Int32} (h : 0 ≤ j) : j.toInt = (j.toNatClampNeg : Int) := by
  rw [Int32.le_iff_toInt_le, show (0 : Int32).toInt = 0 from rfl] at h
  rw [Int32.toNatClampNeg]; omega
theorem hALoad_i {cid : Nat} {L L' : Array Slot} {S S' : List Value} {H H' : AH} {k n k' n' : Nat} {nx : Option Nat} (h : hALoad cid call (L, S, H, k, n) = some (nx, L', S', H', k', n')) : ∃ (i N : Nat) (j : Int32) (r vs : List Value) (v : Value), S = .int j :: .ref i :: r ∧ H[i]? = some (cid, vs) ∧ j.toInt = (N : Int) ∧ vs[N]? = some v ∧ nx = none ∧ L' = L ∧ S' = v :: r ∧ H' = H ∧ k' = k ∧ n' = n := by
  unfold hALoad at h
  split at h
  · rename_i q0
    cases q0
    split at h
    · rename_i q1
      split at h
      · rename_i q2
        rw [Bool.and_eq_true, beq_iff_eq, decide_eq_true_eq] at q2
        obtain ⟨rfl, q2⟩ := q2
        split at h
        · rename_i q3
          cases h
          exact ⟨_, _, _, _, _, _, rfl, q1, i32n q2, q3, rfl, rfl, rfl, rfl, rfl, rfl⟩
        · cases h
      · cases h
    · cases h
  · cases h
theorem CellOk.arr {cid : Nat} {ty : FieldType} {ad : String} {F : List (String × String)} {h : Heap} {a : Addr} {vs : List Value} (hK : K cid = (some ty, ad, F)) (X : CellOk K A Z h a (cid, vs)) : Ar Z h a ty vs.length (fun i => mv A (vs.getD i .null)) ∧ Exa Z h a ad := by
  unfold CellOk at X
  simp only [hK] at X
  exact X
theorem getD_of {vs : List Value} {N : Nat} {v : Value} (h : vs[N]? = some v) : mv A (vs.getD N .null) = mv A v := by rw [List.getD_eq_getElem?_getD, h]; rfl
theorem ok_iaload {cid : Nat} {ad : String} {F : List (String × String)} (hK : K cid = (some .int, ad, F)) (hd : decode code pc = .ok (.iaload, 1)) : OkE l K A Z n0 bs wr own code maxL ret nm R call (pc, 1, .inl (hALoad cid)) := by
  intro L S H k n nx L' S' H' k' n' he p e s m args below meth c ws bd Q T h P hc hm hn I D
  obtain ⟨i, N, j, r, vs, v, rfl, q1, q2, q3, rfl, rfl, rfl, rfl, rfl, rfl⟩ := hALoad_i he
  exact wIaload P ((I.1 i _ q1).arr hK).1 q2 (List.getElem?_eq_some_iff.mp q3).1 (getD_of q3) (hb hc hd) rfl (D T h P I)
theorem ok_daload {cid : Nat} {ad : String} {F : List (String × String)} (hK : K cid = (some .double, ad, F)) (hd : decode code pc = .ok (.daload, 1)) : OkE l K A Z n0 bs wr own code maxL ret nm R call (pc, 1, .inl (hALoad cid)) := by
  intro L S H k n nx L' S' H' k' n' he p e s m args below meth c ws bd Q T h P hc hm hn I D
  obtain ⟨i, N, j, r, vs, v, rfl, q1, q2, q3, rfl, rfl, rfl, rfl, rfl, rfl⟩ := hALoad_i he
  exact wDaload P ((I.1 i _ q1).arr hK).1 q2 (List.getElem?_eq_some_iff.mp q3).1 (getD_of q3) (hb hc hd) rfl (D T h P I)
theorem ok_aaload {cid : Nat} {ty : FieldType} {ad : String} {F : List (String × String)} (hK : K cid = (some ty, ad, F)) (hty : ty.isReference = true) (hd : decode code pc = .ok (.aaload, 1)) : OkE l K A Z n0 bs wr own code maxL ret nm R call (pc, 1, .inl (hALoad cid)) := by
  intro L S H k n nx L' S' H' k' n' he p e s m args below meth c ws bd Q T h P hc hm hn I D
  obtain ⟨i, N, j, r, vs, v, rfl, q1, q2, q3, rfl, rfl, rfl, rfl, rfl, rfl⟩ := hALoad_i he
  exact wAaload P ((I.1 i _ q1).arr hK).1 hty q2 (List.getElem?_eq_some_iff.mp q3).1 (getD_of q3) (hb hc hd) rfl (D T h P I)
theorem ok_baload {cid : Nat} {ad : String} {F : List (String × String)} (hK : K cid = (some .boolean, ad, F)) (hd : decode code pc = .ok (.baload, 1)) : OkE l K A Z n0 bs wr own code maxL ret nm R call (pc, 1, .inl (hALoad cid)) := by
  intro L S H k n nx L' S' H' k' n' he p e s m args below meth c ws bd Q T h P hc hm hn I D
  obtain ⟨i, N, j, r, vs, v, rfl, q1, q2, q3, rfl, rfl, rfl, rfl, rfl, rfl⟩ := hALoad_i he
  obtain ⟨⟨L1, X, N'⟩, eT, b, hZ, hx, ho, hlk, _, _⟩ := id P
  obtain ⟨cl, Ar, Sz, hN, Hs⟩ := ((I.1 i _ q1).arr hK).1
  obtain ⟨z1, z2⟩ := in_of Sz q2 (List.getElem?_eq_some_iff.mp q3).1
  have g : cl.slots[N]? = some (mv A (vs.getD N .null)) := Hs N (List.getElem?_eq_some_iff.mp q3).1
  rw [getD_of q3] at g
  exact Done.step (fun t kk => X.baloadBooleans hx (by rw [eT]; exact Ar.1) (State.isArrayOf_alike hZ.alike Ar.2.1) Ar.2.2 z1 (by rw [z2]; exact g) (g := mkF m pc _ (.int j :: .ref (A.1 i) :: _)) rfl rfl (hb hc hd) t kk) (D T h P I)
def hAStore (wr : Nat → Bool) (cid : Nat) (ok : AH → Value → Bool) : Sm := fun _ st => match st with
  | (L, v :: .int j :: .ref i :: S, H, k, n) => if ok H v && (wr i && decide (0 ≤ j)) then (match H[i]? with
    | some (c, vs) => if c == cid && decide (j.toNatClampNeg < vs.length) then some (none, L, S, H.set i (c, vs.set j.toNatClampNeg v), k, n) else none
    | none => none) else none
  | _ => none
theorem hAStore_i {cid : Nat} {ok : AH → Value → Bool} {L L' : Array Slot} {S S' : List Value} {H H' : AH} {k n k' n' : Nat} {nx : Option Nat} (h : hAStore wr cid ok call (L, S, H, k, n) = some (nx, L', S', H', k', n')) : ∃ (i N : Nat) (j : Int32) (vs : List Value) (v : Value), S = v :: .int j :: .ref i :: S' ∧ ok H v = true ∧ wr i = true ∧ H[i]? = some (cid, vs) ∧ j.toInt = (N : Int) ∧ N < vs.length ∧ nx = none ∧ L' = L ∧ H' = H.set i (cid, vs.set N v) ∧ k' = k ∧ n' = n := by
  unfold hAStore at h
  split at h
  · rename_i q0
    cases q0
    split at h
    · rename_i q1
      simp only [Bool.and_eq_true, decide_eq_true_eq] at q1
      split at h
      · rename_i q2
        split at h
        · rename_i q3
          rw [Bool.and_eq_true, beq_iff_eq, decide_eq_true_eq] at q3
          obtain ⟨rfl, q3⟩ := q3
          cases h
          exact ⟨_, _, _, _, _, rfl, q1.1, q1.2.1, q2, i32n q1.2.2, q3, rfl, rfl, rfl, rfl, rfl⟩
        · cases h
      · cases h
    · cases h
  · cases h
theorem CellOk.aset {cid N : Nat} {ty : FieldType} {ad : String} {F : List (String × String)} {h h' : Heap} {a : Addr} {vs : List Value} {v : Value} (hK : K cid = (some ty, ad, F)) (X : CellOk K A Z h a (cid, vs)) (hN : N < vs.length) (W : Wr h h' a N (mv A v)) : CellOk K A Z h' a (cid, vs.set N v) := by
  obtain ⟨⟨cl, Ar', S, hL, Hs⟩, E⟩ := X.arr hK
  unfold CellOk
  simp only [hK, List.length_set]
  refine ⟨(Ar.set Ar' S hL Hs hN W).congr fun i hi => ?_, E.wr W⟩
  unfold oupd
  show (if i = N then mv A v else mv A (vs.getD i .null)) = _
  by_cases q : i = N
  · subst q; rw [if_pos rfl, List.getD_eq_getElem?_getD, List.getElem?_set, if_pos rfl, if_pos hN]; rfl
  · rw [if_neg q, List.getD_eq_getElem?_getD, List.getD_eq_getElem?_getD, List.getElem?_set, if_neg (Ne.symm q)]
theorem ok_iastore {cid : Nat} {ad : String} {F : List (String × String)} (hA : AdOk A n0 bs) (hK : K cid = (some .int, ad, F)) (hd : decode code pc = .ok (.iastore, 1)) : OkE l K A Z n0 bs wr own code maxL ret nm R call (pc, 1, .inl (hAStore wr cid (fun _ => isI))) := by
  intro L S H k n nx L' S' H' k' n' he p e s m args below meth c ws bd Q T h P hc hm hn I D
  obtain ⟨i, N, j, vs, v, rfl, q1, q2, q3, q4, q5, rfl, rfl, rfl, rfl, rfl⟩ := hAStore_i he
  obtain ⟨⟨L1, X, N'⟩, eT, b, hZ, hx, ho, r⟩ := id P
  obtain ⟨⟨cl, Ar', Sz, hN, Hs⟩, E⟩ := (I.1 i _ q3).arr hK
  obtain ⟨z1, z2⟩ := in_of Sz q4 q5
  obtain ⟨x, hxv⟩ := isI_e q1
  obtain ⟨T', h', X', e', W, stp⟩ := stI X hx hZ eT Ar' z1 (x := x A) (g := mkF m pc (L'.map (ml A)) ((v :: .int j :: .ref i :: S').map (mv A))) rfl (by show List.map (mv A) _ = _; rw [List.map_cons, hxv]; rfl) (hb hc hd)
  rw [z2, ← hxv] at W
  have hi : i < H.length := (List.getElem?_eq_some_iff.mp q3).1
  exact Done.step stp (D T' h' ⟨⟨_, X', Fw.snoc N' (I.2.2.2.2 i hi q2)⟩, e', by rw [W.size]; exact b, hZ, hx, ho, r⟩ (I.set hA W ((I.1 i _ q3).aset hK q5 W)))
theorem ok_dastore {cid : Nat} {ad : String} {F : List (String × String)} (hA : AdOk A n0 bs) (hK : K cid = (some .double, ad, F)) (hd : decode code pc = .ok (.dastore, 1)) : OkE l K A Z n0 bs wr own code maxL ret nm R call (pc, 1, .inl (hAStore wr cid (fun _ => isD))) := by
  intro L S H k n nx L' S' H' k' n' he p e s m args below meth c ws bd Q T h P hc hm hn I D
  obtain ⟨i, N, j, vs, v, rfl, q1, q2, q3, q4, q5, rfl, rfl, rfl, rfl, rfl⟩ := hAStore_i he
  obtain ⟨⟨L1, X, N'⟩, eT, b, hZ, hx, ho, r⟩ := id P
  obtain ⟨⟨cl, Ar', Sz, hN, Hs⟩, E⟩ := (I.1 i _ q3).arr hK
  obtain ⟨z1, z2⟩ := in_of Sz q4 q5
  obtain ⟨x, rfl⟩ := isD_e q1
  obtain ⟨T', h', X', e', W, stp⟩ := stD X hx hZ eT Ar' z1 (x := A.2.1 x) (g := mkF m pc (L'.map (ml A)) ((.double x :: .int j :: .ref i :: S').map (mv A))) rfl rfl (hb hc hd)
  rw [z2] at W
  have hi : i < H.length := (List.getElem?_eq_some_iff.mp q3).1
  exact Done.step stp (D T' h' ⟨⟨_, X', Fw.snoc N' (I.2.2.2.2 i hi q2)⟩, e', by rw [W.size]; exact b, hZ, hx, ho, r⟩ (I.set hA W ((I.1 i _ q3).aset (v := .double x) hK q5 W)))
def isZ : Value → Bool
  | .int x => decide (nar .boolean x = x)
  | _ => false
theorem ok_zastore {cid : Nat} {ad : String} {F : List (String × String)} (hA : AdOk A n0 bs) (hK : K cid = (some .boolean, ad, F)) (hd : decode code pc = .ok (.bastore, 1)) : OkE l K A Z n0 bs wr own code maxL ret nm R call (pc, 1, .inl (hAStore wr cid (fun _ => isZ))) := by
  intro L S H k n nx L' S' H' k' n' he p e s m args below meth c ws bd Q T h P hc hm hn I D
  obtain ⟨i, N, j, vs, v, rfl, q1, q2, q3, q4, q5, rfl, rfl, rfl, rfl, rfl⟩ := hAStore_i he
  obtain ⟨⟨L1, X, N'⟩, eT, b, hZ, hx, ho, r⟩ := id P
  obtain ⟨⟨cl, Ar', Sz, hN, Hs⟩, E⟩ := (I.1 i _ q3).arr hK
  obtain ⟨z1, z2⟩ := in_of Sz q4 q5
  obtain ⟨x, rfl, hxz⟩ : ∃ x, v = .int x ∧ nar .boolean x = x := by
    cases v with
    | int x => exact ⟨x, rfl, of_decide_eq_true q1⟩
    | _ => cases q1
  obtain ⟨T', h', X', e', W, stp⟩ := stZ X hx hZ eT Ar' z1 (x := x) (g := mkF m pc (L'.map (ml A)) ((.int x :: .int j :: .ref i :: S').map (mv A))) rfl rfl (hb hc hd)
  rw [z2, hxz] at W
  have hi : i < H.length := (List.getElem?_eq_some_iff.mp q3).1
  exact Done.step stp (D T' h' ⟨⟨_, X', Fw.snoc N' (I.2.2.2.2 i hi q2)⟩, e', by rw [W.size]; exact b, hZ, hx, ho, r⟩ (I.set hA W ((I.1 i _ q3).aset (v := .int x) hK q5 W)))
def isCl (cc : Nat) (H : AH) : Value → Bool
  | .ref i => (match H[i]? with | some (c, _) => c == cc | none => false)
  | _ => false
theorem isCl_e {cc : Nat} {H : AH} {v : Value} (h : isCl cc H v = true) : ∃ i vs, v = .ref i ∧ H[i]? = some (cc, vs) := by
  unfold isCl at h
  split at h
  · split at h
    · rename_i q
      rw [beq_iff_eq] at h
      subst h
      exact ⟨_, _, rfl, q⟩
    · cases h
  · cases h
theorem ok_aastore {a0 : Array Value} {cid cc : Nat} {ty ty2 : FieldType} {C ad : String} {F F2 : List (String × String)} (hA : AdOk A n0 bs) (hK : K cid = (some (.array ty), ad, F)) (hK2 : K cc = (some ty2, C, F2)) (hC : (FieldType.array ty).toString = C) (had : "[" ++ C = ad) (w2 : (Cond.arrayOver (.array ty)).before a0 Z = true)
    (hd : decode code pc = .ok (.aastore, 1)) : OkE l K A Z n0 bs wr own code maxL ret nm R call (pc, 1, .inl (hAStore wr cid (isCl cc))) := by
  intro L S H k n nx L' S' H' k' n' he p e s m args below meth c ws bd Q T h P hc hm hn I D
  obtain ⟨i, N, j, vs, v, rfl, q1, q2, q3, q4, q5, rfl, rfl, rfl, rfl, rfl⟩ := hAStore_i he
  obtain ⟨⟨L1, X, N'⟩, eT, b, hZ, hx, ho, r⟩ := id P
  obtain ⟨Aa, E⟩ := (I.1 i _ q3).arr hK
  obtain ⟨iv, vs2, rfl, g1⟩ := isCl_e q1
  obtain ⟨A2, E2⟩ := (I.1 iv _ g1).arr hK2
  have St1 : Sto Z h (A.1 i) (.ref (A.1 iv)) := sto_arr Aa E hC had w2 (Ins.self E2)
  obtain ⟨cl, Ar', Sz, hN, Hs⟩ := Aa
  obtain ⟨z1, z2⟩ := in_of Sz q4 q5
  obtain ⟨T', h', X', e', W, stp⟩ := stR X hx hZ eT Ar' z1 rfl St1 (g := mkF m pc (L'.map (ml A)) ((.ref iv :: .int j :: .ref i :: S').map (mv A))) rfl rfl (hb hc hd)
  rw [z2] at W
  have hi : i < H.length := (List.getElem?_eq_some_iff.mp q3).1
  exact Done.step stp (D T' h' ⟨⟨_, X', Fw.snoc N' (I.2.2.2.2 i hi q2)⟩, e', by rw [W.size]; exact b, hZ, hx, ho, r⟩ (I.set hA W ((I.1 i _ q3).aset (v := .ref iv) hK q5 W)))
def hCast (cid : Nat) : Sm := fun _ st => match st with
  | (L, v :: S, H, k, n) => if isCl cid H v then some (none, L, v :: S, H, k, n) else none
  | _ => none
theorem ok_cast {a0 : Array Value} {cid index : Nat} {ty : FieldType} {C : String} {F : List (String × String)} (hK : K cid = (some ty, C, F)) (w : (Cond.classLink own index C).before a0 Z = true) (hd : decode code pc = .ok (.checkcast index, 3)) : OkE l K A Z n0 bs wr own code maxL ret nm R call (pc, 3, .inl (hCast cid)) := by
  intro L S H k n nx L' S' H' k' n' he p e s m args below meth c ws bd Q T h P hc hm hn I D
  unfold hCast at he
  split at he
  · rename_i q0
    cases q0
    split at he
    · rename_i q1
      cases he
      obtain ⟨i, vs, rfl, g1⟩ := isCl_e q1
      exact wCast P w (Ins.self ((I.1 i _ g1).arr hK).2) (hb hc hd) rfl fun T' P' => D T' h P' I
    · cases he
  · cases he
def hObj (maxL : Nat) (R : Room) : Sm := fun _ st => match st with
  | (L, .ref i :: S, H, k, n) => if L.size == maxL && (decide (1 ≤ R.frames) && decide ((S.map fun v => v.category).sum + 12 ≤ R.locals)) then some (none, L, S, H, k, n) else none
  | _ => none
theorem sum_cat (S : List Value) : ((S.map (mv A)).map fun v => v.category).sum = (S.map fun v => v.category).sum := by
  rw [List.map_map]; congr 1; exact List.map_congr_left fun v _ => mv_cat A v
theorem ok_obj {a0 : Array Value} {index : Nat} (w1 : (Cond.methodLink own index Lib.objectInit).before a0 Z = true) (w2 : (Cond.instanceMethod Lib.objectInit).before a0 Z = true) (w3 : (Cond.code Lib.objectInit ⟨#[0xb1]⟩ 1 none).before a0 Z = true) (hd : decode code pc = .ok (.invokespecial index, 3)) : OkE l K A Z n0 bs wr own code maxL ret nm R call (pc, 3, .inl (hObj maxL R)) := by
  intro L S H k n nx L' S' H' k' n' he p e s m args below meth c ws bd Q T h P hc hm hn I D
  unfold hObj at he
  split at he
  · rename_i q0
    cases q0
    split at he
    · rename_i q1
      simp only [Bool.and_eq_true, beq_iff_eq, decide_eq_true_eq] at q1
      cases he
      exact wInit P w1 w2 w3 (by rw [Array.size_map, hm]; exact q1.1) (hb hc hd) q1.2.1 (Nat.le_of_eq (sum_cat _)) q1.2.2 rfl fun T' P' => D T' h P' I
    · cases he
  · cases he
def hMax (maxL : Nat) (R : Room) : Sm := fun _ st => match st with
  | (L, .double y :: .double x :: S, H, k, n) => if L.size == maxL && (decide (1 ≤ R.frames) && (decide ((S.map fun v => v.category).sum + 15 ≤ R.locals) && (isC x && (isC y && (nnb x && (nnb y && isC (Native.java_lang_Math.nans.pick64 true x y))))))) then some (none, L, .double (Native.java_lang_Math.nans.pick64 true x y) :: S, H, k, n) else none
  | _ => none
theorem ok_max {a0 : Array Value} {index : Nat} (hT : TpOk A tp) (w1 : (Cond.methodLink own index Jvm.Free.Fl.Abs.maxDN).before a0 Z = true) (w2 : (Cond.static Jvm.Free.Fl.Abs.maxDN).before a0 Z = true) (w3 : (Cond.initialized "java/lang/Math").before a0 Z = true) (w4 : (Cond.code Jvm.Free.Fl.Abs.maxDN Jvm.Free.Fl.Abs.maxDCode 4 (some .double)).before a0 Z = true) (hpd : parseMethodDescriptor "(DD)D" = some ⟨[.double, .double], some .double⟩)
    (hd : decode code pc = .ok (.invokestatic index, 3)) : OkE l K A Z n0 bs wr own code maxL ret nm R call (pc, 3, .inl (hMax maxL R)) := by
  intro L S H k n nx L' S' H' k' n' he p e s m args below meth c ws bd Q T h P hc hm hn I D
  unfold hMax at he
  split at he
  · rename_i y x S1 _ _ _ q0
    cases q0
    split at he
    · rename_i q1
      simp only [Bool.and_eq_true, beq_iff_eq, decide_eq_true_eq] at q1
      cases he
      obtain ⟨c1, c2, c3, c4, c5, c6, c7, c8⟩ := q1
      refine wNat (argsL := [.double x, .double y]) (rest := S1.map (mv A)) (W := (S1.map fun v => v.category).sum) (F := fun a' => a' = #[.double x, .double y] ∧ Jvm.Free.Fl.NoNaN64 x ∧ Jvm.Free.Fl.NoNaN64 y) P w1 w2 w3 w4 (by decide) (fun hcc => Jvm.Free.Fl.Abs.maxD_pays x y hcc c2 c3) (by rw [Array.size_map, hm]; exact c1) (fun sig hs => by rw [show parseMethodDescriptor Jvm.Free.Fl.Abs.maxDN.desc = parseMethodDescriptor "(DD)D" from rfl, hpd] at hs; cases hs; rfl) ?_ (Nat.le_of_eq (sum_cat _)) (hb hc hd) rfl ⟨rfl, of_decide_eq_true c6, of_decide_eq_true c7⟩ fun T' P' => ?_
      · rw [List.map_cons, List.map_cons]; show Value.double (A.2.1 y) :: Value.double (A.2.1 x) :: _ = _; rw [hT.1 _ c4, hT.1 _ c5]; rfl
      · have D' := D T' h P' I
        rw [List.map_cons, show mv A (.double (Native.java_lang_Math.nans.pick64 true x y)) = .double (Native.java_lang_Math.nans.pick64 true x y) from congrArg Value.double (hT.1 _ c8)] at D'
        exact D'
    · cases he
  · cases he
def hClone (cid : Nat) (ok : Value → Bool) (maxL : Nat) (R : Room) : Sm := fun _ st => match st with
  | (L, .ref i :: S, H, k, n) => (match H[i]? with
    | some (c, vs) => if c == cid && (vs.all ok && (L.size == maxL && (decide (1 ≤ R.frames) && (decide ((S.map fun v => v.category).sum + 14 ≤ R.locals) && (decide (k + 1 ≤ R.cells) && decide (n + vs.length ≤ R.slots)))))) then some (none, L, .ref H.length :: S, H ++ [(c, vs)], k + 1, n + vs.length) else none
    | none => none)
  | _ => none
theorem ok_cloneI {a0 : Array Value} {cid index : Nat} {F : List (String × String)} (hA : AdOk A n0 bs) (hK : K cid = (some .int, "[I", F)) (w1 : (Cond.methodLink own index ⟨"[I", "clone", "()Ljava/lang/Object;"⟩).before a0 Z = true) (w2 : (Cond.sameMethod "[I" "java/lang/Object" "clone" "()Ljava/lang/Object;").before a0 Z = true) (w3 : (Cond.native ⟨"java/lang/Object", "clone", "()Ljava/lang/Object;"⟩).before a0 Z = true)
    (w4 : (Cond.instanceMethod ⟨"java/lang/Object", "clone", "()Ljava/lang/Object;"⟩).before a0 Z = true) (w5 : (Cond.selects "[I" ⟨"[I", "clone", "()Ljava/lang/Object;"⟩ ⟨"java/lang/Object", "clone", "()Ljava/lang/Object;"⟩).before a0 Z = true) (w6 : (Cond.castable "[I" "java/lang/Cloneable").before a0 Z = true)
    (hd : decode code pc = .ok (.invokevirtual index, 3)) : OkE l K A Z n0 bs wr own code maxL ret nm R call (pc, 3, .inl (hClone cid isI maxL R)) := by
  intro L S H k n nx L' S' H' k' n' he p e s m args below meth c ws bd Q T h P hc hm hn I D
  unfold hClone at he
  split at he
  · rename_i L0 i S1 _ _ _ q0
    cases q0
    split at he
    · rename_i cc vs q1
      split at he
      · rename_i q2
        simp only [Bool.and_eq_true, beq_iff_eq, decide_eq_true_eq] at q2
        obtain ⟨rfl, c1, c2, c3, c4, c5, c6⟩ := q2
        cases he
        obtain ⟨⟨L1, X, N'⟩, eT, b, hZ, hx, ho, hlk, _, _⟩ := id P
        obtain ⟨⟨cl, Ar, Sz, hN, Hs⟩, E⟩ := (I.1 i _ q1).arr hK
        have FC : FitC Z cl := fitC_of Ar fun j hj v hv => by
          have hj' : j < vs.length := by omega
          rw [Hs j hj'] at hv
          cases hv
          have q3 := List.all_eq_true.mp c1 _ (List.getElem_mem hj')
          obtain ⟨x, hx⟩ := isI_e q3
          show fits _ (mv A (vs.getD j .null)) = true
          rw [List.getD_eq_getElem?_getD, List.getElem?_eq_getElem hj']
          show fits _ (mv A vs[j]) = true
          rw [hx]; rfl
        obtain ⟨T', h', X', e', ex, A', E', stp⟩ := cloneA X hx hZ ho w1 w2 w3 w4 w5 w6 eT Ar E FC (g := mkF m pc (L.map (ml A)) ((.ref i :: S1).map (mv A))) rfl (by show (L.map (ml A)).size = _; rw [Array.size_map, hm]; exact c2) rfl (hb hc hd) c3 (W := (S1.map fun v => v.category).sum) (by rw [sum_cat]; show 2 * 0 + _ ≤ _; omega) c4 (cap := vs.length) (by omega) c5 c6
        have P' : Pos p l e R s m args below meth c Z own ws bd T' h' (k + 1) (n + vs.length) := ⟨⟨L1, X', N'⟩, e', Nat.le_trans b ex.1, hZ, hx, ho, hlk, c5, c6⟩
        have C1 : CellOk K A Z h' h.size (cc, vs) := by
          unfold CellOk
          simp only [hK]
          exact ⟨⟨_, A', Sz, hN, Hs⟩, E'⟩
        obtain ⟨I', ad⟩ := I.push hA b P' ex A'.lt C1
        have D' := D T' h' P' I'
        rw [show List.map (mv A) (.ref H.length :: S1) = .ref h.size :: List.map (mv A) S1 from by rw [List.map_cons]; show Value.ref (A.1 H.length) :: _ = _; rw [ad]] at D'
        exact Done.step stp D'
      · cases he
    · cases he
  · cases he
def CallOk (l : Launch) (K : Kls) (A : Den) (Z : State) (n0 bs : Nat) (wr : Nat → Bool) (MY : Nat → MethodName) (MC : Nat → ByteArray) (ML : Nat → Nat) (MR : Nat → Option FieldType) (MM : Nat → Room) (call : Caller) : Prop :=
  ∀ id as H v H', call id as H = some (v, H') → ∀ (h : Heap) (ws : List Addr), (∀ (i : Nat) (c : Nat × List Value), H[i]? = some c → CellOk K A Z h (A.1 i) c) → h.size + n0 = bs + H.length → n0 ≤ H.length → (∀ i, i < H.length → wr i = true → A.1 i ∈ ws) →
    OMet l (MY id) (MC id) (ML id) (MR id) [] (MM id) Z h ws (as.map (mv A)).toArray (fun v' h' => v' = v.map (mv A) ∧ (∀ (i : Nat) (c : Nat × List Value), H'[i]? = some c → CellOk K A Z h' (A.1 i) c) ∧ h'.size = h.size + (MM id).cells ∧ H'.length = H.length + (MM id).cells)
def hCall (id na : Nat) (chk : AH → List Value → Bool) (rm : Room) (ml' maxL : Nat) (R : Room) : Sm := fun call st => match st with
  | (L, S, H, k, n) => if decide (na ≤ S.length) && (L.size == maxL && (decide (rm.frames + 1 ≤ R.frames) && (decide (((S.drop na).map fun v => v.category).sum + (ml' + 11) + rm.locals ≤ R.locals) && (decide (k + rm.cells ≤ R.cells) && (decide (n + rm.slots ≤ R.slots) && chk H (S.take na).reverse))))) then
      (match call id (S.take na).reverse H with
      | some (v, H') => some (none, L, v.toList ++ S.drop na, H', k + rm.cells, n + rm.slots)
      | none => none) else none
theorem hCall_i {id na : Nat} {chk : AH → List Value → Bool} {rm : Room} {ml' : Nat} {L L' : Array Slot} {S S' : List Value} {H H' : AH} {k n k' n' : Nat} {nx : Option Nat} (h : hCall id na chk rm ml' maxL R call (L, S, H, k, n) = some (nx, L', S', H', k', n')) :
    ∃ argsL rest v, S = argsL.reverse ++ rest ∧ argsL.length = na ∧ chk H argsL = true ∧ L.size = maxL ∧ rm.frames + 1 ≤ R.frames ∧ (rest.map fun v => v.category).sum + (ml' + 11) + rm.locals ≤ R.locals ∧ k + rm.cells ≤ R.cells ∧ n + rm.slots ≤ R.slots ∧ call id argsL H = some (v, H') ∧ nx = none ∧ L' = L ∧ S' = v.toList ++ rest ∧ k' = k + rm.cells ∧ n' = n + rm.slots := by
  unfold hCall at h
  dsimp only at h
  split at h
  · rename_i q
    simp only [Bool.and_eq_true, beq_iff_eq, decide_eq_true_eq] at q
    obtain ⟨c1, c2, c3, c4, c5, c6, c7⟩ := q
    split at h
    · rename_i q2
      cases h
      exact ⟨(S.take na).reverse, S.drop na, _, by rw [List.reverse_reverse, List.take_append_drop], by rw [List.length_reverse, List.length_take]; omega, c7, c2, c3, c4, c5, c6, q2, rfl, rfl, rfl, rfl, rfl⟩
    · cases h
  · cases h
def wsOf (A : Den) (wr : Nat → Bool) (H : AH) : List Addr := ((List.range H.length).filter wr).map A.1
theorem wsOf_in {H : AH} {i : Nat} (hi : i < H.length) (hw : wr i = true) : A.1 i ∈ wsOf A wr H := List.mem_map.mpr ⟨i, List.mem_filter.mpr ⟨List.mem_range.mpr hi, hw⟩, rfl⟩
theorem Inv.ws {s : State} {ws : List Addr} {bd : Nat} {h : Heap} {H : AH} {k : Nat} (I : Inv K A Z n0 bs wr s ws bd h H k) : ∀ x ∈ wsOf A wr H, x ∈ ws ∨ bd ≤ x := fun x hx => by
  obtain ⟨i, h1, rfl⟩ := List.mem_map.mp hx
  obtain ⟨h2, h3⟩ := List.mem_filter.mp h1
  exact I.2.2.2.2 i (List.mem_range.mp h2) h3
theorem Inv.called {s : State} {ws : List Addr} {bd : Nat} {h h' : Heap} {H H' : AH} {k r : Nat} (hA : AdOk A n0 bs) (I : Inv K A Z n0 bs wr s ws bd h H k) (hbd : bd ≤ h.size) (h1 : ∀ (i : Nat) (c : Nat × List Value), H'[i]? = some c → CellOk K A Z h' (A.1 i) c) (h2 : h'.size = h.size + r) (h3 : H'.length = H.length + r) : Inv K A Z n0 bs wr s ws bd h' H' (k + r) := by
  obtain ⟨I1, I2, I3, I4, I5⟩ := I
  refine ⟨h1, by omega, by omega, by omega, fun i hi hw => ?_⟩
  by_cases q : i < H.length
  · exact I5 i q hw
  · refine Or.inr ?_
    have e1 : bd ≤ bs + (i - n0) := by omega
    exact Nat.le_trans e1 (Nat.le_of_eq (hA.2 i (by omega)).symm)
variable {MY : Nat → MethodName} {MC : Nat → ByteArray} {ML : Nat → Nat} {MR : Nat → Option FieldType} {MM : Nat → Room}
theorem ok_callS {a0 : Array Value} {id na index ml' : Nat} {rm : Room} {sg : MethodDescriptor} (hA : AdOk A n0 bs) (hC : CallOk l K A Z n0 bs wr MY MC ML MR MM call) (hrm : MM id = rm) (hml : ML id = ml') (w1 : (Cond.methodLink own index (MY id)).before a0 Z = true) (w2 : (Cond.static (MY id)).before a0 Z = true) (w3 : (Cond.initialized (MY id).cls).before a0 Z = true) (w4 : (Cond.code (MY id) (MC id) (ML id) (MR id)).before a0 Z = true)
    (hy : (MY id).cls ≠ "java/lang/invoke/MethodHandle" ∧ (MY id).cls ≠ "java/lang/invoke/VarHandle") (hpd : parseMethodDescriptor (MY id).desc = some sg) (hna : sg.parameters.length = na)
    (hd : decode code pc = .ok (.invokestatic index, 3)) : OkE l K A Z n0 bs wr own code maxL ret nm R call (pc, 3, .inl (hCall id na (fun _ _ => true) rm ml' maxL R)) := by
  intro L S H k n nx L' S' H' k' n' he p e s m args below meth c ws bd Q T h P hc hm hn I D
  obtain ⟨argsL, rest, v, rfl, g1, -, g2, g3, g4, g5, g6, g7, rfl, rfl, rfl, rfl, rfl⟩ := hCall_i he
  subst hrm hml
  refine wCallS (W := (rest.map fun v => v.category).sum) (argsL := argsL.map (mv A)) (rest := rest.map (mv A)) P (hC id argsL H v H' g7 h (wsOf A wr H) I.1 I.2.2.1 I.2.2.2.1 fun i hi hw => wsOf_in hi hw) w1 w2 w3 w4 hy (by rw [Array.size_map, hm]; exact g2) (fun sig hs => by rw [hpd] at hs; cases hs; rw [List.length_map, g1, hna]) rfl (by rw [List.map_append, List.map_reverse]) (Nat.le_of_eq (sum_cat _)) g3 g4 g5 g6 I.ws (hb hc hd) rfl rfl rfl fun T' h' v' P' Kp q => ?_
  obtain ⟨rfl, q1, q2, q3⟩ := q
  have D' := D T' h' P' (I.called hA P.ge q1 q2 q3)
  rw [List.map_append] at D'
  cases v <;> exact D'
def chkI (cid : Nat) (H : AH) : List Value → Bool
  | v :: _ => isCl cid H v
  | [] => false
theorem chkI_e {cid : Nat} {H : AH} {as : List Value} (h : chkI cid H as = true) : ∃ i vs tl, as = .ref i :: tl ∧ H[i]? = some (cid, vs) := by
  unfold chkI at h
  split at h
  · obtain ⟨i, vs, rfl, q⟩ := isCl_e h; exact ⟨i, vs, _, rfl, q⟩
  · cases h
theorem CellOk.exa {cid : Nat} {C : String} {F : List (String × String)} {h : Heap} {a : Addr} {vs : List Value} (hK : K cid = (none, C, F)) (h0 : cid ≠ 0) (X : CellOk K A Z h a (cid, vs)) : Exa Z h a C := by
  unfold CellOk at X
  simp only [hK] at X
  exact (X.resolve_left h0).1
theorem ok_callV {a0 : Array Value} {id na index ml' cid : Nat} {rm : Room} {sg : MethodDescriptor} {C : String} {F : List (String × String)} (hA : AdOk A n0 bs) (hC : CallOk l K A Z n0 bs wr MY MC ML MR MM call) (hK : K cid = (none, C, F)) (h0 : cid ≠ 0) (hrm : MM id = rm) (hml : ML id = ml') (w1 : (Cond.methodLink own index (MY id)).before a0 Z = true) (w2 : (Cond.declares (MY id)).before a0 Z = true) (w5 : (Cond.selects C (MY id) (MY id)).before a0 Z = true) (w6 : (Cond.instanceMethod (MY id)).before a0 Z = true) (w3 : (Cond.initialized (MY id).cls).before a0 Z = true) (w4 : (Cond.code (MY id) (MC id) (ML id) (MR id)).before a0 Z = true)
    (hy : (MY id).cls ≠ "java/lang/invoke/MethodHandle" ∧ (MY id).cls ≠ "java/lang/invoke/VarHandle") (hpd : parseMethodDescriptor (MY id).desc = some sg) (hna : sg.parameters.length + 1 = na)
    (hd : decode code pc = .ok (.invokevirtual index, 3)) : OkE l K A Z n0 bs wr own code maxL ret nm R call (pc, 3, .inl (hCall id na (chkI cid) rm ml' maxL R)) := by
  intro L S H k n nx L' S' H' k' n' he p e s m args below meth c ws bd Q T h P hc hm hn I D
  obtain ⟨argsL, rest, v, rfl, g1, g0, g2, g3, g4, g5, g6, g7, rfl, rfl, rfl, rfl, rfl⟩ := hCall_i he
  obtain ⟨i, vs, tl, rfl, gi⟩ := chkI_e g0
  subst hrm hml
  refine wCallV (W := (rest.map fun v => v.category).sum) (argsL := tl.map (mv A)) (rest := rest.map (mv A)) P (hC id (.ref i :: tl) H v H' g7 h (wsOf A wr H) I.1 I.2.2.1 I.2.2.2.1 fun i hi hw => wsOf_in hi hw) w1 w2 w5 w5 w6 w3 w4 hy ((I.1 i _ gi).exa hK h0) (by rw [Array.size_map, hm]; exact g2) (fun sig hs => by rw [hpd] at hs; cases hs; rw [List.length_map]; rw [List.length_cons] at g1; omega) rfl (by rw [List.map_append, List.map_reverse, List.map_cons, List.reverse_cons, List.append_assoc]; rfl) (Nat.le_of_eq (sum_cat _)) g3 g4 g5 g6 I.ws (hb hc hd) rfl rfl rfl fun T' h' v' P' Kp q => ?_
  obtain ⟨rfl, q1, q2, q3⟩ := q
  have D' := D T' h' P' (I.called hA P.ge q1 q2 q3)
  rw [List.map_append] at D'
  cases v <;> exact D'
theorem ok_callP {a0 : Array Value} {id na index ml' cid kk : Nat} {rm : Room} {sg : MethodDescriptor} {C : String} {F : List (String × String)} (hA : AdOk A n0 bs) (hC : CallOk l K A Z n0 bs wr MY MC ML MR MM call) (hK : K cid = (none, C, F)) (h0 : cid ≠ 0) (hrm : MM id = rm) (hml : ML id = ml') (w1 : (Cond.methodLink own index (MY id)).before a0 Z = true) (w2 : (Cond.instanceMethod (MY id)).before a0 Z = true) (w5 : (Cond.privateMethod (MY id)).before a0 Z = true) (wi : (Cond.instantiable (MY id).cls kk).before a0 Z = true) (w3 : (Cond.initialized (MY id).cls).before a0 Z = true) (w4 : (Cond.code (MY id) (MC id) (ML id) (MR id)).before a0 Z = true)
    (hy : (MY id).cls ≠ "java/lang/invoke/MethodHandle" ∧ (MY id).cls ≠ "java/lang/invoke/VarHandle") (hpd : parseMethodDescriptor (MY id).desc = some sg) (hna : sg.parameters.length + 1 = na)
    (hd : decode code pc = .ok (.invokevirtual index, 3)) : OkE l K A Z n0 bs wr own code maxL ret nm R call (pc, 3, .inl (hCall id na (chkI cid) rm ml' maxL R)) := by
  intro L S H k n nx L' S' H' k' n' he p e s m args below meth c ws bd Q T h P hc hm hn I D
  obtain ⟨argsL, rest, v, rfl, g1, g0, g2, g3, g4, g5, g6, g7, rfl, rfl, rfl, rfl, rfl⟩ := hCall_i he
  obtain ⟨i, vs, tl, rfl, gi⟩ := chkI_e g0
  subst hrm hml
  refine wCallP (W := (rest.map fun v => v.category).sum) (argsL := tl.map (mv A)) (rest := rest.map (mv A)) P (hC id (.ref i :: tl) H v H' g7 h (wsOf A wr H) I.1 I.2.2.1 I.2.2.2.1 fun i hi hw => wsOf_in hi hw) w1 w2 w5 wi w3 w4 hy ((I.1 i _ gi).exa hK h0) (by rw [Array.size_map, hm]; exact g2) (fun sig hs => by rw [hpd] at hs; cases hs; rw [List.length_map]; rw [List.length_cons] at g1; omega) rfl (by rw [List.map_append, List.map_reverse, List.map_cons, List.reverse_cons, List.append_assoc]; rfl) (Nat.le_of_eq (sum_cat _)) g3 g4 g5 g6 I.ws (hb hc hd) rfl rfl rfl fun T' h' v' P' Kp q => ?_
  obtain ⟨rfl, q1, q2, q3⟩ := q
  have D' := D T' h' P' (I.called hA P.ge q1 q2 q3)
  rw [List.map_append] at D'
  cases v <;> exact D'
theorem ok_callI {a0 : Array Value} {id na index ml' cid : Nat} {rm : Room} {sg : MethodDescriptor} (hA : AdOk A n0 bs) (hC : CallOk l K A Z n0 bs wr MY MC ML MR MM call) (hrm : MM id = rm) (hml : ML id = ml') (hr : MR id = none) (hyn : (MY id).name = "<init>") (w1 : (Cond.methodLink own index (MY id)).before a0 Z = true) (w2 : (Cond.instanceMethod (MY id)).before a0 Z = true) (w3 : (Cond.initialized (MY id).cls).before a0 Z = true) (w4 : (Cond.code (MY id) (MC id) (ML id) (MR id)).before a0 Z = true)
    (hy : (MY id).cls ≠ "java/lang/invoke/MethodHandle" ∧ (MY id).cls ≠ "java/lang/invoke/VarHandle") (hpd : parseMethodDescriptor (MY id).desc = some sg) (hna : sg.parameters.length + 1 = na)
    (hd : decode code pc = .ok (.invokespecial index, 3)) : OkE l K A Z n0 bs wr own code maxL ret nm R call (pc, 3, .inl (hCall id na (chkI cid) rm ml' maxL R)) := by
  intro L S H k n nx L' S' H' k' n' he p e s m args below meth c ws bd Q T h P hc hm hn I D
  obtain ⟨argsL, rest, v, rfl, g1, g0, g2, g3, g4, g5, g6, g7, rfl, rfl, rfl, rfl, rfl⟩ := hCall_i he
  obtain ⟨i, vs, tl, rfl, gi⟩ := chkI_e g0
  subst hrm hml
  have M := hC id (.ref i :: tl) H v H' g7 h (wsOf A wr H) I.1 I.2.2.1 I.2.2.2.1 fun i hi hw => wsOf_in hi hw
  rw [hr] at M w4
  refine wCallI (W := (rest.map fun v => v.category).sum) (argsL := tl.map (mv A)) (rest := rest.map (mv A)) P M hyn w1 w2 w3 w4 hy (by rw [Array.size_map, hm]; exact g2) (fun sig hs => by rw [hpd] at hs; cases hs; rw [List.length_map]; rw [List.length_cons] at g1; omega) rfl (by rw [List.map_append, List.map_reverse, List.map_cons, List.reverse_cons, List.append_assoc]; rfl) (Nat.le_of_eq (sum_cat _)) g3 g4 g5 g6 I.ws (hb hc hd) rfl rfl rfl fun T' h' v' P' Kp q => ?_
  obtain ⟨rfl, q1, q2, q3⟩ := q
  have D' := D T' h' P' (I.called hA P.ge q1 q2 q3)
  rw [List.map_append] at D'
  cases v <;> exact D'
/-- invokespecial of a constructor, its entry resolved -/
theorem specR {p : Program} {e : Env} {s : State} {m : MethodId} {args : Array Value} {below : List Frame} {meth : Method} {c : Code} {T : State} {locs : List Loc} {k n : Nat} {a0 : Array Value} {index : Nat} {y : MethodName}
    (X : Stand p l e R s m args below meth c T locs k n) (hx : p.tables.exec = Jvm.exec) (hZ : Z.Warmed39 s.vm) (hy1 : y.name = "<init>") (ho : s.vm.findClass own = some m.cls) (w1 : (Cond.methodRef own index y).before a0 Z = true) (w2 : (Cond.instanceMethod y).before a0 Z = true)
    {bytes : ByteArray} {mL : Nat} (w4 : (Cond.code y bytes mL none).before a0 Z = true) (hy : y.cls ≠ "java/lang/invoke/MethodHandle" ∧ y.cls ≠ "java/lang/invoke/VarHandle")
    {W : Nat} {Pre : Pt → Array Value → Prop} {Post : Pt → Array Value → Option Value → Pt → Prop} (hK : Back l R p e below s args y 3 W Pre Post)
    {g : JFrame} (hg : g.method = m) (hsize : g.locals.size = c.maxLocals) {a : Addr} {argsL rest : List Value}
    (hlen : ∀ sig, parseMethodDescriptor y.desc = some sig → argsL.length = sig.parameters.length) (hstack : g.stack = argsL.reverse ++ .ref a :: rest) (hW : 2 * g.monitorRoom + (rest.map fun v => v.category).sum ≤ W)
    (hdg : decode c.code g.pc = .ok (.invokespecial index, 3)) (hpre : Pre ⟨T, locs, k, n⟩ (.ref a :: argsL).toArray) :
    ∃ (v : Option Value) (B : Pt), Stand p l e R s m args below meth c B.U B.locs B.cells B.slots ∧ Post ⟨T, locs, k, n⟩ (.ref a :: argsL).toArray v B ∧
      ∀ t, Steps p.tables e below (B.U.setTop { g with pc := g.pc + 3, stack := v.toList ++ rest }) t → Steps p.tables e below (T.setTop g) t := by
  have hinst : (Cond.instanceMethod y).before args s = true := mvT hZ w2
  have hcode : (Cond.code y bytes mL none).before args s = true := mvT hZ w4
  obtain ⟨mk, methM, hn, hmM, hst, hab⟩ := Cond.instanceMethod_spec hinst
  obtain ⟨methM', cM, hmM', hcM, hbM, hlM, -, hlkM, -, hsigM⟩ := Cond.code_spec hn hcode
  cases hmM.symm.trans hmM'
  obtain ⟨kP, hkP, hnameP⟩ := className_of_methodNamed hn
  obtain ⟨hnameM, hdescM⟩ := name_of_methodNamed hn hmM
  have hUa := X.warmed.alike
  have hnZ : Z.methodNamed? y = some mk := by
    obtain ⟨mz, -, hz, -⟩ := Cond.instanceMethod_spec w2
    have := (wtrans hZ X.warmed).alike
    have q1 : (Z.setVm s.vm).methodNamed? y = some mz := by rw [State.methodNamed?_setVm hZ.alike]; exact hz
    have q2 : s.methodNamed? y = some mz := q1
    rw [hn] at q2
    cases q2; exact hz
  have w1' : (Cond.methodRef own index y).before a0 (Z.setVm T.vm) = true := Cond.methodRef_warmed39 (wtrans hZ X.warmed) hnZ hy w1
  have ho2 : (Z.setVm T.vm).vm.findClass own = some m.cls := by
    show T.vm.findClass own = _
    rw [hUa.findClass]; exact ho
  obtain ⟨m2, c2, r1, r2, r3, r4⟩ := Cond.methodRef_named e (s := Z.setVm T.vm) (cur := m.cls) ho2 w1'
  have hnT : (Z.setVm T.vm).methodNamed? y = some mk := by rw [State.methodNamed?_setVm (wtrans hZ X.warmed).alike]; exact hnZ
  have hf2 := State.methodFound?_of_named hnT hy
  cases hf2.symm.trans r1
  obtain ⟨k2, hk2, he2⟩ := hUa.2.2 _ _ hkP
  have hmT : T.vm.method? mk = some methM := by rw [hUa.method?]; exact hmM
  have hfound : lookupSpecial T.vm mk.cls "<init>" methM.desc = .method mk := by
    rw [hUa.lookupSpecial, hdescM, ← hy1]; exact lookupSpecial_of_named hn hmM hst
  have hcls : c2 = mk.cls := by
    have z1 : s.vm.findClass y.cls = some mk.cls := findClass_of_methodNamed hn
    have z2 : T.vm.findClass y.cls = some c2 := r3
    rw [hUa.findClass, z1] at z2
    cases z2; rfl
  subst hcls
  obtain ⟨v, B, X', hpost, hsteps⟩ := hK m meth c ⟨T, locs, k, n⟩ { g with stack := rest } (.invokespecial index) mk (.ref a :: argsL).toArray X hg hsize hdg hW (X.named hn) hpre
  refine ⟨v, B, X', hpost, fun t kk => ?_⟩
  have q1 : ∀ acts, Steps p.tables e below (doInvoke e (T.setTop { g with stack := rest }) acts mk (.ref a :: argsL).toArray).1 t := fun acts => by rw [doInvoke_state]; exact hsteps.trans kk
  have g3 : namesResolved T.vm m.cls index mk.cls := r4
  have g4 : T.vm.methodReady m.cls index mk := r2
  subst hg
  jvm_step X.here [hx, hdg, invokespecial.wp_init (e := e) (s := T) (k := k2) (meth := methM) (m := mk) (a := a) (args := argsL) (rest := rest) (f := g) X.here.top g3 g4 hk2 hmT (by rw [hnameM]; exact hy1) hst hab hfound (hlen _ hsigM) hstack]
  exact q1
theorem ok_callR {a0 : Array Value} {id na index ml' cid : Nat} {rm : Room} {sg : MethodDescriptor} (hA : AdOk A n0 bs) (hC : CallOk l K A Z n0 bs wr MY MC ML MR MM call) (hrm : MM id = rm) (hml : ML id = ml') (hr : MR id = none) (hyn : (MY id).name = "<init>") (w1 : (Cond.methodRef own index (MY id)).before a0 Z = true) (w2 : (Cond.instanceMethod (MY id)).before a0 Z = true) (w3 : (Cond.initialized (MY id).cls).before a0 Z = true) (w4 : (Cond.code (MY id) (MC id) (ML id) (MR id)).before a0 Z = true)
    (hy : (MY id).cls ≠ "java/lang/invoke/MethodHandle" ∧ (MY id).cls ≠ "java/lang/invoke/VarHandle") (hpd : parseMethodDescriptor (MY id).desc = some sg) (hna : sg.parameters.length + 1 = na)
    (hd : decode code pc = .ok (.invokespecial index, 3)) : OkE l K A Z n0 bs wr own code maxL ret nm R call (pc, 3, .inl (hCall id na (chkI cid) rm ml' maxL R)) := by
  intro L S H k n nx L' S' H' k' n' he p e s m args below meth c ws bd Q T h P hc hm hn I D
  obtain ⟨argsL, rest, v, rfl, g1, g0, g2, g3, g4, g5, g6, g7, rfl, rfl, rfl, rfl, rfl⟩ := hCall_i he
  obtain ⟨i, vs, tl, rfl, gi⟩ := chkI_e g0
  subst hrm hml
  have M := hC id (.ref i :: tl) H v H' g7 h (wsOf A wr H) I.1 I.2.2.1 I.2.2.2.1 fun i hi hw => wsOf_in hi hw
  rw [hr] at M w4
  have P0 := P
  obtain ⟨⟨L1, X, N'⟩, eT, b, hZ, hx, ho, hlk, _, _⟩ := P0
  obtain ⟨v', ⟨T', L2, k1, n1⟩, X', ⟨Lc, hq, l', y', z'⟩, stp⟩ := specR X hx hZ hyn ho w1 w2 w4 hy (backOf (W := (rest.map fun v => v.category).sum) (Q := fun v1 h1 L => (v1 = v.map (mv A) ∧ (∀ (i : Nat) (c : Nat × List Value), H'[i]? = some c → CellOk K A Z h1 (A.1 i) c) ∧ h1.size = h.size + (MM id).cells ∧ H'.length = H.length + (MM id).cells) ∧ Fw (wsOf A wr H) h.size L ∧ Keep h h1 (wsOf A wr H)) M hZ w4 w3 g3 g4) (g := mkF m pc (L'.map (ml A)) (((Value.ref i :: tl).reverse ++ rest).map (mv A))) rfl (by show (L'.map (ml A)).size = _; rw [Array.size_map, hm]; exact g2) (a := A.1 i) (argsL := tl.map (mv A)) (rest := rest.map (mv A)) (fun sig hs => by rw [hpd] at hs; cases hs; rw [List.length_map]; rw [List.length_cons] at g1; omega) (by show List.map (mv A) _ = _; rw [List.map_append, List.map_reverse, List.map_cons, List.reverse_cons, List.append_assoc]; rfl) (by rw [sum_cat]; show 2 * 0 + _ ≤ _; omega) (hb hc hd) ⟨rfl, eT, g5, g6⟩
  dsimp only [Pt.U, Pt.locs, Pt.cells, Pt.slots] at X' l' y' z' stp hq
  subst l' y' z'
  obtain ⟨⟨rfl, q1, q2, q3⟩, q4, q5⟩ := hq
  have D' := D T' T'.heap ⟨⟨_, X', N'.app fun y hy => (q4 y hy).elim (fun q => I.ws _ q) (fun q => Or.inr (Nat.le_trans b q))⟩, rfl, Nat.le_trans b q5.1, hZ, hx, ho, hlk, g5, g6⟩ (I.called hA P.ge q1 q2 q3)
  rw [List.map_append] at D'
  refine Done.step stp ?_
  cases v <;> exact D'
def hCopy (cid cells slots frames locs maxL : Nat) (R : Room) : Sm := fun _ st => match st with
  | (L, .int z :: .ref i :: S, H, k, n) => (match H[i]? with
    | some (c, vs) => if c == cid && (vs.all isI && (L.size == maxL && (decide (frames + 1 ≤ R.frames) && (decide ((S.map fun v => v.category).sum + (3 + 11) + locs ≤ R.locals) && (decide (k + 1 ≤ R.cells) && (decide (n + slots ≤ R.slots) && (decide (0 ≤ z) && (decide (z.toNatClampNeg < vs.length) && decide (z.toNatClampNeg ≤ slots))))))))) then some (none, L, .ref H.length :: S, H ++ [(c, vs.take z.toNatClampNeg)], k + 1, n + slots) else none
    | none => none)
  | _ => none
theorem ok_copy {a0 : Array Value} {cid index slots frames locs : Nat} {y : MethodName} {bytes : ByteArray} {F : List (String × String)} (hA : AdOk A n0 bs) (hK : K cid = (some .int, "[I", F))
    (hM : ∀ (h : Heap) (a : Addr) (N M : Nat) (z : Int32) (f : Nat → Int32), Ar Z h a .int N (fun i => .int (f i)) → z.toInt = (M : Int) → M < N → M ≤ slots → OMet l y bytes 3 (some (.array .int)) [] ⟨frames, 1, slots, locs⟩ Z h [] #[.ref a, .int z] (fun v h' => ∃ b : Addr, v = some (.ref b) ∧ b = h.size ∧ h.size < h'.size ∧ Ar Z h' b .int M (fun i => .int (f i)) ∧ Exa Z h' b "[I"))
    (w1 : (Cond.methodLink own index y).before a0 Z = true) (w2 : (Cond.static y).before a0 Z = true) (w3 : (Cond.initialized y.cls).before a0 Z = true) (w4 : (Cond.code y bytes 3 (some (.array .int))).before a0 Z = true) (hy : y.cls ≠ "java/lang/invoke/MethodHandle" ∧ y.cls ≠ "java/lang/invoke/VarHandle") {sg : MethodDescriptor} (hpd : parseMethodDescriptor y.desc = some sg) (hna : sg.parameters.length = 2)
    (hd : decode code pc = .ok (.invokestatic index, 3)) : OkE l K A Z n0 bs wr own code maxL ret nm R call (pc, 3, .inl (hCopy cid 1 slots frames locs maxL R)) := by
  intro L S H k n nx L' S' H' k' n' he p e s m args below meth c ws bd Q T h P hc hm hn I D
  unfold hCopy at he
  split at he
  · rename_i L0 z i S1 _ _ _ q0
    cases q0
    split at he
    · rename_i cc vs q1
      split at he
      · rename_i q2
        simp only [Bool.and_eq_true, beq_iff_eq, decide_eq_true_eq] at q2
        obtain ⟨rfl, c1, c2, c3, c4, c5, c6, c7, c8, hsl⟩ := q2
        cases he
        · obtain ⟨Aa, E⟩ := (I.1 i _ q1).arr hK
          have hex : ∀ j, j < vs.length → ∃ x, mv A (vs.getD j .null) = .int x := fun j hj => by
            have q3 := List.all_eq_true.mp c1 _ (List.getElem_mem hj)
            obtain ⟨x, hx⟩ := isI_e q3
            refine ⟨x A, ?_⟩
            rw [List.getD_eq_getElem?_getD, List.getElem?_eq_getElem hj]
            exact hx A
          have Ab : Ar Z h (A.1 i) .int vs.length (fun j => .int (match mv A (vs.getD j .null) with | .int x => x | _ => 0)) := Aa.congr fun j hj => by
            obtain ⟨x, hx⟩ := hex j hj
            show mv A (vs.getD j .null) = _
            rw [hx]
          refine wCallS (rm := ⟨frames, 1, slots, locs⟩) (W := (S1.map fun v => v.category).sum) (argsL := [.ref (A.1 i), .int z]) (rest := S1.map (mv A)) (ws' := []) P (hM h (A.1 i) vs.length z.toNatClampNeg z _ Ab (i32n c7) c8 hsl) w1 w2 w3 w4 hy (by rw [Array.size_map, hm]; exact c2) (fun sig hs => by rw [hpd] at hs; cases hs; rw [hna]; rfl) rfl rfl (Nat.le_of_eq (sum_cat _)) c3 c4 c5 c6 (fun x hx => nomatch hx) (hb hc hd) rfl rfl rfl fun T' h' v' P' Kp q => ?_
          obtain ⟨b, rfl, rfl, g1, g2, g3⟩ := q
          have E1 : Ext h h' := ⟨Kp.1, fun a c hc => Kp.2.1 a c hc (fun z => nomatch z)⟩
          have C1 : CellOk K A Z h' h.size (cc, vs.take z.toNatClampNeg) := by
            unfold CellOk
            simp only [hK, List.length_take]
            rw [Nat.min_eq_left (Nat.le_of_lt c8)]
            refine ⟨g2.congr fun j hj => ?_, g3⟩
            obtain ⟨x, hx⟩ := hex j (by omega)
            rw [hx, List.getD_eq_getElem?_getD, List.getElem?_take, if_pos hj, ← List.getD_eq_getElem?_getD, hx]
          obtain ⟨I', ad⟩ := I.push hA P.ge P' E1 g1 C1
          have D' := D T' h' P' I'
          rw [show List.map (mv A) (.ref H.length :: S1) = .ref h.size :: List.map (mv A) S1 from by rw [List.map_cons]; show Value.ref (A.1 H.length) :: _ = _; rw [ad]] at D'
          exact D'
      · cases he
    · cases he
  · cases he
def seek (t : Nat) : List Ent → Option (List Ent)
  | [] => none
  | x :: tl => if x.1 == t then some (x :: tl) else seek t tl
def go (call : Caller) (prog : List Ent) (stop : Nat) : Nat → List Ent → St → Option (List Ent × St)
  | 0, _, _ => none
  | _ + 1, [], _ => none
  | g + 1, x :: tl, st => if x.1 == stop then some (x :: tl, st) else match x.2.2 with
    | .inr _ => some (x :: tl, st)
    | .inl sem => match sem call st with
      | none => none
      | some (none, st') => (match tl with
        | y :: tl' => if y.1 == x.1 + x.2.1 then go call prog stop g (y :: tl') st' else none
        | [] => none)
      | some (some t, st') => (match seek t prog with
        | some r => go call prog stop g r st'
        | none => none)
theorem seek_i {t : Nat} {prog r : List Ent} (h : seek t prog = some r) : ∃ x tl, r = x :: tl ∧ x.1 = t ∧ ∀ y ∈ r, y ∈ prog := by
  induction prog with
  | nil => cases h
  | cons x tl ih =>
    unfold seek at h
    split at h
    · rename_i q
      cases h
      exact ⟨x, tl, rfl, beq_iff_eq.mp q, fun y hy => hy⟩
    · obtain ⟨a, b, h1, h2, h3⟩ := ih h
      exact ⟨a, b, h1, h2, fun y hy => List.mem_cons_of_mem _ (h3 y hy)⟩
theorem go_ok {prog : List Ent} {stop : Nat} (hp : ∀ x ∈ prog, OkE l K A Z n0 bs wr own code maxL ret nm R call x) : ∀ (g : Nat) (x : Ent) (tl : List Ent) (L : Array Slot) (S : List Value) (H : AH) (k n : Nat) (r : List Ent) (L' : Array Slot) (S' : List Value) (H' : AH) (k' n' : Nat), (∀ y ∈ x :: tl, y ∈ prog) →
    go call prog stop g (x :: tl) (L, S, H, k, n) = some (r, L', S', H', k', n') → ∃ x' tl', r = x' :: tl' ∧ x' ∈ prog ∧ ∀ p e s m args below meth c ws bd Q T h, Pos p l e R s m args below meth c Z own ws bd T h k n → c.code = code → c.maxLocals = maxL → meth.name = nm → Inv K A Z n0 bs wr s ws bd h H k →
      (∀ T' h', Pos p l e R s m args below meth c Z own ws bd T' h' k' n' → Inv K A Z n0 bs wr s ws bd h' H' k' → Done p l e R s m args below meth c Z own ws bd Q T' (mkF m x'.1 (L'.map (ml A)) (S'.map (mv A)))) →
      Done p l e R s m args below meth c Z own ws bd Q T (mkF m x.1 (L.map (ml A)) (S.map (mv A))) := by
  intro g
  induction g with
  | zero => intro x tl L S H k n r L' S' H' k' n' _ h; cases h
  | succ g ih =>
    intro x tl L S H k n r L' S' H' k' n' hm h
    have hx := hp x (hm x (List.mem_cons_self ..))
    unfold go at h
    split at h
    · cases h
      exact ⟨x, tl, rfl, hm x (List.mem_cons_self ..), fun p e s m args below meth c ws bd Q T h P _ _ _ I D => D T h P I⟩
    · split at h
      · cases h
        exact ⟨x, tl, rfl, hm x (List.mem_cons_self ..), fun p e s m args below meth c ws bd Q T h P _ _ _ I D => D T h P I⟩
      · rename_i sem hs
        unfold OkE at hx
        rw [hs] at hx
        split at h
        · cases h
        · rename_i st1 q
          obtain ⟨L1, S1, H1, k1, n1⟩ := st1
          split at h
          · rename_i y tl'
            split at h
            · rename_i q2
              rw [beq_iff_eq] at q2
              obtain ⟨x', t', h1, h2, h3⟩ := ih y tl' L1 S1 H1 k1 n1 r L' S' H' k' n' (fun z hz => hm z (List.mem_cons_of_mem _ hz)) h
              refine ⟨x', t', h1, h2, fun p e s m args below meth c ws bd Q T h P hc hml hn I D => ?_⟩
              refine hx _ _ _ _ _ _ _ _ _ _ _ q p e s m args below meth c ws bd Q T h P hc hml hn I fun T' h' P' I' => ?_
              have D' := h3 p e s m args below meth c ws bd Q T' h' P' hc hml hn I' D
              rw [q2] at D'
              exact D'
            · cases h
          · cases h
        · rename_i t st1 q
          obtain ⟨L1, S1, H1, k1, n1⟩ := st1
          split at h
          · rename_i r1 q2
            obtain ⟨y, tl', rfl, rfl, q3⟩ := seek_i q2
            obtain ⟨x', t', h1, h2, h3⟩ := ih y tl' L1 S1 H1 k1 n1 r L' S' H' k' n' q3 h
            refine ⟨x', t', h1, h2, fun p e s m args below meth c ws bd Q T h P hc hml hn I D => ?_⟩
            exact hx _ _ _ _ _ _ _ _ _ _ _ q p e s m args below meth c ws bd Q T h P hc hml hn I fun T' h' P' I' => h3 p e s m args below meth c ws bd Q T' h' P' hc hml hn I' D
          · cases h
theorem args_ml (as : List Value) (maxL : Nat) : argsToLocals (as.map (mv A)).toArray maxL = (argsToLocals as.toArray maxL).map (ml A) := by
  have key : ∀ (as : List Value) (acc : Array Slot), (as.map (mv A)).foldl (fun acc v => if v.category = 2 then (acc.push (.val v)).push .second else acc.push (.val v)) (acc.map (ml A)) = (as.foldl (fun acc v => if v.category = 2 then (acc.push (.val v)).push .second else acc.push (.val v)) acc).map (ml A) := by
    intro as
    induction as with
    | nil => intro acc; rfl
    | cons v r ih =>
      intro acc
      rw [List.map_cons, List.foldl_cons, List.foldl_cons, mv_cat, ← ih]
      congr 1
      split <;> simp [ml]
  unfold argsToLocals
  have k0 := key as #[]
  simp only [Array.map_empty] at k0
  simp only [List.foldl_toArray, k0, Array.map_append, Array.size_map, Array.map_replicate]
  rfl
/-- a contract out of a walk, with the state's own heap at hand -/
theorem OMetOf {Z : State} {own : String} {ws : List Addr} {h : Heap} {Q : Option Value → Heap → Prop} {y : MethodName} {bytes : ByteArray} {maxL : Nat} {ret : Option FieldType} {wd : List Cond} {rm : Room} {as' : Array Value} {nm : String} (hy : plainFor y = true) (hyc : y.cls = own) (hyn : y.name = nm)
    (H : ∀ p e s m below meth c s₁, Pos p l e rm s m as' below meth c Z own ws h.size s₁ h 0 0 → s.heap = h → c.code = bytes → c.maxLocals = maxL → meth.sig.returnType = ret → meth.name = nm → Done p l e rm s m as' below meth c Z own ws h.size Q s₁ (entryFrame m as' maxL)) :
    OMet l y bytes maxL ret wd rm Z h ws as' Q := by
  subst hyc hyn
  refine MetFree.of_bodySF hy hisR ?_
  intro p e s m args below meth c s₁ Bd hml hP hK
  obtain ⟨rfl, hZ, hh⟩ := hP
  have hown : s.vm.findClass y.cls = some m.cls := findClass_of_methodNamed Bd.named
  have hnm := (name_of_methodNamed Bd.named Bd.method).1
  have X0 : Stand p l e rm s m args below meth c s₁ [] 0 0 := Stand.of_body Bd
  have e0 : s₁.heap = h := by rw [← hh, Bd.state]; rfl
  obtain ⟨v, T', h', k, n, ⟨⟨L, X, N⟩, eT, _, _, _, _, hlk, hk, hnn⟩, hv, hq, st⟩ := H p e s m below meth c s₁ ⟨⟨[], X0, Fw.nil _ _⟩, e0, Nat.le_refl _, hZ, Bd.exec, hown, Bd.notSynchronized, Nat.zero_le _, Nat.zero_le _⟩ hh Bd.bytes hml Bd.returns hnm
  obtain ⟨fs, hr, hrun, hended, hW, hsame⟩ := X.leave (v := v) hv hlk
  refine ⟨_, _, st fs hr, hrun, hended, v, L, rfl, ⟨?_, N, ?_⟩, ⟨_, rfl⟩, hW, hsame.mono hk hnn⟩
  · rw [show (T'.setFrames fs).heap = T'.heap from rfl, eT]
    exact hq
  · subst hh
    have q := keepOf hsame N
    exact q
def body (call : Caller) (prog : List Ent) (maxL cells gas : Nat) (as : List Value) (H : AH) : Option (Option Value × AH) := match prog with
  | [] => none
  | x :: tl => if x.1 == 0 then (match go call (x :: tl) 1000000 gas (x :: tl) (argsToLocals as.toArray maxL, [], H, 0, 0) with
    | some (y :: _, st) => (match y.2.2 with
      | .inr rf => if st.2.2.2.1 == cells then (match rf st with | some v => some (v, st.2.2.1) | none => none) else none
      | .inl _ => none)
    | _ => none) else none
theorem body_ok {y : MethodName} {prog : List Ent} {gas : Nat} {as : List Value} {H H' : AH} {v : Option Value} (hp : ∀ x ∈ prog, OkE l K A Z n0 bs wr y.cls code maxL ret y.name R call x) (hy : plainFor y = true) (h : body call prog maxL R.cells gas as H = some (v, H')) (hp0 : Heap) (ws : List Addr)
    (h1 : ∀ (i : Nat) (c : Nat × List Value), H[i]? = some c → CellOk K A Z hp0 (A.1 i) c) (h2 : hp0.size + n0 = bs + H.length) (h3 : n0 ≤ H.length) (h4 : ∀ i, i < H.length → wr i = true → A.1 i ∈ ws) :
    OMet l y code maxL ret [] R Z hp0 ws (as.map (mv A)).toArray (fun v' h' => v' = v.map (mv A) ∧ (∀ (i : Nat) (c : Nat × List Value), H'[i]? = some c → CellOk K A Z h' (A.1 i) c) ∧ h'.size = hp0.size + R.cells ∧ H'.length = H.length + R.cells) := by
  cases prog with
  | nil => cases h
  | cons x tl =>
    unfold body at h
    dsimp only at h
    split at h
    · rename_i q0
      rw [beq_iff_eq] at q0
      split at h
      · rename_i y1 tl1 st q1
        obtain ⟨L1, S1, H1, k1, n1⟩ := st
        obtain ⟨x', tl', g1, g2, g3⟩ := go_ok hp gas x tl _ _ _ _ _ _ _ _ _ _ _ (fun z hz => hz) q1
        cases g1
        split at h
        · rename_i rf q2
          split at h
          · rename_i q3
            rw [beq_iff_eq] at q3
            split at h
            · rename_i v1 q4
              cases h
              have hx := hp _ g2
              unfold OkE at hx
              rw [q2] at hx
              refine OMetOf hy rfl rfl fun p e s m below meth c s₁ P hh hc hml hr hn => ?_
              have I0 : Inv K A Z n0 bs wr s ws hp0.size hp0 H 0 := ⟨h1, by rw [hh]; rfl, h2, h3, fun i hi hw => Or.inl (h4 i hi hw)⟩
              have D := g3 p e s m _ below meth c ws hp0.size (fun v' h' => v' = v.map (mv A) ∧ (∀ (i : Nat) (c : Nat × List Value), H1[i]? = some c → CellOk K A Z h' (A.1 i) c) ∧ h'.size = hp0.size + R.cells ∧ H1.length = H.length + R.cells) s₁ hp0 P hc hml hn I0 fun T' h' P' I' => hx _ _ _ _ _ _ q4 p e s m _ below meth c ws hp0.size _ T' h' P' hc hr ⟨rfl, I'.1, ?_, ?_⟩
              · rw [q0] at D
                show Done p l e R s m _ below meth c Z y.cls ws hp0.size _ s₁ { method := m, pc := 0, locals := argsToLocals _ maxL, stack := [], locked := none }
                rw [args_ml]
                exact D
              · have z1 := I'.2.1
                rw [hh] at z1
                dsimp only at q3
                omega
              · have z1 := I'.2.1
                have z2 := I'.2.2.1
                rw [hh] at z1
                dsimp only at q3
                omega
            · cases h
          · cases h
        · cases h
      · cases h
    · cases h
end P
end Jvm.OwnI
namespace Jvm.OwnW
open Sem ClassFile Op Lib Jvm.Stand Jvm.Free Jvm.LawKit Jvm.RoadKit
section A
variable {p : Program} {l : Launch} {e : Env} {R : Room} {s : State} {m : MethodId} {args : Array Value} {below : List Frame} {meth : Method} {c : Code} {Z : State} {own : String} {ws : List Addr} {bd : Nat} {T : State} {h h' : Heap} {k n : Nat} {a0 : Array Value} {Q : Option Value → Heap → Prop} {pc pc' : Nat} {Ls : Array Slot} {st : List Value}
/-- System.arraycopy of the first places of an array of ints into a fresh one -/
theorem wCopyI {N M K0 index W : Nat} {f g : Nat → Int32} {a b : Addr} {nn : Int32} (P : Pos p l e R s m args below meth c Z own [] bd T h k n) (A : Ar Z h a .int N (fun i => .int (f i))) (B : Ar Z h b .int M (fun i => .int (g i))) (hnn : nn.toInt = (K0 : Int)) (h1 : K0 ≤ N) (h2 : K0 ≤ M) (ge : bd ≤ b)
    (w1 : (Cond.methodLink own index Jvm.Stand.acN).before a0 Z = true) (w2 : (Cond.native Jvm.Stand.acN).before a0 Z = true) (w3 : (Cond.static Jvm.Stand.acN).before a0 Z = true) (w4 : (Cond.initialized "java/lang/System").before a0 Z = true)
    (hml : Ls.size = c.maxLocals) (hd : decode c.code pc = .ok (.invokestatic index, 3)) (hp : pc + 3 = pc') (hf : 1 ≤ R.frames) (hW : (st.map fun v => v.category).sum ≤ W) (hlo : W + (nativeFrameWords "java/lang/System" "arraycopy" 5 + 11) ≤ R.locals)
    (K : ∀ T' h', Pos p l e R s m args below meth c Z own [] bd T' h' k n → Keep h h' [b] → Ar Z h' b .int M (fun i => .int (if i < K0 then f i else g i)) → Done p l e R s m args below meth c Z own [] bd Q T' (mkF m pc' Ls st)) :
    Done p l e R s m args below meth c Z own [] bd Q T (mkF m pc Ls (.int nn :: .int 0 :: .ref b :: .int 0 :: .ref a :: st)) := by
  obtain ⟨⟨L, X, N'⟩, eT, hb', hZ, hx, ho, r⟩ := id P
  have hN := A.len
  have hM := B.len
  obtain ⟨kA, VA⟩ := A.toArv (.int 0) (fun _ => rfl) rfl
  obtain ⟨kB, VB⟩ := B.toArv (.int 0) (fun _ => rfl) rfl
  have z0 : ¬ (0 : Int32) < 0 := by decide
  have z1 : (0 : Int32).toNatClampNeg = 0 := by decide
  have q0 : ¬ nn < 0 := by rw [Int32.lt_iff_toInt_lt, hnn, show (0 : Int32).toInt = 0 from rfl]; omega
  have q1 : nn.toNatClampNeg = K0 := by rw [Int32.toNatClampNeg, hnn]; omega
  obtain ⟨T', h', L', X', e', F', Kp, V', stp⟩ := cpA X hx hZ ho w1 w2 w3 w4 eT VA VB (Or.inl ⟨rfl, rfl⟩) z0 z0 q0 (by rw [z1, q1, (n32 hN).2]; omega) (by rw [z1, q1, (n32 hM).2]; omega) rfl (by rw [z1, q1]; simp; omega) (n0 := bd) N'.toFr ge (g := mkF m pc Ls (.int nn :: .int 0 :: .ref b :: .int 0 :: .ref a :: st)) rfl hml rfl hd hf (W := W) (by show 2 * 0 + _ ≤ _; omega) hlo
  subst hp
  refine Done.step stp (K T' h' ⟨⟨L', X', Fw.ofFr F'⟩, e', Nat.le_trans hb' Kp.1, hZ, hx, ho, r⟩ Kp ((Ar.ofArv hM V').congr fun i hi => ?_))
  rw [z1, q1]
  by_cases q : i < K0
  · rw [if_pos q]
    simp [List.getD_eq_getElem?_getD, List.getElem?_append, q]
    rw [List.getElem?_range (by omega)]
    rfl
  · rw [if_neg q]
    simp [List.getD_eq_getElem?_getD, List.getElem?_append, q]
    have e2 : K0 + (i - K0) = i := by omega
    simp [e2, hi]
end A
end Jvm.OwnW
namespace Jvm.OwnI
open Sem ClassFile Op Lib Jvm.Stand Jvm.Free Jvm.LawKit Jvm.RoadKit Jvm.OwnW
def veq : Value → Value → Bool
  | .int x, .int y => x == y
  | .long x, .long y => x == y
  | .float x, .float y => x == y
  | .double x, .double y => x == y
  | .null, .null => true
  | .ref x, .ref y => x == y
  | _, _ => false
theorem veq_e {v w : Value} (h : veq v w = true) : v = w := by
  cases v <;> cases w <;> simp_all [veq]
/-- what 'ent' answers -/
def entW (x : Int32) : Int32 := if x &&& 3 = 0 then 0 else if x &&& 3 = 2 then -1 else 1
abbrev Tq := List (Nat × Value × Value × Value)
def iop (o : Nat) (x y : Int32) : Int32 := match o with
  | 20 => x + y
  | 21 => x - y
  | 22 => x * y
  | 23 => x &&& y
  | 24 => (x.toUInt32 >>> (y &&& 31).toUInt32).toInt32
  | _ => entW x
def look2 (tq : Tq) (o : Nat) (v w : Value) : Option Value := (tq.find? fun t => t.1 == o && (veq t.2.1 v && veq t.2.2.1 w)).map (·.2.2.2)
theorem look2_i {tq : Tq} {o : Nat} {v w r : Value} (h : look2 tq o v w = some r) : (o, v, w, r) ∈ tq := by
  unfold look2 at h
  rw [Option.map_eq_some_iff] at h
  obtain ⟨⟨a, b, c, d⟩, h1, rfl⟩ := h
  have h2 := List.find?_some h1
  have h3 := List.mem_of_find?_eq_some h1
  simp only [Bool.and_eq_true, beq_iff_eq] at h2
  obtain ⟨rfl, q1, q2⟩ := h2
  rw [veq_e q1, veq_e q2] at h3
  exact h3
def TqOk (A : Den) (tq : Tq) : Prop := ∀ t ∈ tq, ∀ x y, mv A t.2.1 = .int x → mv A t.2.2.1 = .int y → mv A t.2.2.2 = .int (iop t.1 x y)
def TaOk (A : Den) (tp : Tape) : Prop := ∀ t ∈ tp, t.1 = 14 → Jvm.Free.Fl.NoNaN64 (A.2.1 t.2.1) ∧ A.2.1 t.2.1 &&& 0x7fffffffffffffff = A.2.1 t.2.2.2
section P
variable {l : Launch} {K : Kls} {A : Den} {Z : State} {n0 bs : Nat} {wr : Nat → Bool} {own : String} {code : ByteArray} {maxL : Nat} {ret : Option FieldType} {nm : String} {R : Room} {call : Caller} {pc len : Nat} {tp : Tape} {tq : Tq}
def gI2 (tq : Tq) (o : Nat) : Pg := fun L S => match S with
  | .int y :: .int x :: r => some (none, L, .int (iop o x y) :: r)
  | y :: x :: r => if isI x && isI y then (match look2 tq o x y with | some v => some (none, L, v :: r) | none => none) else none
  | _ => none
theorem gI2_i {o : Nat} {L L' : Array Slot} {S S' : List Value} {nx : Option Nat} (hQ : TqOk A tq) (h : gI2 tq o L S = some (nx, L', S')) : ∃ x y a b v r, S = y :: x :: r ∧ mv A x = .int a ∧ mv A y = .int b ∧ nx = none ∧ L' = L ∧ S' = v :: r ∧ mv A v = .int (iop o a b) := by
  unfold gI2 at h
  split at h
  · cases h
    rename_i y x r
    exact ⟨.int x, .int y, x, y, _, r, rfl, rfl, rfl, rfl, rfl, rfl, rfl⟩
  · rename_i y x r _
    split at h
    · rename_i q
      rw [Bool.and_eq_true] at q
      obtain ⟨a, ha⟩ := isI_e q.1
      obtain ⟨b, hb'⟩ := isI_e q.2
      split at h
      · rename_i v q2
        cases h
        exact ⟨x, y, a A, b A, v, r, rfl, ha A, hb' A, rfl, rfl, rfl, hQ _ (look2_i q2) _ _ (ha A) (hb' A)⟩
      · cases h
    · cases h
  · cases h
theorem ok_iadd2 (hQ : TqOk A tq) (hd : decode code pc = .ok (.iadd, 1)) : OkE l K A Z n0 bs wr own code maxL ret nm R call (pc, 1, .inl (pu (gI2 tq 20))) := ok_pu fun L S nx L' S' hg p e s m args below meth c ws bd T h k n P hc t kk => by
  obtain ⟨x, y, a, b, v, r, rfl, hx, hy, rfl, rfl, rfl, hv⟩ := gI2_i hQ hg
  rw [List.map_cons, hv] at kk
  exact XS.iadd P.here P.x rfl (hb hc hd) (by show List.map (mv A) (y :: x :: r) = _; rw [List.map_cons, List.map_cons, hx, hy]) kk
theorem ok_isub2 (hQ : TqOk A tq) (hd : decode code pc = .ok (.isub, 1)) : OkE l K A Z n0 bs wr own code maxL ret nm R call (pc, 1, .inl (pu (gI2 tq 21))) := ok_pu fun L S nx L' S' hg p e s m args below meth c ws bd T h k n P hc t kk => by
  obtain ⟨x, y, a, b, v, r, rfl, hx, hy, rfl, rfl, rfl, hv⟩ := gI2_i hQ hg
  rw [List.map_cons, hv] at kk
  exact XS.isub P.here P.x rfl (hb hc hd) (by show List.map (mv A) (y :: x :: r) = _; rw [List.map_cons, List.map_cons, hx, hy]) kk
theorem ok_imul2 (hQ : TqOk A tq) (hd : decode code pc = .ok (.imul, 1)) : OkE l K A Z n0 bs wr own code maxL ret nm R call (pc, 1, .inl (pu (gI2 tq 22))) := ok_pu fun L S nx L' S' hg p e s m args below meth c ws bd T h k n P hc t kk => by
  obtain ⟨x, y, a, b, v, r, rfl, hx, hy, rfl, rfl, rfl, hv⟩ := gI2_i hQ hg
  rw [List.map_cons, hv] at kk
  exact XS.imul P.here P.x rfl (hb hc hd) (by show List.map (mv A) (y :: x :: r) = _; rw [List.map_cons, List.map_cons, hx, hy]) kk
theorem ok_iand2 (hQ : TqOk A tq) (hd : decode code pc = .ok (.iand, 1)) : OkE l K A Z n0 bs wr own code maxL ret nm R call (pc, 1, .inl (pu (gI2 tq 23))) := ok_pu fun L S nx L' S' hg p e s m args below meth c ws bd T h k n P hc t kk => by
  obtain ⟨x, y, a, b, v, r, rfl, hx, hy, rfl, rfl, rfl, hv⟩ := gI2_i hQ hg
  rw [List.map_cons, hv] at kk
  exact XS.iand P.here P.x rfl (hb hc hd) (by show List.map (mv A) (y :: x :: r) = _; rw [List.map_cons, List.map_cons, hx, hy]) kk
theorem ok_iushr2 (hQ : TqOk A tq) (hd : decode code pc = .ok (.iushr, 1)) : OkE l K A Z n0 bs wr own code maxL ret nm R call (pc, 1, .inl (pu (gI2 tq 24))) := ok_pu fun L S nx L' S' hg p e s m args below meth c ws bd T h k n P hc t kk => by
  obtain ⟨x, y, a, b, v, r, rfl, hx, hy, rfl, rfl, rfl, hv⟩ := gI2_i hQ hg
  rw [List.map_cons, hv] at kk
  exact XS.iushr P.here P.x rfl (hb hc hd) (by show List.map (mv A) (y :: x :: r) = _; rw [List.map_cons, List.map_cons, hx, hy]) kk
def gDneg2 (tp : Tape) : Pg := fun L S => match S with
  | .double x :: r => if isC x then (if isC (FP.dneg x) then some (none, L, .double (FP.dneg x) :: r) else none) else (match look tp 11 x 0 with | some v => some (none, L, .double v :: r) | none => none)
  | _ => none
theorem ok_dneg2 (hT : TpOk A tp) (hd : decode code pc = .ok (.dneg, 1)) : OkE l K A Z n0 bs wr own code maxL ret nm R call (pc, 1, .inl (pu (gDneg2 tp))) := ok_pu fun L S nx L' S' hg p e s m args below meth c ws bd T h k n P hc t kk => by
  unfold gDneg2 at hg
  split at hg
  · split at hg
    · rename_i q1
      split at hg
      · rename_i q2
        cases hg
        exact XS.dnegS P.here P.x rfl (hb hc hd) rfl (by rw [hT.1 _ q1, hT.1 _ q2]) kk
      · cases hg
    · split at hg
      · rename_i q2
        cases hg
        exact XS.dnegS P.here P.x rfl (hb hc hd) rfl ((hT.2 _ (look_i q2)).2.2.1 rfl) kk
      · cases hg
  · cases hg
def absR (tp : Tape) (x : UInt64) : Option UInt64 := if isC x then (if nnb x && isC (x &&& 0x7fffffffffffffff) then some (x &&& 0x7fffffffffffffff) else none) else look tp 14 x 0
theorem absR_i {x y : UInt64} (hT : TpOk A tp) (hU : TaOk A tp) (h : absR tp x = some y) : Jvm.Free.Fl.NoNaN64 (A.2.1 x) ∧ A.2.1 x &&& 0x7fffffffffffffff = A.2.1 y := by
  unfold absR at h
  split at h
  · rename_i q1
    split at h
    · rename_i q2
      rw [Bool.and_eq_true] at q2
      cases h
      rw [hT.1 _ q1, hT.1 _ q2.2]
      exact ⟨of_decide_eq_true q2.1, rfl⟩
    · cases h
  · exact hU _ (look_i h) rfl
def hAbs2 (tp : Tape) (maxL : Nat) (R : Room) : Sm := fun _ st => match st with
  | (L, .double x :: S, H, k, n) => if L.size == maxL && (decide (1 ≤ R.frames) && decide ((S.map fun v => v.category).sum + 13 ≤ R.locals)) then (match absR tp x with | some y => some (none, L, .double y :: S, H, k, n) | none => none) else none
  | _ => none
theorem ok_abs2 {a0 : Array Value} {index : Nat} (hT : TpOk A tp) (hU : TaOk A tp) (w1 : (Cond.methodLink own index Jvm.Free.Fl.Abs.absDN).before a0 Z = true) (w2 : (Cond.static Jvm.Free.Fl.Abs.absDN).before a0 Z = true) (w3 : (Cond.initialized "java/lang/Math").before a0 Z = true) (w4 : (Cond.code Jvm.Free.Fl.Abs.absDN Jvm.Free.Fl.Abs.absDCode 2 (some .double)).before a0 Z = true) (hpd : parseMethodDescriptor "(D)D" = some ⟨[.double], some .double⟩)
    (hd : decode code pc = .ok (.invokestatic index, 3)) : OkE l K A Z n0 bs wr own code maxL ret nm R call (pc, 3, .inl (hAbs2 tp maxL R)) := by
  intro L S H k n nx L' S' H' k' n' he p e s m args below meth c ws bd Q T h P hc hm hn I D
  unfold hAbs2 at he
  split at he
  · rename_i x S1 _ _ _ q0
    cases q0
    split at he
    · rename_i q1
      simp only [Bool.and_eq_true, beq_iff_eq, decide_eq_true_eq] at q1
      obtain ⟨c1, c2, c3⟩ := q1
      split at he
      · rename_i y q2
        cases he
        obtain ⟨g1, g2⟩ := absR_i hT hU q2
        refine wNat (argsL := [.double (A.2.1 x)]) (rest := S1.map (mv A)) (W := (S1.map fun v => v.category).sum) (F := fun a' => a' = #[.double (A.2.1 x)] ∧ Jvm.Free.Fl.NoNaN64 (A.2.1 x)) P w1 w2 w3 w4 (by decide) (fun hcc => Jvm.Free.Fl.Abs.absD_pays (A.2.1 x) hcc c2 c3) (by rw [Array.size_map, hm]; exact c1) (fun sig hs => by rw [show parseMethodDescriptor Jvm.Free.Fl.Abs.absDN.desc = parseMethodDescriptor "(D)D" from rfl, hpd] at hs; cases hs; rfl) ?_ (Nat.le_of_eq (sum_cat _)) (hb hc hd) rfl ⟨rfl, g1⟩ fun T' P' => ?_
        · rw [List.map_cons]; rfl
        · have D' := D T' h P' I
          rw [List.map_cons, show mv A (.double y) = .double (A.2.1 x &&& 0x7fffffffffffffff) from congrArg Value.double g2.symm] at D'
          exact D'
      · cases he
    · cases he
  · cases he
def hEnt (tq : Tq) (maxL : Nat) (R : Room) : Sm := fun _ st => match st with
  | (L, x :: S, H, k, n) => if isI x && (L.size == maxL && (decide (1 ≤ R.frames) && (decide ((S.map fun v => v.category).sum + (2 + 11) + 0 ≤ R.locals) && (decide (k + 0 ≤ R.cells) && decide (n + 0 ≤ R.slots))))) then (match look2 tq 25 x (.int 0) with | some v => some (none, L, v :: S, H, k, n) | none => none) else none
  | _ => none
theorem ok_ent {a0 : Array Value} {index : Nat} {y : MethodName} {bytes : ByteArray} (hA : AdOk A n0 bs) (hQ : TqOk A tq)
    (hM : ∀ (h : Heap) (x : Int32), OMet l y bytes 2 (some .int) [] ⟨0, 0, 0, 0⟩ Z h [] #[.int x] (fun v h' => v = some (.int (entW x)) ∧ h = h'))
    (w1 : (Cond.methodLink own index y).before a0 Z = true) (w2 : (Cond.static y).before a0 Z = true) (w3 : (Cond.initialized y.cls).before a0 Z = true) (w4 : (Cond.code y bytes 2 (some .int)).before a0 Z = true) (hy : y.cls ≠ "java/lang/invoke/MethodHandle" ∧ y.cls ≠ "java/lang/invoke/VarHandle") {sg : MethodDescriptor} (hpd : parseMethodDescriptor y.desc = some sg) (hna : sg.parameters.length = 1)
    (hd : decode code pc = .ok (.invokestatic index, 3)) : OkE l K A Z n0 bs wr own code maxL ret nm R call (pc, 3, .inl (hEnt tq maxL R)) := by
  intro L S H k n nx L' S' H' k' n' he p e s m args below meth c ws bd Q T h P hc hm hn I D
  unfold hEnt at he
  split at he
  · rename_i x S1 _ _ _ q0
    cases q0
    split at he
    · rename_i q1
      simp only [Bool.and_eq_true, beq_iff_eq, decide_eq_true_eq] at q1
      obtain ⟨c0, c1, c2, c3, c4, c5⟩ := q1
      obtain ⟨a, ha⟩ := isI_e c0
      split at he
      · rename_i v q2
        cases he
        have hv : mv A v = .int (entW (a A)) := hQ _ (look2_i q2) _ 0 (ha A) rfl
        refine wCallS (rm := ⟨0, 0, 0, 0⟩) (W := (S1.map fun v => v.category).sum) (argsL := [.int (a A)]) (rest := S1.map (mv A)) (ws' := []) P (hM h (a A)) w1 w2 w3 w4 hy (by rw [Array.size_map, hm]; exact c1) (fun sig hs => by rw [hpd] at hs; cases hs; rw [hna]; rfl) rfl (by show List.map (mv A) (x :: S1) = _; rw [List.map_cons, ha]; rfl) (Nat.le_of_eq (sum_cat _)) c2 c3 c4 c5 (fun x hx => nomatch hx) (hb hc hd) rfl rfl rfl fun T' h' v' P' Kp q => ?_
        obtain ⟨rfl, rfl⟩ := q
        have D' := D T' h P' I
        rw [List.map_cons, hv] at D'
        exact D'
      · cases he
    · cases he
  · cases he
theorem allN {α : Type} {P : α → Prop} : ∀ y ∈ ([] : List α), P y := fun _ h => absurd h List.not_mem_nil
theorem allC {α : Type} {P : α → Prop} {x : α} {xs : List α} (h : P x) (q : ∀ y ∈ xs, P y) : ∀ y ∈ x :: xs, P y := List.forall_mem_cons.mpr ⟨h, q⟩
variable {MY : Nat → MethodName} {MC : Nat → ByteArray} {ML : Nat → Nat} {MR : Nat → Option FieldType} {MM : Nat → Room}
def runM (prg : Nat → List Ent) (ML : Nat → Nat) (MM : Nat → Room) (gas : Nat) : Nat → Caller
  | 0 => fun _ _ _ => none
  | d + 1 => fun id as H => body (runM prg ML MM gas d) (prg id) (ML id) (MM id).cells gas as H
theorem runM_ok {prg : Nat → List Ent} {gas : Nat} (hp : ∀ call, CallOk l K A Z n0 bs wr MY MC ML MR MM call → ∀ id, prg id ≠ [] → plainFor (MY id) = true ∧ ∀ x ∈ prg id, OkE l K A Z n0 bs wr (MY id).cls (MC id) (ML id) (MR id) (MY id).name (MM id) call x) : ∀ d, CallOk l K A Z n0 bs wr MY MC ML MR MM (runM prg ML MM gas d) := by
  intro d
  induction d with
  | zero => intro id as H v H' h; cases h
  | succ d ih =>
    intro id as H v H' h h' ws h1 h2 h3 h4
    have hne : prg id ≠ [] := fun q => by
      have h5 : body (runM prg ML MM gas d) (prg id) (ML id) (MM id).cells gas as H = some (v, H') := h
      rw [q] at h5
      cases h5
    obtain ⟨g1, g2⟩ := hp _ ih id hne
    exact body_ok g2 g1 h h' ws h1 h2 h3 h4
abbrev Tab := List (Value × Value)
def TabOk (A : Den) (tab : Tab) : Prop := ∀ t ∈ tab, mv A t.1 = mv A t.2
def eqv (tab : Tab) (g v : Value) : Bool := veq g v || tab.any fun t => veq t.1 g && veq t.2 v
theorem eqv_e {tab : Tab} {g v : Value} (hB : TabOk A tab) (h : eqv tab g v = true) : mv A g = mv A v := by
  unfold eqv at h
  rw [Bool.or_eq_true] at h
  rcases h with h | h
  · rw [veq_e h]
  · obtain ⟨t, h1, h2⟩ := List.any_eq_true.mp h
    rw [Bool.and_eq_true] at h2
    have q := hB t h1
    rw [veq_e h2.1, veq_e h2.2] at q
    exact q
def eqL (tab : Tab) : List Value → List Value → Bool
  | [], [] => true
  | g :: gs, v :: vs => eqv tab g v && eqL tab gs vs
  | _, _ => false
theorem eqL_e {tab : Tab} (hB : TabOk A tab) : ∀ {gs vs : List Value}, eqL tab gs vs = true → gs.map (mv A) = vs.map (mv A)
  | [], [], _ => rfl
  | [], _ :: _, h => by cases h
  | _ :: _, [], h => by cases h
  | g :: gs, v :: vs, h => by
    unfold eqL at h
    rw [Bool.and_eq_true] at h
    rw [List.map_cons, List.map_cons, eqv_e hB h.1, eqL_e hB h.2]
def eqC (tab : Tab) (g c : Nat × List Value) : Bool := g.1 == 0 || (g.1 == c.1 && eqL tab g.2 c.2)
def eqH (tab : Tab) : AH → AH → Bool
  | [], [] => true
  | g :: gs, v :: vs => eqC tab g v && eqH tab gs vs
  | _, _ => false
theorem eqH_e {tab : Tab} : ∀ {gs vs : AH}, eqH tab gs vs = true → gs.length = vs.length ∧ ∀ (i : Nat) (g : Nat × List Value), gs[i]? = some g → ∃ c, vs[i]? = some c ∧ eqC tab g c = true
  | [], [], _ => ⟨rfl, fun i g h => by cases h⟩
  | [], _ :: _, h => by cases h
  | _ :: _, [], h => by cases h
  | g :: gs, v :: vs, h => by
    unfold eqH at h
    rw [Bool.and_eq_true] at h
    obtain ⟨q1, q2⟩ := eqH_e h.2
    refine ⟨by rw [List.length_cons, List.length_cons, q1], fun i g' hg => ?_⟩
    cases i with
    | zero => cases hg; exact ⟨v, rfl, h.1⟩
    | succ i => exact q2 i g' hg
theorem CellOk.recast {tab : Tab} {h : Heap} {a : Addr} {g c : Nat × List Value} (hK : (K 0).1 = none) (hB : TabOk A tab) (X : CellOk K A Z h a c) (e : eqC tab g c = true) : CellOk K A Z h a g := by
  unfold eqC at e
  rw [Bool.or_eq_true] at e
  rcases e with e | e
  · rw [beq_iff_eq] at e
    unfold CellOk
    rw [e, hK]
    exact Or.inl rfl
  · rw [Bool.and_eq_true, beq_iff_eq] at e
    obtain ⟨e1, e2⟩ := e
    have e3 := eqL_e hB e2
    have e4 : g.2.length = c.2.length := by have q := congrArg List.length e3; simpa using q
    have e5 : ∀ i : Nat, g.2[i]?.map (mv A) = c.2[i]?.map (mv A) := fun (i : Nat) => by have q := congrArg (fun z : List Value => z[i]?) e3; simpa using q
    unfold CellOk at X ⊢
    rw [e1]
    split at X
    · refine ⟨?_, X.2⟩
      rw [e4]
      refine X.1.congr fun i hi => ?_
      have q := e5 i
      show mv A (c.2.getD i .null) = mv A (g.2.getD i .null)
      rw [List.getD_eq_getElem?_getD, List.getD_eq_getElem?_getD]
      rw [List.getElem?_eq_getElem hi, List.getElem?_eq_getElem (e4.symm ▸ hi)] at q ⊢
      exact (Option.some.inj q).symm
    · rcases X with X | ⟨X1, X2⟩
      · exact Or.inl X
      · refine Or.inr ⟨X1, fun j fd hj => ?_⟩
        obtain ⟨v, q1, q2⟩ := X2 j fd hj
        have q := e5 j
        rw [q1] at q
        rw [Option.map_some, Option.map_eq_some_iff] at q
        obtain ⟨v', q3, q4⟩ := q
        exact ⟨v', q3, q4 ▸ q2⟩
theorem Inv.recast {tab : Tab} {s : State} {ws : List Addr} {bd : Nat} {h : Heap} {G H : AH} {k : Nat} (hK : (K 0).1 = none) (hB : TabOk A tab) (I : Inv K A Z n0 bs wr s ws bd h H k) (e : eqH tab G H = true) : Inv K A Z n0 bs wr s ws bd h G k := by
  obtain ⟨I1, I2, I3, I4, I5⟩ := I
  obtain ⟨e1, e2⟩ := eqH_e e
  refine ⟨fun i g hg => ?_, I2, by rw [e1]; exact I3, by rw [e1]; exact I4, fun i hi hw => I5 i (by rw [← e1]; exact hi) hw⟩
  obtain ⟨c, q1, q2⟩ := e2 i g hg
  exact (I1 i c q1).recast hK hB q2
def eqS (tab : Tab) : Slot → Slot → Bool
  | .val g, .val v => eqv tab g v
  | .unset, .unset => true
  | .second, .second => true
  | _, _ => false
theorem eqS_e {tab : Tab} {g v : Slot} (hB : TabOk A tab) (h : eqS tab g v = true) : ml A g = ml A v := by
  unfold eqS at h
  split at h
  · exact congrArg Slot.val (eqv_e hB h)
  · rfl
  · rfl
  · cases h
def eqF (tab : Tab) : List Slot → List Slot → Bool
  | [], [] => true
  | g :: gs, v :: vs => eqS tab g v && eqF tab gs vs
  | _, _ => false
theorem eqF_e {tab : Tab} (hB : TabOk A tab) : ∀ {gs vs : List Slot}, eqF tab gs vs = true → gs.map (ml A) = vs.map (ml A)
  | [], [], _ => rfl
  | [], _ :: _, h => by cases h
  | _ :: _, [], h => by cases h
  | g :: gs, v :: vs, h => by
    unfold eqF at h
    rw [Bool.and_eq_true] at h
    rw [List.map_cons, List.map_cons, eqS_e hB h.1, eqF_e hB h.2]
theorem eqF_a {tab : Tab} {Lg Lv : Array Slot} (hB : TabOk A tab) (h : eqF tab Lg.toList Lv.toList = true) : Lg.map (ml A) = Lv.map (ml A) := by
  have q := eqF_e hB h
  apply Array.toList_inj.mp
  rw [Array.toList_map, Array.toList_map]
  exact q
def Seg (l : Launch) (K : Kls) (A : Den) (Z : State) (n0 bs : Nat) (wr : Nat → Bool) (own : String) (code : ByteArray) (maxL : Nat) (nm : String) (R : Room) (pc : Nat) (L : Array Slot) (S : List Value) (H : AH) (k n pc' : Nat) (L' : Array Slot) (S' : List Value) (H' : AH) (k' n' : Nat) : Prop :=
  ∀ p e s m args below meth c ws bd Q T h, Pos p l e R s m args below meth c Z own ws bd T h k n → c.code = code → c.maxLocals = maxL → meth.name = nm → Inv K A Z n0 bs wr s ws bd h H k →
    (∀ T' h', Pos p l e R s m args below meth c Z own ws bd T' h' k' n' → Inv K A Z n0 bs wr s ws bd h' H' k' → Done p l e R s m args below meth c Z own ws bd Q T' (mkF m pc' (L'.map (ml A)) (S'.map (mv A)))) →
    Done p l e R s m args below meth c Z own ws bd Q T (mkF m pc (L.map (ml A)) (S.map (mv A)))
theorem Seg.trans {pc pc' pc2 : Nat} {L L' L2 : Array Slot} {S S' S2 : List Value} {H H' H2 : AH} {k n k' n' k2 n2 : Nat} (X : Seg l K A Z n0 bs wr own code maxL nm R pc L S H k n pc' L' S' H' k' n') (Y : Seg l K A Z n0 bs wr own code maxL nm R pc' L' S' H' k' n' pc2 L2 S2 H2 k2 n2) : Seg l K A Z n0 bs wr own code maxL nm R pc L S H k n pc2 L2 S2 H2 k2 n2 := fun p e s m args below meth c ws bd Q T h P hc hm hn I D =>
  X p e s m args below meth c ws bd Q T h P hc hm hn I fun T' h' P' I' => Y p e s m args below meth c ws bd Q T' h' P' hc hm hn I' D
/-- the same place in other names -/
theorem Seg.same {tab : Tab} {pc : Nat} {L L' : Array Slot} {S S' : List Value} {H H' : AH} {k n : Nat} (hK : (K 0).1 = none) (hB : TabOk A tab) (h : (eqF tab L'.toList L.toList && (eqL tab S' S && eqH tab H' H)) = true) : Seg l K A Z n0 bs wr own code maxL nm R pc L S H k n pc L' S' H' k n := fun p e s m args below meth c ws bd Q T h' P hc hm hn I D => by
  simp only [Bool.and_eq_true] at h
  obtain ⟨h1, h2, h3⟩ := h
  have D' := D T h' P (I.recast hK hB h3)
  rw [eqF_a hB h1, eqL_e hB h2] at D'
  exact D'
def seg (call : Caller) (prog : List Ent) (gas pc : Nat) (L : Array Slot) (S : List Value) (H : AH) (k n : Nat) (tab : Tab) (stop : Nat) (L' : Array Slot) (S' : List Value) (H' : AH) (k' n' mx : Nat) : Bool := match seek pc prog with
  | some r => (match go call prog stop gas r (L, S, H, k, n) with
    | some (x :: _, L1, S1, H1, k1, n1) => x.1 == stop && (k1 == k' && (decide (n1 ≤ n') && (decide (n' ≤ mx) && (eqF tab L'.toList L1.toList && (eqL tab S' S1 && eqH tab H' H1)))))
    | _ => false)
  | none => false
theorem seg_ok {prog : List Ent} {gas pc stop : Nat} {L L' : Array Slot} {S S' : List Value} {H H' : AH} {k n k' n' : Nat} {tab : Tab} (hp : ∀ x ∈ prog, OkE l K A Z n0 bs wr own code maxL ret nm R call x) (hK : (K 0).1 = none) (hB : TabOk A tab) (h : seg call prog gas pc L S H k n tab stop L' S' H' k' n' R.slots = true) :
    Seg l K A Z n0 bs wr own code maxL nm R pc L S H k n stop L' S' H' k' n' := by
  unfold seg at h
  split at h
  · rename_i r q0
    obtain ⟨y, tl, rfl, rfl, q3⟩ := seek_i q0
    split at h
    · rename_i x1 tl1 L1 S1 H1 k1 n1 q1
      obtain ⟨x', tl', g1, g2, g3⟩ := go_ok hp gas y tl _ _ _ _ _ _ _ _ _ _ _ q3 q1
      cases g1
      simp only [Bool.and_eq_true, beq_iff_eq, decide_eq_true_eq] at h
      obtain ⟨rfl, rfl, c2, c3, c4, c5, c6⟩ := h
      intro p e s m args below meth c ws bd Q T h' P hc hm hn I D
      refine g3 p e s m args below meth c ws bd Q T h' P hc hm hn I fun T' h2 P' I' => ?_
      have D' := D T' h2 (P'.more (Nat.le_refl _) c2 P'.2.2.2.2.2.2.2.1 c3) (I'.recast hK hB c6)
      rw [eqF_a hB c4, eqL_e hB c5] at D'
      exact D'
    · cases h
  · cases h
/-- one entry alone -/
theorem Seg.one {pc' len : Nat} {sem : Sm} {nx : Option Nat} {L L' : Array Slot} {S S' : List Value} {H H' : AH} {k n k' n' : Nat} (hx : OkE l K A Z n0 bs wr own code maxL ret nm R call (pc, len, .inl sem)) (h : sem call (L, S, H, k, n) = some (nx, L', S', H', k', n')) (hpc : nx.getD (pc + len) = pc') : Seg l K A Z n0 bs wr own code maxL nm R pc L S H k n pc' L' S' H' k' n' := fun p e s m args below meth c ws bd Q T h' P hc hm hn I D => by
  subst hpc
  exact hx _ _ _ _ _ _ _ _ _ _ _ h p e s m args below meth c ws bd Q T h' P hc hm hn I D
/-- a contract out of a segment that comes to a return -/
theorem met_seg {y : MethodName} {wd : List Cond} {as : List Value} {H H' : AH} {v : Option Value} {pc' len k' n' : Nat} {rf : Rf} {L' : Array Slot} {S' : List Value} (hy : plainFor y = true) (X : Seg l K A Z n0 bs wr y.cls code maxL y.name R 0 (argsToLocals as.toArray maxL) [] H 0 0 pc' L' S' H' k' n') (hx : OkE l K A Z n0 bs wr y.cls code maxL ret y.name R call (pc', len, .inr rf)) (hrf : rf (L', S', H', k', n') = some v) (hp0 : Heap) (ws : List Addr)
    (h1 : ∀ (i : Nat) (c : Nat × List Value), H[i]? = some c → CellOk K A Z hp0 (A.1 i) c) (h2 : hp0.size + n0 = bs + H.length) (h3 : n0 ≤ H.length) (h4 : ∀ i, i < H.length → wr i = true → A.1 i ∈ ws ∨ hp0.size ≤ A.1 i) :
    OMet l y code maxL ret wd R Z hp0 ws (as.map (mv A)).toArray (fun v' h' => v' = v.map (mv A) ∧ (∀ (i : Nat) (c : Nat × List Value), H'[i]? = some c → CellOk K A Z h' (A.1 i) c) ∧ h'.size = hp0.size + k' ∧ H'.length = H.length + k') := by
  refine OMetOf hy rfl rfl fun p e s m below meth c s₁ P hh hc hml hr hn => ?_
  have I0 : Inv K A Z n0 bs wr s ws hp0.size hp0 H 0 := ⟨h1, by rw [hh]; rfl, h2, h3, h4⟩
  have D := X p e s m _ below meth c ws hp0.size (fun v' h' => v' = v.map (mv A) ∧ (∀ (i : Nat) (c : Nat × List Value), H'[i]? = some c → CellOk K A Z h' (A.1 i) c) ∧ h'.size = hp0.size + k' ∧ H'.length = H.length + k') s₁ hp0 P hc hml hn I0 fun T' h' P' I' => hx _ _ _ _ _ _ hrf p e s m _ below meth c ws hp0.size _ T' h' P' hc hr ⟨rfl, I'.1, ?_, ?_⟩
  · show Done p l e R s m _ below meth c Z y.cls ws hp0.size _ s₁ { method := m, pc := 0, locals := argsToLocals _ maxL, stack := [], locked := none }
    rw [args_ml]
    exact D
  · have z1 := I'.2.1
    rw [hh] at z1
    omega
  · have z1 := I'.2.1
    have z2 := I'.2.2.1
    rw [hh] at z1
    omega
/-- a virtual call whose contract is known at these arguments alone -/
theorem Seg.callV {a0 : Array Value} {i index ml' cid : Nat} {y : MethodName} {bytes : ByteArray} {rt : Option FieldType} {rm : Room} {sg : MethodDescriptor} {C : String} {F : List (String × String)} {tl rest vs : List Value} {H H' : AH} {v : Option Value} {L : Array Slot} {k n k' n' : Nat} (hA : AdOk A n0 bs) (hK : K cid = (none, C, F)) (h0 : cid ≠ 0) (gi : H[i]? = some (cid, vs))
    (hM : ∀ (h : Heap) (ws : List Addr), (∀ (i : Nat) (c : Nat × List Value), H[i]? = some c → CellOk K A Z h (A.1 i) c) → h.size + n0 = bs + H.length → n0 ≤ H.length → (∀ i, i < H.length → wr i = true → A.1 i ∈ ws) → OMet l y bytes ml' rt [] rm Z h ws ((.ref i :: tl : List Value).map (mv A)).toArray (fun v' h' => v' = v.map (mv A) ∧ (∀ (i : Nat) (c : Nat × List Value), H'[i]? = some c → CellOk K A Z h' (A.1 i) c) ∧ h'.size = h.size + rm.cells ∧ H'.length = H.length + rm.cells))
    (w1 : (Cond.methodLink own index y).before a0 Z = true) (w2 : (Cond.declares y).before a0 Z = true) (w5 : (Cond.selects C y y).before a0 Z = true) (w6 : (Cond.instanceMethod y).before a0 Z = true) (w3 : (Cond.initialized y.cls).before a0 Z = true) (w4 : (Cond.code y bytes ml' rt).before a0 Z = true)
    (hy : y.cls ≠ "java/lang/invoke/MethodHandle" ∧ y.cls ≠ "java/lang/invoke/VarHandle") (hpd : parseMethodDescriptor y.desc = some sg) (hna : sg.parameters.length = tl.length)
    (g2 : L.size = maxL) (g3 : rm.frames + 1 ≤ R.frames) (g4 : (rest.map fun v => v.category).sum + (ml' + 11) + rm.locals ≤ R.locals) (g5 : k + rm.cells ≤ R.cells) (g6 : n + rm.slots ≤ R.slots) (hk : k + rm.cells = k') (hn' : n + rm.slots = n')
    (hd : decode code pc = .ok (.invokevirtual index, 3)) : Seg l K A Z n0 bs wr own code maxL nm R pc L ((.ref i :: tl : List Value).reverse ++ rest) H k n (pc + 3) L (v.toList ++ rest) H' k' n' := by
  intro p e s m args below meth c ws bd Q T h P hc hm hn I D
  subst hk hn'
  refine wCallV (W := (rest.map fun v => v.category).sum) (argsL := tl.map (mv A)) (rest := rest.map (mv A)) P (hM h (wsOf A wr H) I.1 I.2.2.1 I.2.2.2.1 fun i hi hw => wsOf_in hi hw) w1 w2 w5 w5 w6 w3 w4 hy ((I.1 i _ gi).exa hK h0) (by rw [Array.size_map, hm]; exact g2) (fun sig hs => by rw [hpd] at hs; cases hs; rw [List.length_map]; omega) rfl (by rw [List.map_append, List.map_reverse, List.map_cons, List.reverse_cons, List.append_assoc]; rfl) (Nat.le_of_eq (sum_cat _)) g3 g4 g5 g6 I.ws (hb hc hd) rfl rfl rfl fun T' h' v' P' Kp q => ?_
  obtain ⟨rfl, q1, q2, q3⟩ := q
  have D' := D T' h' P' (I.called hA P.ge q1 q2 q3)
  rw [List.map_append] at D'
  cases v <;> exact D'
abbrev Mt := MethodName × ByteArray × Nat × Option FieldType × Room
variable {MT : Nat → Mt}
theorem cS {a0 : Array Value} {id na index ml' : Nat} {y : MethodName} {bytes : ByteArray} {rt : Option FieldType} {rm : Room} {sg : MethodDescriptor} (hA : AdOk A n0 bs) (hC : CallOk l K A Z n0 bs wr (fun i => (MT i).1) (fun i => (MT i).2.1) (fun i => (MT i).2.2.1) (fun i => (MT i).2.2.2.1) (fun i => (MT i).2.2.2.2) call) (e : MT id = (y, bytes, ml', rt, rm)) (w1 : (Cond.methodLink own index y).before a0 Z = true) (w2 : (Cond.static y).before a0 Z = true) (w3 : (Cond.initialized y.cls).before a0 Z = true) (w4 : (Cond.code y bytes ml' rt).before a0 Z = true)
    (hy : y.cls ≠ "java/lang/invoke/MethodHandle" ∧ y.cls ≠ "java/lang/invoke/VarHandle") (hpd : parseMethodDescriptor y.desc = some sg) (hna : sg.parameters.length = na)
    (hd : decode code pc = .ok (.invokestatic index, 3)) : OkE l K A Z n0 bs wr own code maxL ret nm R call (pc, 3, .inl (hCall id na (fun _ _ => true) rm ml' maxL R)) := by
  have e1 : (MT id).1 = y := by rw [e]
  have e2 : (MT id).2.1 = bytes := by rw [e]
  have e3 : (MT id).2.2.1 = ml' := by rw [e]
  have e4 : (MT id).2.2.2.1 = rt := by rw [e]
  have e5 : (MT id).2.2.2.2 = rm := by rw [e]
  clear e
  subst e1 e2 e3 e4 e5
  exact ok_callS hA hC rfl rfl w1 w2 w3 w4 hy hpd hna hd
theorem cV {a0 : Array Value} {id na index ml' cid : Nat} {y : MethodName} {bytes : ByteArray} {rt : Option FieldType} {rm : Room} {sg : MethodDescriptor} {C : String} {F : List (String × String)} (hA : AdOk A n0 bs) (hC : CallOk l K A Z n0 bs wr (fun i => (MT i).1) (fun i => (MT i).2.1) (fun i => (MT i).2.2.1) (fun i => (MT i).2.2.2.1) (fun i => (MT i).2.2.2.2) call) (hK : K cid = (none, C, F)) (h0 : cid ≠ 0) (e : MT id = (y, bytes, ml', rt, rm)) (w1 : (Cond.methodLink own index y).before a0 Z = true) (w2 : (Cond.declares y).before a0 Z = true) (w5 : (Cond.selects C y y).before a0 Z = true) (w6 : (Cond.instanceMethod y).before a0 Z = true) (w3 : (Cond.initialized y.cls).before a0 Z = true) (w4 : (Cond.code y bytes ml' rt).before a0 Z = true)
    (hy : y.cls ≠ "java/lang/invoke/MethodHandle" ∧ y.cls ≠ "java/lang/invoke/VarHandle") (hpd : parseMethodDescriptor y.desc = some sg) (hna : sg.parameters.length + 1 = na)
    (hd : decode code pc = .ok (.invokevirtual index, 3)) : OkE l K A Z n0 bs wr own code maxL ret nm R call (pc, 3, .inl (hCall id na (chkI cid) rm ml' maxL R)) := by
  have e1 : (MT id).1 = y := by rw [e]
  have e2 : (MT id).2.1 = bytes := by rw [e]
  have e3 : (MT id).2.2.1 = ml' := by rw [e]
  have e4 : (MT id).2.2.2.1 = rt := by rw [e]
  have e5 : (MT id).2.2.2.2 = rm := by rw [e]
  clear e
  subst e1 e2 e3 e4 e5
  exact ok_callV hA hC hK h0 rfl rfl w1 w2 w5 w6 w3 w4 hy hpd hna hd
theorem cP {a0 : Array Value} {id na index ml' cid kk : Nat} {y : MethodName} {bytes : ByteArray} {rt : Option FieldType} {rm : Room} {sg : MethodDescriptor} {C : String} {F : List (String × String)} (hA : AdOk A n0 bs) (hC : CallOk l K A Z n0 bs wr (fun i => (MT i).1) (fun i => (MT i).2.1) (fun i => (MT i).2.2.1) (fun i => (MT i).2.2.2.1) (fun i => (MT i).2.2.2.2) call) (hK : K cid = (none, C, F)) (h0 : cid ≠ 0) (e : MT id = (y, bytes, ml', rt, rm)) (w1 : (Cond.methodLink own index y).before a0 Z = true) (w2 : (Cond.instanceMethod y).before a0 Z = true) (w5 : (Cond.privateMethod y).before a0 Z = true) (wi : (Cond.instantiable y.cls kk).before a0 Z = true) (w3 : (Cond.initialized y.cls).before a0 Z = true) (w4 : (Cond.code y bytes ml' rt).before a0 Z = true)
    (hy : y.cls ≠ "java/lang/invoke/MethodHandle" ∧ y.cls ≠ "java/lang/invoke/VarHandle") (hpd : parseMethodDescriptor y.desc = some sg) (hna : sg.parameters.length + 1 = na)
    (hd : decode code pc = .ok (.invokevirtual index, 3)) : OkE l K A Z n0 bs wr own code maxL ret nm R call (pc, 3, .inl (hCall id na (chkI cid) rm ml' maxL R)) := by
  have e1 : (MT id).1 = y := by rw [e]
  have e2 : (MT id).2.1 = bytes := by rw [e]
  have e3 : (MT id).2.2.1 = ml' := by rw [e]
  have e4 : (MT id).2.2.2.1 = rt := by rw [e]
  have e5 : (MT id).2.2.2.2 = rm := by rw [e]
  clear e
  subst e1 e2 e3 e4 e5
  exact ok_callP hA hC hK h0 rfl rfl w1 w2 w5 wi w3 w4 hy hpd hna hd
theorem cI {a0 : Array Value} {id na index ml' cid : Nat} {y : MethodName} {bytes : ByteArray} {rm : Room} {sg : MethodDescriptor} (hA : AdOk A n0 bs) (hC : CallOk l K A Z n0 bs wr (fun i => (MT i).1) (fun i => (MT i).2.1) (fun i => (MT i).2.2.1) (fun i => (MT i).2.2.2.1) (fun i => (MT i).2.2.2.2) call) (e : MT id = (y, bytes, ml', none, rm)) (hyn : y.name = "<init>") (w1 : (Cond.methodLink own index y).before a0 Z = true) (w2 : (Cond.instanceMethod y).before a0 Z = true) (w3 : (Cond.initialized y.cls).before a0 Z = true) (w4 : (Cond.code y bytes ml' none).before a0 Z = true)
    (hy : y.cls ≠ "java/lang/invoke/MethodHandle" ∧ y.cls ≠ "java/lang/invoke/VarHandle") (hpd : parseMethodDescriptor y.desc = some sg) (hna : sg.parameters.length + 1 = na)
    (hd : decode code pc = .ok (.invokespecial index, 3)) : OkE l K A Z n0 bs wr own code maxL ret nm R call (pc, 3, .inl (hCall id na (chkI cid) rm ml' maxL R)) := by
  have e1 : (MT id).1 = y := by rw [e]
  have e2 : (MT id).2.1 = bytes := by rw [e]
  have e3 : (MT id).2.2.1 = ml' := by rw [e]
  have e4 : (MT id).2.2.2.1 = none := by rw [e]
  have e5 : (MT id).2.2.2.2 = rm := by rw [e]
  clear e
  rw [← e4] at w4
  subst e1 e2 e3 e5
  exact ok_callI hA hC rfl rfl e4 hyn w1 w2 w3 w4 hy hpd hna hd
theorem cR {a0 : Array Value} {id na index ml' cid : Nat} {y : MethodName} {bytes : ByteArray} {rm : Room} {sg : MethodDescriptor} (hA : AdOk A n0 bs) (hC : CallOk l K A Z n0 bs wr (fun i => (MT i).1) (fun i => (MT i).2.1) (fun i => (MT i).2.2.1) (fun i => (MT i).2.2.2.1) (fun i => (MT i).2.2.2.2) call) (e : MT id = (y, bytes, ml', none, rm)) (hyn : y.name = "<init>") (w1 : (Cond.methodRef own index y).before a0 Z = true) (w2 : (Cond.instanceMethod y).before a0 Z = true) (w3 : (Cond.initialized y.cls).before a0 Z = true) (w4 : (Cond.code y bytes ml' none).before a0 Z = true)
    (hy : y.cls ≠ "java/lang/invoke/MethodHandle" ∧ y.cls ≠ "java/lang/invoke/VarHandle") (hpd : parseMethodDescriptor y.desc = some sg) (hna : sg.parameters.length + 1 = na)
    (hd : decode code pc = .ok (.invokespecial index, 3)) : OkE l K A Z n0 bs wr own code maxL ret nm R call (pc, 3, .inl (hCall id na (chkI cid) rm ml' maxL R)) := by
  have e1 : (MT id).1 = y := by rw [e]
  have e2 : (MT id).2.1 = bytes := by rw [e]
  have e3 : (MT id).2.2.1 = ml' := by rw [e]
  have e4 : (MT id).2.2.2.1 = none := by rw [e]
  have e5 : (MT id).2.2.2.2 = rm := by rw [e]
  clear e
  rw [← e4] at w4
  subst e1 e2 e3 e5
  exact ok_callR hA hC rfl rfl e4 hyn w1 w2 w3 w4 hy hpd hna hd
end P
end Jvm.OwnI
namespace Jvm.Pilot.@@N@@
open Jvm Jvm.ClassFile Sem Op Lib Jvm.Free Jvm.Stand Jvm.LawKit Jvm.RoadKit Jvm.OwnW Jvm.OwnI Bundle Jvm.Pilot.@@N@@.Jvm.D
open Jvm.FP.Core (DInt i2d_int l2d_int dadd_int dsub_int dmul_int dneg_int zval b64 val64 dcmp_zval compare_ite i2d_ne_zero DInt_ne_nan dcmp_int dcmp_l2d)

theorem own_ofN {N : Nat} (h : N < 2147483648) : (Int32.ofNat N).toInt = (N : Int) := by
  have h1 := (n32 h).1
  have h2 := (n32 h).2
  rw [Int32.lt_iff_toInt_lt, show (0 : Int32).toInt = 0 from rfl] at h1
  rw [Int32.toNatClampNeg] at h2
  omega
theorem tW {a0 : Array Value} {Z : State} (hw : ∀ d ∈ tables_1, d.before a0 Z = true) (i : Nat) {d : Cond} (h : tables_1[i]? = some d) : d.before a0 Z = true := hw _ (List.mem_of_getElem? h)
theorem own_ent0 {x : Int32} (h : x &&& 3 = 0) : entW x = 0 := by unfold entW; rw [if_pos h]
theorem own_ent1 {x : Int32} (h : ¬ (x &&& 3 = 0)) (h2 : ¬ (x &&& 3 = 2)) : entW x = 1 := by unfold entW; rw [if_neg h, if_neg h2]
theorem own_ent2 {x : Int32} (h : x &&& 3 = 2) : entW x = -1 := by unfold entW; rw [if_neg (by rw [h]; decide), if_pos h]
theorem own_min2 {z nl : Int32} {N M : Nat} (hz : z.toInt = (N : Int)) (hm : nl.toInt = (M : Int)) (h : M < N) : (if nl < z then nl else z).toInt = (M : Int) := by
  rw [if_pos (by rw [Int32.lt_iff_toInt_lt]; omega), hm]
theorem pn_0 : plainName "com/example/foreshock/foreshock/planning/BasisFactorizationSolveTransposedPinLaw" = true := by first | (simp [plainName, overriddenIn]; done) | decide +kernel
theorem pd_0 : parseMethodDescriptor "(II)I" = some ⟨[.int, .int], some .int⟩ := by decide +kernel
theorem pn_1 : plainName "java/util/Arrays" = true := by first | (simp [plainName, overriddenIn]; done) | decide +kernel
theorem pd_1 : parseMethodDescriptor "(I)I" = some ⟨[.int], some .int⟩ := by decide +kernel
theorem pd_2 : parseMethodDescriptor "(IIZ)[I" = some ⟨[.int, .int, .boolean], some (.array .int)⟩ := by decide +kernel
theorem pd_3 : parseMethodDescriptor "(IIZ)[D" = some ⟨[.int, .int, .boolean], some (.array .double)⟩ := by decide +kernel
theorem pd_4 : parseMethodDescriptor "(I)V" = some ⟨[.int], none⟩ := by decide +kernel
theorem pd_5 : parseMethodDescriptor "([[I[[D)Z" = some ⟨[(.array (.array .int)), (.array (.array .double))], some .boolean⟩ := by decide +kernel
theorem pd_6 : parseMethodDescriptor "(Lcom/example/foreshock/foreshock/planning/BasisFactorization;[II[D)V" = some ⟨[(.object "com/example/foreshock/foreshock/planning/BasisFactorization"), (.array .int), .int, (.array .double)], none⟩ := by decide +kernel
theorem pd_7 : parseMethodDescriptor "([D[D)V" = some ⟨[(.array .double), (.array .double)], none⟩ := by decide +kernel
theorem pd_8 : parseMethodDescriptor "()V" = some ⟨[], none⟩ := by decide +kernel
theorem pd_9 : parseMethodDescriptor "(Lcom/example/foreshock/foreshock/planning/BasisFactorization;[[I[[D)V" = some ⟨[(.object "com/example/foreshock/foreshock/planning/BasisFactorization"), (.array (.array .int)), (.array (.array .double))], none⟩ := by decide +kernel
theorem pd_10 : parseMethodDescriptor "()Z" = some ⟨[], some .boolean⟩ := by decide +kernel
theorem pd_11 : parseMethodDescriptor "([Z)[I" = some ⟨[(.array .boolean)], some (.array .int)⟩ := by decide +kernel
theorem pd_12 : parseMethodDescriptor "(IID)V" = some ⟨[.int, .int, .double], none⟩ := by decide +kernel
theorem pd_13 : parseMethodDescriptor "(II)V" = some ⟨[.int, .int], none⟩ := by decide +kernel
theorem pd_14 : parseMethodDescriptor "([II)V" = some ⟨[(.array .int), .int], none⟩ := by decide +kernel
theorem pd_15 : parseMethodDescriptor "(I)D" = some ⟨[.int], some .double⟩ := by decide +kernel
theorem pd_16 : parseMethodDescriptor "(II)D" = some ⟨[.int, .int], some .double⟩ := by decide +kernel
theorem pd_17 : parseMethodDescriptor "(DD)Z" = some ⟨[.double, .double], some .boolean⟩ := by decide +kernel
theorem pd_18 : parseMethodDescriptor "(D)D" = some ⟨[.double], some .double⟩ := by decide +kernel
theorem pd_19 : parseMethodDescriptor "(DD)D" = some ⟨[.double, .double], some .double⟩ := by decide +kernel
theorem pd_20 : parseMethodDescriptor "(ID)V" = some ⟨[.int, .double], none⟩ := by decide +kernel
theorem pd_21 : parseMethodDescriptor "([II)[I" = some ⟨[(.array .int), .int], some (.array .int)⟩ := by decide +kernel
theorem pd_22 : parseMethodDescriptor "(I[D)V" = some ⟨[.int, (.array .double)], none⟩ := by decide +kernel
theorem pd_23 : parseMethodDescriptor "([DD)V" = some ⟨[(.array .double), .double], none⟩ := by decide +kernel
theorem pn_2 : plainName "com/example/foreshock/foreshock/planning/BasisFactorization" = true := by first | (simp [plainName, overriddenIn]; done) | decide +kernel
theorem pn_3 : plainName "com/example/foreshock/foreshock/planning/BasisFactorization$EntryLists" = true := by first | (simp [plainName, overriddenIn]; done) | decide +kernel
theorem pn_4 : plainName "com/example/foreshock/foreshock/planning/BasisFactorization$Elimination" = true := by first | (simp [plainName, overriddenIn]; done) | decide +kernel
theorem pn_5 : plainName "com/example/foreshock/foreshock/planning/BasisFactorization$CountLists" = true := by first | (simp [plainName, overriddenIn]; done) | decide +kernel
theorem ef_ent (m : MethodId) (x0 : Int32) : entryFrame m #[(.int x0)] 2 = mkF m 0 #[.val (.int x0), .unset] [] := by first | (simp [entryFrame, mkF, argsToLocals, Value.category]; done) | rfl
theorem d_ent_0 : decode method_2_code 0 = .ok (.iload_n 0, 1) := by decide +kernel
theorem d_ent_1 : decode method_2_code 1 = .ok (.iconst 3, 1) := by decide +kernel
theorem d_ent_2 : decode method_2_code 2 = .ok (.iand, 1) := by decide +kernel
theorem d_ent_3 : decode method_2_code 3 = .ok (.istore_n 1, 1) := by decide +kernel
theorem d_ent_4 : decode method_2_code 4 = .ok (.iload_n 1, 1) := by decide +kernel
theorem d_ent_5 : decode method_2_code 5 = .ok (.ifCond .ne 5, 3) := by decide +kernel
theorem d_ent_10 : decode method_2_code 10 = .ok (.iload_n 1, 1) := by decide +kernel
theorem d_ent_11 : decode method_2_code 11 = .ok (.iconst 2, 1) := by decide +kernel
theorem d_ent_12 : decode method_2_code 12 = .ok (.if_icmp .ne 5, 3) := by decide +kernel
theorem d_ent_17 : decode method_2_code 17 = .ok (.iconst 1, 1) := by decide +kernel
theorem d_ent_18 : decode method_2_code 18 = .ok (.ireturn, 1) := by decide +kernel
theorem d_ent_15 : decode method_2_code 15 = .ok (.iconst (-1), 1) := by decide +kernel
theorem d_ent_16 : decode method_2_code 16 = .ok (.ireturn, 1) := by decide +kernel
theorem d_ent_8 : decode method_2_code 8 = .ok (.iconst 0, 1) := by decide +kernel
theorem d_ent_9 : decode method_2_code 9 = .ok (.ireturn, 1) := by decide +kernel
set_option maxRecDepth 65536 in
set_option maxHeartbeats 4000000 in
theorem m_ent (l : Launch) (Z : State) (a0 : Array Value) (hw : ∀ d ∈ tables_1, d.before a0 Z = true) (p0 : Int32) (h0 : Heap)  :
    OMet l (⟨"com/example/foreshock/foreshock/planning/BasisFactorizationSolveTransposedPinLaw", "ent", "(I)I"⟩ : MethodName) method_2_code 2 (Option.some FieldType.int) [] ({ frames := 0, cells := 0, slots := 0, locals := 0 } : Room) Z h0 [] #[(.int p0)] (fun v h' => v = some (.int (entW p0)) ∧ h0 = h') := by
  refine OMet.of (own := "com/example/foreshock/foreshock/planning/BasisFactorizationSolveTransposedPinLaw") (nm := "ent") (plainFor_of_name pn_0) rfl rfl ?_
  intro p e s m below meth c T0 P0 hby hml hret hnm
  refine Done.step (T' := T0) (g' := (mkF m 0 #[.val (.int p0), .unset] [])) (fun t kk => castTop (ef_ent m p0) kk) ?_
  refine Done.step (T' := T0) (g' := (mkF m 5 #[.val (.int p0), .val (.int (p0 &&& (3 : Int32)))] [(.int (p0 &&& (3 : Int32)))])) (fun t kk => ?_) ?_
  · show Steps p.tables e below (T0.setTop (mkF m 0 _ [])) t
    refine XS.iloadN P0.here P0.x rfl (hb hby d_ent_0) rfl ?_
    show Steps p.tables e below (T0.setTop (mkF m 1 _ [(.int p0)])) t
    refine XS.iconst P0.here P0.x rfl (hb hby d_ent_1) ?_
    show Steps p.tables e below (T0.setTop (mkF m 2 _ [(.int (3 : Int32)), (.int p0)])) t
    refine XS.iand P0.here P0.x rfl (hb hby d_ent_2) rfl ?_
    show Steps p.tables e below (T0.setTop (mkF m 3 _ [(.int (p0 &&& (3 : Int32)))])) t
    refine XS.istoreN P0.here P0.x rfl (hb hby d_ent_3) rfl (l' := #[.val (.int p0), .val (.int (p0 &&& (3 : Int32)))]) rfl ?_
    show Steps p.tables e below (T0.setTop (mkF m 4 _ [])) t
    refine XS.iloadN P0.here P0.x rfl (hb hby d_ent_4) rfl ?_
    exact kk
  by_cases hq : ¬ ((p0 &&& (3 : Int32)) = (0 : Int32))
  · refine Done.stepL (pc' := 12) (st' := [(.int (2 : Int32)), (.int (p0 &&& (3 : Int32)))]) (fun t kk => ?_) ?_
    · show Steps p.tables e below (T0.setTop (mkF m 5 _ [(.int (p0 &&& (3 : Int32)))])) t
      refine XS.ifYes P0.here P0.x rfl (pc0 := 5) (pc' := 10) rfl (hb hby d_ent_5) rfl (i0W_ne_t hq) (by decide) (by decide) ?_
      show Steps p.tables e below (T0.setTop (mkF m 10 _ [])) t
      refine XS.iloadN P0.here P0.x rfl (hb hby d_ent_10) rfl ?_
      show Steps p.tables e below (T0.setTop (mkF m 11 _ [(.int (p0 &&& (3 : Int32)))])) t
      refine XS.iconst P0.here P0.x rfl (hb hby d_ent_11) ?_
      exact kk
    by_cases hr : ¬ ((p0 &&& (3 : Int32)) = (2 : Int32))
    · refine Done.stepL (pc' := 18) (st' := [(.int (1 : Int32))]) (fun t kk => ?_) ?_
      · show Steps p.tables e below (T0.setTop (mkF m 12 _ [(.int (2 : Int32)), (.int (p0 &&& (3 : Int32)))])) t
        refine XS.icmpYes P0.here P0.x rfl (pc0 := 12) (pc' := 17) rfl (hb hby d_ent_12) rfl (iiW_ne_t hr) (by decide) (by decide) ?_
        show Steps p.tables e below (T0.setTop (mkF m 17 _ [])) t
        refine XS.iconst P0.here P0.x rfl (hb hby d_ent_17) ?_
        exact kk
      exact wRetI P0 hret (hb hby d_ent_18) ⟨congrArg (fun z => some (Value.int z)) (own_ent1 hq hr).symm, rfl⟩
    · refine Done.stepL (pc' := 16) (st' := [(.int (-1 : Int32))]) (fun t kk => ?_) ?_
      · show Steps p.tables e below (T0.setTop (mkF m 12 _ [(.int (2 : Int32)), (.int (p0 &&& (3 : Int32)))])) t
        refine XS.icmpNo P0.here P0.x rfl (hb hby d_ent_12) rfl (iiW_ne_f (show ¬ (¬ ((p0 &&& (3 : Int32)) = (2 : Int32))) from hr)) ?_
        show Steps p.tables e below (T0.setTop (mkF m 15 _ [])) t
        refine XS.iconst P0.here P0.x rfl (hb hby d_ent_15) ?_
        exact kk
      exact wRetI P0 hret (hb hby d_ent_16) ⟨congrArg (fun z => some (Value.int z)) (own_ent2 (Decidable.not_not.mp hr)).symm, rfl⟩
  · refine Done.stepL (pc' := 9) (st' := [(.int (0 : Int32))]) (fun t kk => ?_) ?_
    · show Steps p.tables e below (T0.setTop (mkF m 5 _ [(.int (p0 &&& (3 : Int32)))])) t
      refine XS.ifNo P0.here P0.x rfl (hb hby d_ent_5) rfl (i0W_ne_f (show ¬ (¬ ((p0 &&& (3 : Int32)) = (0 : Int32))) from hq)) ?_
      show Steps p.tables e below (T0.setTop (mkF m 8 _ [])) t
      refine XS.iconst P0.here P0.x rfl (hb hby d_ent_8) ?_
      exact kk
    exact wRetI P0 hret (hb hby d_ent_9) ⟨congrArg (fun z => some (Value.int z)) (own_ent0 (Decidable.not_not.mp hq)).symm, rfl⟩
theorem ef_min (m : MethodId) (x0 : Int32) (x1 : Int32) : entryFrame m #[(.int x0), (.int x1)] 2 = mkF m 0 #[.val (.int x0), .val (.int x1)] [] := by first | (simp [entryFrame, mkF, argsToLocals, Value.category]; done) | rfl
theorem d_min_0 : decode jdk_29_method_69_code 0 = .ok (.iload_n 0, 1) := by decide +kernel
theorem d_min_1 : decode jdk_29_method_69_code 1 = .ok (.iload_n 1, 1) := by decide +kernel
theorem d_min_2 : decode jdk_29_method_69_code 2 = .ok (.if_icmp .gt 7, 3) := by decide +kernel
theorem d_min_5 : decode jdk_29_method_69_code 5 = .ok (.iload_n 0, 1) := by decide +kernel
theorem d_min_6 : decode jdk_29_method_69_code 6 = .ok (.goto 4, 3) := by decide +kernel
theorem d_min_9 : decode jdk_29_method_69_code 9 = .ok (.iload_n 1, 1) := by decide +kernel
theorem d_min_10 : decode jdk_29_method_69_code 10 = .ok (.ireturn, 1) := by decide +kernel
set_option maxRecDepth 65536 in
set_option maxHeartbeats 4000000 in
theorem m_min (l : Launch) (Z : State) (a0 : Array Value) (hw : ∀ d ∈ tables_1, d.before a0 Z = true) (p0 p1 : Int32) (h0 : Heap)  :
    OMet l (⟨"java/lang/Math", "min", "(II)I"⟩ : MethodName) jdk_29_method_69_code 2 (Option.some FieldType.int) [] ({ frames := 0, cells := 0, slots := 0, locals := 0 } : Room) Z h0 [] #[(.int p0), (.int p1)] (fun v h' => v = some (.int (if p1 < p0 then p1 else p0)) ∧ h0 = h') := by
  refine OMet.of (own := "java/lang/Math") (nm := "min") (Jvm.Free.JP.mathPlain rfl (by decide +kernel)) rfl rfl ?_
  intro p e s m below meth c T0 P0 hby hml hret hnm
  refine Done.step (T' := T0) (g' := (mkF m 0 #[.val (.int p0), .val (.int p1)] [])) (fun t kk => castTop (ef_min m p0 p1) kk) ?_
  refine Done.stepL (pc' := 10) (st' := [(.int (if p1 < p0 then p1 else p0))]) (fun t kk => ?_) ?_
  · show Steps p.tables e below (T0.setTop (mkF m 0 _ [])) t
    refine XS.iloadN P0.here P0.x rfl (hb hby d_min_0) rfl ?_
    show Steps p.tables e below (T0.setTop (mkF m 1 _ [(.int p0)])) t
    refine XS.iloadN P0.here P0.x rfl (hb hby d_min_1) rfl ?_
    show Steps p.tables e below (T0.setTop (mkF m 2 _ [(.int p1), (.int p0)])) t
    suffices kk2 : Steps p.tables e below (T0.setTop (mkF m 10 #[.val (.int p0), .val (.int p1)] [(.int (if p1 < p0 then p1 else p0))])) t by
      by_cases hc1 : p1 < p0
      · skip
        replace kk2 := Eq.mp (congrArg (fun z_ : Int32 => Steps p.tables e below (T0.setTop (mkF m 10 #[.val (.int p0), .val (.int p1)] [(.int z_)])) t) (show (if p1 < p0 then p1 else p0) = p1 from if_pos hc1)) kk2
        show Steps p.tables e below (T0.setTop (mkF m 2 _ [(.int p1), (.int p0)])) t
        refine XS.icmpYes P0.here P0.x rfl (pc0 := 2) (pc' := 9) rfl (hb hby d_min_2) rfl (iiW_gt_t hc1) (by decide) (by decide) ?_
        show Steps p.tables e below (T0.setTop (mkF m 9 _ [])) t
        refine XS.iloadN P0.here P0.x rfl (hb hby d_min_9) rfl ?_
        exact kk2
      · skip
        replace kk2 := Eq.mp (congrArg (fun z_ : Int32 => Steps p.tables e below (T0.setTop (mkF m 10 #[.val (.int p0), .val (.int p1)] [(.int z_)])) t) (show (if p1 < p0 then p1 else p0) = p0 from if_neg hc1)) kk2
        show Steps p.tables e below (T0.setTop (mkF m 2 _ [(.int p1), (.int p0)])) t
        refine XS.icmpNo P0.here P0.x rfl (hb hby d_min_2) rfl (iiW_gt_f hc1) ?_
        show Steps p.tables e below (T0.setTop (mkF m 5 _ [])) t
        refine XS.iloadN P0.here P0.x rfl (hb hby d_min_5) rfl ?_
        show Steps p.tables e below (T0.setTop (mkF m 6 _ [(.int p0)])) t
        refine XS.goto P0.here P0.x rfl (pc0 := 6) (pc' := 10) rfl (hb hby d_min_6) (by decide) (by decide) ?_
        exact kk2
    exact kk
  exact wRetI P0 hret (hb hby d_min_10) ⟨rfl, rfl⟩
theorem ef_copyOf (m : MethodId) (x0 : Addr) (x1 : Int32) : entryFrame m #[(.ref x0), (.int x1)] 3 = mkF m 0 #[.val (.ref x0), .val (.int x1), .unset] [] := by first | (simp [entryFrame, mkF, argsToLocals, Value.category]; done) | rfl
theorem d_copyOf_0 : decode jdk_65_method_123_code 0 = .ok (.iload_n 1, 1) := by decide +kernel
theorem d_copyOf_1 : decode jdk_65_method_123_code 1 = .ok (.aload_n 0, 1) := by decide +kernel
theorem d_copyOf_2 : decode jdk_65_method_123_code 2 = .ok (.arraylength, 1) := by decide +kernel
theorem d_copyOf_3 : decode jdk_65_method_123_code 3 = .ok (.if_icmp .ne 11, 3) := by decide +kernel
theorem d_copyOf_14 : decode jdk_65_method_123_code 14 = .ok (.iload_n 1, 1) := by decide +kernel
theorem d_copyOf_15 : decode jdk_65_method_123_code 15 = .ok (.newarray .int, 2) := by decide +kernel
theorem d_copyOf_17 : decode jdk_65_method_123_code 17 = .ok (.astore_n 2, 1) := by decide +kernel
theorem d_copyOf_18 : decode jdk_65_method_123_code 18 = .ok (.aload_n 0, 1) := by decide +kernel
theorem d_copyOf_19 : decode jdk_65_method_123_code 19 = .ok (.iconst 0, 1) := by decide +kernel
theorem d_copyOf_20 : decode jdk_65_method_123_code 20 = .ok (.aload_n 2, 1) := by decide +kernel
theorem d_copyOf_21 : decode jdk_65_method_123_code 21 = .ok (.iconst 0, 1) := by decide +kernel
theorem d_copyOf_22 : decode jdk_65_method_123_code 22 = .ok (.aload_n 0, 1) := by decide +kernel
theorem d_copyOf_23 : decode jdk_65_method_123_code 23 = .ok (.arraylength, 1) := by decide +kernel
theorem d_copyOf_24 : decode jdk_65_method_123_code 24 = .ok (.iload_n 1, 1) := by decide +kernel
theorem d_copyOf_25 : decode jdk_65_method_123_code 25 = .ok (.invokestatic 304, 3) := by decide +kernel
theorem d_copyOf_28 : decode jdk_65_method_123_code 28 = .ok (.invokestatic 150, 3) := by decide +kernel
theorem d_copyOf_31 : decode jdk_65_method_123_code 31 = .ok (.aload_n 2, 1) := by decide +kernel
theorem d_copyOf_32 : decode jdk_65_method_123_code 32 = .ok (.areturn, 1) := by decide +kernel
set_option maxRecDepth 65536 in
set_option maxHeartbeats 4000000 in
theorem m_copyOf (l : Launch) (Z : State) (a0 : Array Value) (hw : ∀ d ∈ tables_1, d.before a0 Z = true) (a : Addr) (nl z : Int32) (N M : Nat) (f : Nat → Int32) (h0 : Heap) (A0 : Ar Z h0 a .int N (fun i => .int (f i))) (hz : z.toInt = (N : Int)) (hm : nl.toInt = (M : Int)) (hMN : M < N) (hc : M ≤ 2) :
    OMet l (⟨"java/util/Arrays", "copyOf", "([II)[I"⟩ : MethodName) jdk_65_method_123_code 3 (Option.some (FieldType.array FieldType.int)) [] ({ frames := 1, cells := 1, slots := 2, locals := 40 } : Room) Z h0 [] #[(.ref a), (.int nl)] (fun v h' => ∃ b : Addr, v = some (.ref b) ∧ b = h0.size ∧ h0.size < h'.size ∧ Ar Z h' b .int M (fun i => .int (f i)) ∧ Exa Z h' b "[I") := by
  refine OMet.of (own := "java/util/Arrays") (nm := "copyOf") (plainFor_of_name pn_1) rfl rfl ?_
  intro p e s m below meth c T0 P0 hby hml hret hnm
  refine Done.step (T' := T0) (g' := (mkF m 0 #[.val (.ref a), .val (.int nl), .unset] [])) (fun t kk => castTop (ef_copyOf m a nl) kk) ?_
  have lta := A0.ltN
  refine Done.stepL (pc' := 2) (st' := [(.ref a), (.int nl)]) (fun t kk => ?_) ?_
  · show Steps p.tables e below (T0.setTop (mkF m 0 _ [])) t
    refine XS.iloadN P0.here P0.x rfl (hb hby d_copyOf_0) rfl ?_
    show Steps p.tables e below (T0.setTop (mkF m 1 _ [(.int nl)])) t
    refine XS.aloadN P0.here P0.x rfl (hb hby d_copyOf_1) rfl rfl ?_
    exact kk
  refine wLen P0 A0 (z := z) hz (hb hby d_copyOf_2) rfl ?_
  show Done _ _ _ _ _ _ _ _ _ _ _ _ _ _ _ T0 (mkF m 3 _ [(.int z), (.int nl)])
  refine Done.stepL (pc' := 15) (st' := [(.int nl)]) (fun t kk => ?_) ?_
  · show Steps p.tables e below (T0.setTop (mkF m 3 _ [(.int z), (.int nl)])) t
    refine XS.icmpYes P0.here P0.x rfl (pc0 := 3) (pc' := 14) rfl (hb hby d_copyOf_3) rfl (iiW_ne_t (fun q_ => by have := congrArg Int32.toInt q_; omega)) (by decide) (by decide) ?_
    show Steps p.tables e below (T0.setTop (mkF m 14 _ [])) t
    refine XS.iloadN P0.here P0.x rfl (hb hby d_copyOf_14) rfl ?_
    exact kk
  refine wNewA (aty := .int) P0 (tW hw 9 rfl) (hb hby d_copyOf_15) rfl (N := M) hm (cap := 2) hc (by decide) (by decide) (by decide) (ad := "[I") (by decide) (ty := .int) (dv := (.int (0 : Int32))) rfl rfl (k' := 1) (n' := 2) rfl rfl (fun T1 h3 b4 g5 lt6 P2 E7 A8 X9 => ?_)
  have ge_b4 : h0.size ≤ b4 := by have := P0.ge; omega
  show Done _ _ _ _ _ _ _ _ _ _ _ _ _ _ _ T1 (mkF m 17 _ [(.ref b4)])
  refine Done.step (T' := T1) (g' := (mkF m 23 #[.val (.ref a), .val (.int nl), .val (.ref b4)] [(.ref a), (.int (0 : Int32)), (.ref b4), (.int (0 : Int32)), (.ref a)])) (fun t kk => ?_) ?_
  · show Steps p.tables e below (T1.setTop (mkF m 17 _ [(.ref b4)])) t
    refine XS.astoreN P2.here P2.x rfl (hb hby d_copyOf_17) rfl rfl (l' := #[.val (.ref a), .val (.int nl), .val (.ref b4)]) rfl ?_
    show Steps p.tables e below (T1.setTop (mkF m 18 _ [])) t
    refine XS.aloadN P2.here P2.x rfl (hb hby d_copyOf_18) rfl rfl ?_
    show Steps p.tables e below (T1.setTop (mkF m 19 _ [(.ref a)])) t
    refine XS.iconst P2.here P2.x rfl (hb hby d_copyOf_19) ?_
    show Steps p.tables e below (T1.setTop (mkF m 20 _ [(.int (0 : Int32)), (.ref a)])) t
    refine XS.aloadN P2.here P2.x rfl (hb hby d_copyOf_20) rfl rfl ?_
    show Steps p.tables e below (T1.setTop (mkF m 21 _ [(.ref b4), (.int (0 : Int32)), (.ref a)])) t
    refine XS.iconst P2.here P2.x rfl (hb hby d_copyOf_21) ?_
    show Steps p.tables e below (T1.setTop (mkF m 22 _ [(.int (0 : Int32)), (.ref b4), (.int (0 : Int32)), (.ref a)])) t
    refine XS.aloadN P2.here P2.x rfl (hb hby d_copyOf_22) rfl rfl ?_
    exact kk
  have f10 := (A0.ext E7)
  refine wLen P2 f10 (z := z) hz (hb hby d_copyOf_23) rfl ?_
  show Done _ _ _ _ _ _ _ _ _ _ _ _ _ _ _ T1 (mkF m 24 _ [(.int z), (.int (0 : Int32)), (.ref b4), (.int (0 : Int32)), (.ref a)])
  refine Done.stepL (pc' := 25) (st' := [(.int nl), (.int z), (.int (0 : Int32)), (.ref b4), (.int (0 : Int32)), (.ref a)]) (fun t kk => ?_) ?_
  · show Steps p.tables e below (T1.setTop (mkF m 24 _ [(.int z), (.int (0 : Int32)), (.ref b4), (.int (0 : Int32)), (.ref a)])) t
    refine XS.iloadN P2.here P2.x rfl (hb hby d_copyOf_24) rfl ?_
    exact kk
  refine wCallS P2 (m_min l Z a0 hw z nl h3) (tW hw 232 rfl) (tW hw 233 rfl) (tW hw 173 rfl) (tW hw 234 rfl) (by decide) (by rw [hml]; rfl) (lenOf pd_0 rfl) (argsL := [(.int z), (.int nl)]) (rest := [(.int (0 : Int32)), (.ref b4), (.int (0 : Int32)), (.ref a)]) rfl rfl (W := 4) (Nat.le_of_eq rfl) (by decide) (by decide) (by decide) (by decide) (by simp) (hb hby d_copyOf_25) rfl (k' := 1) (n' := 2) rfl rfl ?_
  rintro T11 _ _ P12 - ⟨rfl, rfl⟩
  show Done _ _ _ _ _ _ _ _ _ _ _ _ _ _ _ T11 (mkF m 28 _ [(.int (if nl < z then nl else z)), (.int (0 : Int32)), (.ref b4), (.int (0 : Int32)), (.ref a)])
  refine wCopyI P12 (f := f) (g := (fun _ => (0 : Int32))) (K0 := M) f10 A8 (own_min2 hz hm hMN) (by omega) (by omega) ge_b4 (tW hw 235 rfl) (tW hw 238 rfl) (tW hw 236 rfl) (tW hw 237 rfl) (by rw [hml]; rfl) (hb hby d_copyOf_28) rfl (by decide) (W := 0) (Nat.le_of_eq rfl) (by decide) (fun T13 h15 P14 K16 A17 => ?_)
  have szh15 : h3.size ≤ h15.size := K16.1
  show Done _ _ _ _ _ _ _ _ _ _ _ _ _ _ _ T13 (mkF m 31 _ [])
  refine Done.stepL (pc' := 32) (st' := [(.ref b4)]) (fun t kk => ?_) ?_
  · show Steps p.tables e below (T13.setTop (mkF m 31 _ [])) t
    refine XS.aloadN P14.here P14.x rfl (hb hby d_copyOf_31) rfl rfl ?_
    exact kk
  have f18 := (X9.keep K16)
  exact wRetA P14 hret rfl rfl (hb hby d_copyOf_32) ⟨b4, rfl, g5, by have := f18.lt; omega, A17.congr fun i hi => by simp [hi], f18⟩
def wt : Nat → Bool := fun _ => true
def F6 : List (String × String) := [("lower", "Lcom/example/foreshock/foreshock/planning/BasisFactorization$EntryLists;"), ("upperByRow", "Lcom/example/foreshock/foreshock/planning/BasisFactorization$EntryLists;"), ("upperByColumn", "Lcom/example/foreshock/foreshock/planning/BasisFactorization$EntryLists;"), ("etas", "Lcom/example/foreshock/foreshock/planning/BasisFactorization$EntryLists;"), ("etaPosition", "[I"), ("etaPivot", "[D"), ("missingPositions", "[I"), ("missingRows", "[I"), ("size", "I"), ("pivotRow", "[I"), ("pivotPosition", "[I"), ("pivotValue", "[D"), ("steps", "I")]
def F7 : List (String × String) := [("start", "[I"), ("index", "[I"), ("value", "[D"), ("count", "I"), ("length", "I")]
def F8 : List (String × String) := [("this$0", "Lcom/example/foreshock/foreshock/planning/BasisFactorization;"), ("rowPositions", "[[I"), ("rowValues", "[[D"), ("rowLength", "[I"), ("positionRows", "[[I"), ("positionListed", "[I"), ("positionCount", "[I"), ("rowDone", "[Z"), ("positionDone", "[Z"), ("rowsByCount", "Lcom/example/foreshock/foreshock/planning/BasisFactorization$CountLists;"), ("positionsByCount", "Lcom/example/foreshock/foreshock/planning/BasisFactorization$CountLists;"), ("slot", "[I"), ("row", "I"), ("position", "I")]
def F9 : List (String × String) := [("head", "[I"), ("next", "[I"), ("previous", "[I"), ("count", "[I")]
def KK : Kls := fun i => ([(none, "", []), (some .int, "[I", []), (some .double, "[D", []), (some .boolean, "[Z", []), (some (.array .int), "[[I", []), (some (.array .double), "[[D", []), (none, "com/example/foreshock/foreshock/planning/BasisFactorization", F6), (none, "com/example/foreshock/foreshock/planning/BasisFactorization$EntryLists", F7), (none, "com/example/foreshock/foreshock/planning/BasisFactorization$Elimination", F8), (none, "com/example/foreshock/foreshock/planning/BasisFactorization$CountLists", F9)] : List (Option FieldType × String × List (String × String))).getD i (none, "", [])
theorem k_1 : KK 1 = (some .int, "[I", []) := rfl
theorem k_2 : KK 2 = (some .double, "[D", []) := rfl
theorem k_3 : KK 3 = (some .boolean, "[Z", []) := rfl
theorem k_4 : KK 4 = (some (.array .int), "[[I", []) := rfl
theorem k_5 : KK 5 = (some (.array .double), "[[D", []) := rfl
theorem k_6 : KK 6 = (none, "com/example/foreshock/foreshock/planning/BasisFactorization", F6) := rfl
theorem k_7 : KK 7 = (none, "com/example/foreshock/foreshock/planning/BasisFactorization$EntryLists", F7) := rfl
theorem k_8 : KK 8 = (none, "com/example/foreshock/foreshock/planning/BasisFactorization$Elimination", F8) := rfl
theorem k_9 : KK 9 = (none, "com/example/foreshock/foreshock/planning/BasisFactorization$CountLists", F9) := rfl
theorem pf_0 : parseFieldDescriptor "Lcom/example/foreshock/foreshock/planning/BasisFactorization$EntryLists;" = some (.object "com/example/foreshock/foreshock/planning/BasisFactorization$EntryLists") := by decide +kernel
theorem pf_1 : parseFieldDescriptor "[I" = some (.array .int) := by decide +kernel
theorem pf_2 : parseFieldDescriptor "[D" = some (.array .double) := by decide +kernel
theorem pf_3 : parseFieldDescriptor "I" = some .int := by decide +kernel
theorem pf_4 : parseFieldDescriptor "Lcom/example/foreshock/foreshock/planning/BasisFactorization;" = some (.object "com/example/foreshock/foreshock/planning/BasisFactorization") := by decide +kernel
theorem pf_5 : parseFieldDescriptor "[[I" = some (.array (.array .int)) := by decide +kernel
theorem pf_6 : parseFieldDescriptor "[[D" = some (.array (.array .double)) := by decide +kernel
theorem pf_7 : parseFieldDescriptor "[Z" = some (.array .boolean) := by decide +kernel
theorem pf_8 : parseFieldDescriptor "Lcom/example/foreshock/foreshock/planning/BasisFactorization$CountLists;" = some (.object "com/example/foreshock/foreshock/planning/BasisFactorization$CountLists") := by decide +kernel
theorem ko_6 {a0 : Array Value} {Z : State} (hw : ∀ d ∈ tables_1, d.before a0 Z = true) : KOk Z a0 "com/example/foreshock/foreshock/planning/BasisFactorization" F6 13 := ⟨(tW hw 19 rfl), (tW hw 20 rfl), allC ⟨Or.inr (tW hw 41 rfl), _, pf_0, rfl⟩ <| allC ⟨Or.inr (tW hw 43 rfl), _, pf_0, rfl⟩ <| allC ⟨Or.inr (tW hw 45 rfl), _, pf_0, rfl⟩ <| allC ⟨Or.inr (tW hw 47 rfl), _, pf_0, rfl⟩ <| allC ⟨Or.inl (tW hw 49 rfl), _, pf_1, rfl⟩ <| allC ⟨Or.inl (tW hw 51 rfl), _, pf_2, rfl⟩ <| allC ⟨Or.inl (tW hw 53 rfl), _, pf_1, rfl⟩ <| allC ⟨Or.inl (tW hw 55 rfl), _, pf_1, rfl⟩ <| allC ⟨Or.inr (tW hw 57 rfl), _, pf_3, rfl⟩ <| allC ⟨Or.inr (tW hw 59 rfl), _, pf_1, rfl⟩ <| allC ⟨Or.inr (tW hw 61 rfl), _, pf_1, rfl⟩ <| allC ⟨Or.inr (tW hw 63 rfl), _, pf_2, rfl⟩ <| allC ⟨Or.inl (tW hw 149 rfl), _, pf_3, rfl⟩ <| allN, by decide⟩
theorem ko_7 {a0 : Array Value} {Z : State} (hw : ∀ d ∈ tables_1, d.before a0 Z = true) : KOk Z a0 "com/example/foreshock/foreshock/planning/BasisFactorization$EntryLists" F7 5 := ⟨(tW hw 28 rfl), (tW hw 29 rfl), allC ⟨Or.inl (tW hw 35 rfl), _, pf_1, rfl⟩ <| allC ⟨Or.inl (tW hw 37 rfl), _, pf_1, rfl⟩ <| allC ⟨Or.inl (tW hw 39 rfl), _, pf_2, rfl⟩ <| allC ⟨Or.inl (tW hw 75 rfl), _, pf_3, rfl⟩ <| allC ⟨Or.inl (tW hw 77 rfl), _, pf_3, rfl⟩ <| allN, by decide⟩
theorem ko_8 {a0 : Array Value} {Z : State} (hw : ∀ d ∈ tables_1, d.before a0 Z = true) : KOk Z a0 "com/example/foreshock/foreshock/planning/BasisFactorization$Elimination" F8 14 := ⟨(tW hw 79 rfl), (tW hw 80 rfl), allC ⟨Or.inr (tW hw 85 rfl), _, pf_4, rfl⟩ <| allC ⟨Or.inr (tW hw 90 rfl), _, pf_5, rfl⟩ <| allC ⟨Or.inr (tW hw 93 rfl), _, pf_6, rfl⟩ <| allC ⟨Or.inr (tW hw 95 rfl), _, pf_1, rfl⟩ <| allC ⟨Or.inr (tW hw 97 rfl), _, pf_5, rfl⟩ <| allC ⟨Or.inr (tW hw 99 rfl), _, pf_1, rfl⟩ <| allC ⟨Or.inr (tW hw 101 rfl), _, pf_1, rfl⟩ <| allC ⟨Or.inr (tW hw 104 rfl), _, pf_7, rfl⟩ <| allC ⟨Or.inr (tW hw 106 rfl), _, pf_7, rfl⟩ <| allC ⟨Or.inr (tW hw 127 rfl), _, pf_8, rfl⟩ <| allC ⟨Or.inr (tW hw 129 rfl), _, pf_8, rfl⟩ <| allC ⟨Or.inr (tW hw 131 rfl), _, pf_1, rfl⟩ <| allC ⟨Or.inl (tW hw 156 rfl), _, pf_3, rfl⟩ <| allC ⟨Or.inl (tW hw 185 rfl), _, pf_3, rfl⟩ <| allN, by decide⟩
theorem ko_9 {a0 : Array Value} {Z : State} (hw : ∀ d ∈ tables_1, d.before a0 Z = true) : KOk Z a0 "com/example/foreshock/foreshock/planning/BasisFactorization$CountLists" F9 4 := ⟨(tW hw 108 rfl), (tW hw 109 rfl), allC ⟨Or.inr (tW hw 115 rfl), _, pf_1, rfl⟩ <| allC ⟨Or.inr (tW hw 121 rfl), _, pf_1, rfl⟩ <| allC ⟨Or.inr (tW hw 123 rfl), _, pf_1, rfl⟩ <| allC ⟨Or.inr (tW hw 125 rfl), _, pf_1, rfl⟩ <| allN, by decide⟩
def rm_2 : Room := { frames := 0, cells := 1, slots := 2, locals := 0 }
def rm_3 : Room := { frames := 0, cells := 1, slots := 2, locals := 0 }
def rm_4 : Room := { frames := 2, cells := 23, slots := 638, locals := 26 }
def rm_6 : Room := { frames := 1, cells := 3, slots := 145, locals := 12 }
def rm_7 : Room := { frames := 4, cells := 33, slots := 87, locals := 75 }
def rm_8 : Room := { frames := 0, cells := 0, slots := 0, locals := 0 }
def rm_9 : Room := { frames := 2, cells := 25, slots := 64, locals := 30 }
def rm_10 : Room := { frames := 1, cells := 4, slots := 9, locals := 15 }
def rm_11 : Room := { frames := 0, cells := 0, slots := 0, locals := 0 }
def rm_12 : Room := { frames := 0, cells := 0, slots := 0, locals := 0 }
def rm_13 : Room := { frames := 0, cells := 0, slots := 0, locals := 0 }
def rm_14 : Room := { frames := 2, cells := 0, slots := 0, locals := 34 }
def rm_15 : Room := { frames := 0, cells := 0, slots := 0, locals := 0 }
def rm_16 : Room := { frames := 1, cells := 0, slots := 0, locals := 17 }
def rm_17 : Room := { frames := 0, cells := 0, slots := 0, locals := 0 }
def rm_20 : Room := { frames := 1, cells := 0, slots := 0, locals := 13 }
def rm_21 : Room := { frames := 3, cells := 0, slots := 0, locals := 47 }
def rm_22 : Room := { frames := 0, cells := 0, slots := 0, locals := 0 }
def rm_23 : Room := { frames := 0, cells := 0, slots := 0, locals := 0 }
def rm_24 : Room := { frames := 2, cells := 0, slots := 0, locals := 28 }
def rm_25 : Room := { frames := 1, cells := 0, slots := 0, locals := 14 }
def rm_26 : Room := { frames := 0, cells := 0, slots := 0, locals := 0 }
def rm_27 : Room := { frames := 2, cells := 5, slots := 9, locals := 54 }
def rm_30 : Room := { frames := 0, cells := 1, slots := 0, locals := 0 }
def rm_31 : Room := { frames := 2, cells := 0, slots := 0, locals := 30 }
def rm_32 : Room := { frames := 1, cells := 0, slots := 0, locals := 15 }
def rm_33 : Room := { frames := 1, cells := 0, slots := 0, locals := 16 }
def rm_34 : Room := { frames := 0, cells := 0, slots := 0, locals := 0 }
def rm_35 : Room := { frames := 2, cells := 0, slots := 0, locals := 28 }
def MT : Nat → Mt := fun i => match i with
  | 2 => ((⟨"com/example/foreshock/foreshock/planning/BasisFactorizationSolveTransposedPinLaw", "rowsOf", "(IIZ)[I"⟩ : MethodName), method_3_code, 3, (Option.some (FieldType.array FieldType.int)), rm_2)
  | 3 => ((⟨"com/example/foreshock/foreshock/planning/BasisFactorizationSolveTransposedPinLaw", "valuesOf", "(IIZ)[D"⟩ : MethodName), method_4_code, 3, (Option.some (FieldType.array FieldType.double)), rm_3)
  | 4 => ((⟨"com/example/foreshock/foreshock/planning/BasisFactorization", "<init>", "(I)V"⟩ : MethodName), prog_24_method_1_code, 2, (Option.none : Option FieldType), rm_4)
  | 6 => ((⟨"com/example/foreshock/foreshock/planning/BasisFactorization$EntryLists", "<init>", "()V"⟩ : MethodName), prog_27_method_1_code, 1, (Option.none : Option FieldType), rm_6)
  | 7 => ((⟨"com/example/foreshock/foreshock/planning/BasisFactorization", "factorize", "([[I[[D)Z"⟩ : MethodName), prog_24_method_2_code, 4, (Option.some FieldType.boolean), rm_7)
  | 8 => ((⟨"com/example/foreshock/foreshock/planning/BasisFactorization$EntryLists", "clear", "()V"⟩ : MethodName), prog_27_method_2_code, 1, (Option.none : Option FieldType), rm_8)
  | 9 => ((⟨"com/example/foreshock/foreshock/planning/BasisFactorization$Elimination", "<init>", "(Lcom/example/foreshock/foreshock/planning/BasisFactorization;[[I[[D)V"⟩ : MethodName), prog_26_method_1_code, 6, (Option.none : Option FieldType), rm_9)
  | 10 => ((⟨"com/example/foreshock/foreshock/planning/BasisFactorization$CountLists", "<init>", "(I)V"⟩ : MethodName), prog_25_method_1_code, 2, (Option.none : Option FieldType), rm_10)
  | 11 => ((⟨"java/util/Arrays", "fill", "([II)V"⟩ : MethodName), jdk_65_method_103_code, 4, (Option.none : Option FieldType), rm_11)
  | 12 => ((⟨"com/example/foreshock/foreshock/planning/BasisFactorization$Elimination", "append", "(IID)V"⟩ : MethodName), prog_26_method_6_code, 5, (Option.none : Option FieldType), rm_12)
  | 13 => ((⟨"com/example/foreshock/foreshock/planning/BasisFactorization$CountLists", "insert", "(II)V"⟩ : MethodName), prog_25_method_2_code, 3, (Option.none : Option FieldType), rm_13)
  | 14 => ((⟨"com/example/foreshock/foreshock/planning/BasisFactorization$Elimination", "findPivot", "()Z"⟩ : MethodName), prog_26_method_2_code, 14, (Option.some FieldType.boolean), rm_14)
  | 15 => ((⟨"com/example/foreshock/foreshock/planning/BasisFactorization$CountLists", "first", "(I)I"⟩ : MethodName), prog_25_method_5_code, 2, (Option.some FieldType.int), rm_15)
  | 16 => ((⟨"com/example/foreshock/foreshock/planning/BasisFactorization$Elimination", "largestIn", "(I)D"⟩ : MethodName), prog_26_method_10_code, 6, (Option.some FieldType.double), rm_16)
  | 17 => ((⟨"com/example/foreshock/foreshock/planning/BasisFactorization$Elimination", "valueAt", "(II)D"⟩ : MethodName), prog_26_method_9_code, 4, (Option.some FieldType.double), rm_17)
  | 20 => ((⟨"com/example/foreshock/foreshock/planning/BasisFactorization$Elimination", "stable", "(DD)Z"⟩ : MethodName), prog_26_method_3_code, 5, (Option.some FieldType.boolean), rm_20)
  | 21 => ((⟨"com/example/foreshock/foreshock/planning/BasisFactorization$Elimination", "eliminate", "()V"⟩ : MethodName), prog_26_method_4_code, 7, (Option.none : Option FieldType), rm_21)
  | 22 => ((⟨"com/example/foreshock/foreshock/planning/BasisFactorization$CountLists", "remove", "(I)V"⟩ : MethodName), prog_25_method_3_code, 2, (Option.none : Option FieldType), rm_22)
  | 23 => ((⟨"com/example/foreshock/foreshock/planning/BasisFactorization$EntryLists", "add", "(ID)V"⟩ : MethodName), prog_27_method_3_code, 4, (Option.none : Option FieldType), rm_23)
  | 24 => ((⟨"com/example/foreshock/foreshock/planning/BasisFactorization$Elimination", "dropPivotedRowFrom", "(I)V"⟩ : MethodName), prog_26_method_8_code, 2, (Option.none : Option FieldType), rm_24)
  | 25 => ((⟨"com/example/foreshock/foreshock/planning/BasisFactorization$CountLists", "move", "(II)V"⟩ : MethodName), prog_25_method_4_code, 3, (Option.none : Option FieldType), rm_25)
  | 26 => ((⟨"com/example/foreshock/foreshock/planning/BasisFactorization$EntryLists", "endList", "()V"⟩ : MethodName), prog_27_method_4_code, 1, (Option.none : Option FieldType), rm_26)
  | 27 => ((⟨"com/example/foreshock/foreshock/planning/BasisFactorization", "indexUpperByColumn", "()V"⟩ : MethodName), prog_24_method_9_code, 10, (Option.none : Option FieldType), rm_27)
  | 30 => ((⟨"com/example/foreshock/foreshock/planning/BasisFactorization$Elimination", "unpivoted", "([Z)[I"⟩ : MethodName), prog_26_method_11_code, 5, (Option.some (FieldType.array FieldType.int)), rm_30)
  | 31 => ((⟨"com/example/foreshock/foreshock/planning/BasisFactorizationSolveTransposedPinLaw", "change", "(Lcom/example/foreshock/foreshock/planning/BasisFactorization;[II[D)V"⟩ : MethodName), method_5_code, 11, (Option.none : Option FieldType), rm_31)
  | 32 => ((⟨"com/example/foreshock/foreshock/planning/BasisFactorization", "replace", "(I[D)V"⟩ : MethodName), prog_24_method_6_code, 4, (Option.none : Option FieldType), rm_32)
  | 33 => ((⟨"com/example/foreshock/foreshock/planning/BasisFactorization", "solveTransposed", "([D[D)V"⟩ : MethodName), prog_24_method_8_code, 8, (Option.none : Option FieldType), rm_33)
  | 34 => ((⟨"java/util/Arrays", "fill", "([DD)V"⟩ : MethodName), jdk_65_method_113_code, 5, (Option.none : Option FieldType), rm_34)
  | 35 => ((⟨"com/example/foreshock/foreshock/planning/BasisFactorization$Elimination", "subtract", "(ID)V"⟩ : MethodName), prog_26_method_5_code, 8, (Option.none : Option FieldType), rm_35)
  | _ => (⟨"", "", ""⟩, ⟨#[]⟩, 0, none, { frames := 0, cells := 0, slots := 0, locals := 0 })
theorem mt_2 : MT 2 = ((⟨"com/example/foreshock/foreshock/planning/BasisFactorizationSolveTransposedPinLaw", "rowsOf", "(IIZ)[I"⟩ : MethodName), method_3_code, 3, (Option.some (FieldType.array FieldType.int)), rm_2) := rfl
theorem mt_3 : MT 3 = ((⟨"com/example/foreshock/foreshock/planning/BasisFactorizationSolveTransposedPinLaw", "valuesOf", "(IIZ)[D"⟩ : MethodName), method_4_code, 3, (Option.some (FieldType.array FieldType.double)), rm_3) := rfl
theorem mt_4 : MT 4 = ((⟨"com/example/foreshock/foreshock/planning/BasisFactorization", "<init>", "(I)V"⟩ : MethodName), prog_24_method_1_code, 2, (Option.none : Option FieldType), rm_4) := rfl
theorem mt_6 : MT 6 = ((⟨"com/example/foreshock/foreshock/planning/BasisFactorization$EntryLists", "<init>", "()V"⟩ : MethodName), prog_27_method_1_code, 1, (Option.none : Option FieldType), rm_6) := rfl
theorem mt_7 : MT 7 = ((⟨"com/example/foreshock/foreshock/planning/BasisFactorization", "factorize", "([[I[[D)Z"⟩ : MethodName), prog_24_method_2_code, 4, (Option.some FieldType.boolean), rm_7) := rfl
theorem mt_8 : MT 8 = ((⟨"com/example/foreshock/foreshock/planning/BasisFactorization$EntryLists", "clear", "()V"⟩ : MethodName), prog_27_method_2_code, 1, (Option.none : Option FieldType), rm_8) := rfl
theorem mt_9 : MT 9 = ((⟨"com/example/foreshock/foreshock/planning/BasisFactorization$Elimination", "<init>", "(Lcom/example/foreshock/foreshock/planning/BasisFactorization;[[I[[D)V"⟩ : MethodName), prog_26_method_1_code, 6, (Option.none : Option FieldType), rm_9) := rfl
theorem mt_10 : MT 10 = ((⟨"com/example/foreshock/foreshock/planning/BasisFactorization$CountLists", "<init>", "(I)V"⟩ : MethodName), prog_25_method_1_code, 2, (Option.none : Option FieldType), rm_10) := rfl
theorem mt_11 : MT 11 = ((⟨"java/util/Arrays", "fill", "([II)V"⟩ : MethodName), jdk_65_method_103_code, 4, (Option.none : Option FieldType), rm_11) := rfl
theorem mt_12 : MT 12 = ((⟨"com/example/foreshock/foreshock/planning/BasisFactorization$Elimination", "append", "(IID)V"⟩ : MethodName), prog_26_method_6_code, 5, (Option.none : Option FieldType), rm_12) := rfl
theorem mt_13 : MT 13 = ((⟨"com/example/foreshock/foreshock/planning/BasisFactorization$CountLists", "insert", "(II)V"⟩ : MethodName), prog_25_method_2_code, 3, (Option.none : Option FieldType), rm_13) := rfl
theorem mt_14 : MT 14 = ((⟨"com/example/foreshock/foreshock/planning/BasisFactorization$Elimination", "findPivot", "()Z"⟩ : MethodName), prog_26_method_2_code, 14, (Option.some FieldType.boolean), rm_14) := rfl
theorem mt_15 : MT 15 = ((⟨"com/example/foreshock/foreshock/planning/BasisFactorization$CountLists", "first", "(I)I"⟩ : MethodName), prog_25_method_5_code, 2, (Option.some FieldType.int), rm_15) := rfl
theorem mt_16 : MT 16 = ((⟨"com/example/foreshock/foreshock/planning/BasisFactorization$Elimination", "largestIn", "(I)D"⟩ : MethodName), prog_26_method_10_code, 6, (Option.some FieldType.double), rm_16) := rfl
theorem mt_17 : MT 17 = ((⟨"com/example/foreshock/foreshock/planning/BasisFactorization$Elimination", "valueAt", "(II)D"⟩ : MethodName), prog_26_method_9_code, 4, (Option.some FieldType.double), rm_17) := rfl
theorem mt_20 : MT 20 = ((⟨"com/example/foreshock/foreshock/planning/BasisFactorization$Elimination", "stable", "(DD)Z"⟩ : MethodName), prog_26_method_3_code, 5, (Option.some FieldType.boolean), rm_20) := rfl
theorem mt_21 : MT 21 = ((⟨"com/example/foreshock/foreshock/planning/BasisFactorization$Elimination", "eliminate", "()V"⟩ : MethodName), prog_26_method_4_code, 7, (Option.none : Option FieldType), rm_21) := rfl
theorem mt_22 : MT 22 = ((⟨"com/example/foreshock/foreshock/planning/BasisFactorization$CountLists", "remove", "(I)V"⟩ : MethodName), prog_25_method_3_code, 2, (Option.none : Option FieldType), rm_22) := rfl
theorem mt_23 : MT 23 = ((⟨"com/example/foreshock/foreshock/planning/BasisFactorization$EntryLists", "add", "(ID)V"⟩ : MethodName), prog_27_method_3_code, 4, (Option.none : Option FieldType), rm_23) := rfl
theorem mt_24 : MT 24 = ((⟨"com/example/foreshock/foreshock/planning/BasisFactorization$Elimination", "dropPivotedRowFrom", "(I)V"⟩ : MethodName), prog_26_method_8_code, 2, (Option.none : Option FieldType), rm_24) := rfl
theorem mt_25 : MT 25 = ((⟨"com/example/foreshock/foreshock/planning/BasisFactorization$CountLists", "move", "(II)V"⟩ : MethodName), prog_25_method_4_code, 3, (Option.none : Option FieldType), rm_25) := rfl
theorem mt_26 : MT 26 = ((⟨"com/example/foreshock/foreshock/planning/BasisFactorization$EntryLists", "endList", "()V"⟩ : MethodName), prog_27_method_4_code, 1, (Option.none : Option FieldType), rm_26) := rfl
theorem mt_27 : MT 27 = ((⟨"com/example/foreshock/foreshock/planning/BasisFactorization", "indexUpperByColumn", "()V"⟩ : MethodName), prog_24_method_9_code, 10, (Option.none : Option FieldType), rm_27) := rfl
theorem mt_30 : MT 30 = ((⟨"com/example/foreshock/foreshock/planning/BasisFactorization$Elimination", "unpivoted", "([Z)[I"⟩ : MethodName), prog_26_method_11_code, 5, (Option.some (FieldType.array FieldType.int)), rm_30) := rfl
theorem mt_31 : MT 31 = ((⟨"com/example/foreshock/foreshock/planning/BasisFactorizationSolveTransposedPinLaw", "change", "(Lcom/example/foreshock/foreshock/planning/BasisFactorization;[II[D)V"⟩ : MethodName), method_5_code, 11, (Option.none : Option FieldType), rm_31) := rfl
theorem mt_32 : MT 32 = ((⟨"com/example/foreshock/foreshock/planning/BasisFactorization", "replace", "(I[D)V"⟩ : MethodName), prog_24_method_6_code, 4, (Option.none : Option FieldType), rm_32) := rfl
theorem mt_33 : MT 33 = ((⟨"com/example/foreshock/foreshock/planning/BasisFactorization", "solveTransposed", "([D[D)V"⟩ : MethodName), prog_24_method_8_code, 8, (Option.none : Option FieldType), rm_33) := rfl
theorem mt_34 : MT 34 = ((⟨"java/util/Arrays", "fill", "([DD)V"⟩ : MethodName), jdk_65_method_113_code, 5, (Option.none : Option FieldType), rm_34) := rfl
theorem mt_35 : MT 35 = ((⟨"com/example/foreshock/foreshock/planning/BasisFactorization$Elimination", "subtract", "(ID)V"⟩ : MethodName), prog_26_method_5_code, 8, (Option.none : Option FieldType), rm_35) := rfl
theorem own_entM {l : Launch} {Z : State} {a0 : Array Value} (hw : ∀ d ∈ tables_1, d.before a0 Z = true) (h : Heap) (x : Int32) : OMet l (⟨"com/example/foreshock/foreshock/planning/BasisFactorizationSolveTransposedPinLaw", "ent", "(I)I"⟩ : MethodName) method_2_code 2 (some .int) [] ⟨0, 0, 0, 0⟩ Z h [] #[.int x] (fun v h' => v = some (.int (entW x)) ∧ h = h') := m_ent l Z a0 hw x h
theorem own_copy {l : Launch} {Z : State} {a0 : Array Value} (hw : ∀ d ∈ tables_1, d.before a0 Z = true) (h : Heap) (a : Addr) (N M : Nat) (z : Int32) (f : Nat → Int32) (A : Ar Z h a .int N (fun i => .int (f i))) (hz : z.toInt = (M : Int)) (h1 : M < N) (h2 : M ≤ 2) : OMet l (⟨"java/util/Arrays", "copyOf", "([II)[I"⟩ : MethodName) jdk_65_method_123_code 3 (some (.array .int)) [] ⟨1, 1, 2, 40⟩ Z h [] #[.ref a, .int z] (fun v h' => ∃ b : Addr, v = some (.ref b) ∧ b = h.size ∧ h.size < h'.size ∧ Ar Z h' b .int M (fun i => .int (f i)) ∧ Exa Z h' b "[I") := m_copyOf l Z a0 hw a z (Int32.ofNat N) N M f h A (own_ofN A.len) hz h1 h2
def pg_0 (tp : Tape) (tq : Tq) : List Ent :=
(0,1,.inl (pu (gLoad isI 0))) ::
(1,3,.inl (hEnt tq maxLocals room_1)) ::
(4,2,.inl (pu (gStore isI 4))) ::
(6,1,.inl (pu (gLoad isI 0))) ::
(7,1,.inl (pu (gPush (.int (Int32.ofInt 2))))) ::
(8,1,.inl (pu (gI2 tq 24))) ::
(9,3,.inl (hEnt tq maxLocals room_1)) ::
(12,2,.inl (pu (gStore isI 5))) ::
(14,1,.inl (pu (gLoad isI 0))) ::
(15,1,.inl (pu (gPush (.int (Int32.ofInt 4))))) ::
(16,1,.inl (pu (gI2 tq 24))) ::
(17,3,.inl (hEnt tq maxLocals room_1)) ::
(20,2,.inl (pu (gStore isI 6))) ::
(22,1,.inl (pu (gLoad isI 0))) ::
(23,2,.inl (pu (gPush (.int (Int8.ofInt 6).toInt32)))) ::
(25,1,.inl (pu (gI2 tq 24))) ::
(26,3,.inl (hEnt tq maxLocals room_1)) ::
(29,2,.inl (pu (gStore isI 7))) ::
(31,2,.inl (pu (gLoad isI 4))) ::
(33,2,.inl (pu (gLoad isI 7))) ::
(35,1,.inl (pu (gI2 tq 22))) ::
(36,2,.inl (pu (gLoad isI 5))) ::
(38,2,.inl (pu (gLoad isI 6))) ::
(40,1,.inl (pu (gI2 tq 22))) ::
(41,1,.inl (pu (gI2 tq 21))) ::
(42,3,.inl (pu (gIf tp .ne 47))) ::
(45,1,.inl (pu (gPush (.int (Int32.ofInt 1))))) ::
(46,1,.inr rZ) ::
(47,1,.inl (pu (gLoad isI 0))) ::
(48,2,.inl (pu (gPush (.int (Int8.ofInt 8).toInt32)))) ::
(50,1,.inl (pu (gI2 tq 24))) ::
(51,1,.inl (pu (gPush (.int (Int32.ofInt 1))))) ::
(52,1,.inl (pu (gI2 tq 23))) ::
(53,3,.inl (pu (gIf tp .eq 60))) ::
(56,1,.inl (pu (gPush (.int (Int32.ofInt 1))))) ::
(57,3,.inl (pu (gGoto 61))) ::
(60,1,.inl (pu (gPush (.int (Int32.ofInt 0))))) ::
(61,2,.inl (pu (gStore isI 8))) ::
(63,1,.inl (pu (gLoad isI 0))) ::
(64,2,.inl (pu (gPush (.int (Int8.ofInt 9).toInt32)))) ::
(66,1,.inl (pu (gI2 tq 24))) ::
(67,1,.inl (pu (gPush (.int (Int32.ofInt 1))))) ::
(68,1,.inl (pu (gI2 tq 23))) ::
(69,3,.inl (pu (gIf tp .eq 76))) ::
(72,1,.inl (pu (gPush (.int (Int32.ofInt 1))))) ::
(73,3,.inl (pu (gGoto 77))) ::
(76,1,.inl (pu (gPush (.int (Int32.ofInt 0))))) ::
(77,2,.inl (pu (gStore isI 9))) ::
(79,1,.inl (pu (gPush (.int (Int32.ofInt 2))))) ::
(80,3,.inl (hNewA 4 .null room_1)) ::
(83,1,.inl (pu (gDup))) ::
(84,1,.inl (pu (gPush (.int (Int32.ofInt 0))))) ::
(85,2,.inl (pu (gLoad isI 4))) ::
(87,2,.inl (pu (gLoad isI 6))) ::
(89,2,.inl (pu (gLoad isI 8))) ::
(91,3,.inl (hCall 2 3 (fun _ _ => true) rm_2 3 maxLocals room_1)) ::
(94,1,.inl (hAStore wt 4 (isCl 1))) ::
(95,1,.inl (pu (gDup))) ::
(96,1,.inl (pu (gPush (.int (Int32.ofInt 1))))) ::
(97,2,.inl (pu (gLoad isI 5))) ::
(99,2,.inl (pu (gLoad isI 7))) ::
(101,2,.inl (pu (gLoad isI 9))) ::
(103,3,.inl (hCall 2 3 (fun _ _ => true) rm_2 3 maxLocals room_1)) ::
(106,1,.inl (hAStore wt 4 (isCl 1))) ::
(107,2,.inl (pu (gStore Value.isRef 10))) ::
(109,1,.inl (pu (gPush (.int (Int32.ofInt 2))))) ::
(110,3,.inl (hNewA 5 .null room_1)) ::
(113,1,.inl (pu (gDup))) ::
(114,1,.inl (pu (gPush (.int (Int32.ofInt 0))))) ::
(115,2,.inl (pu (gLoad isI 4))) ::
(117,2,.inl (pu (gLoad isI 6))) ::
(119,2,.inl (pu (gLoad isI 8))) ::
(121,3,.inl (hCall 3 3 (fun _ _ => true) rm_3 3 maxLocals room_1)) ::
(124,1,.inl (hAStore wt 5 (isCl 2))) ::
(125,1,.inl (pu (gDup))) ::
(126,1,.inl (pu (gPush (.int (Int32.ofInt 1))))) ::
(127,2,.inl (pu (gLoad isI 5))) ::
(129,2,.inl (pu (gLoad isI 7))) ::
(131,2,.inl (pu (gLoad isI 9))) ::
(133,3,.inl (hCall 3 3 (fun _ _ => true) rm_3 3 maxLocals room_1)) ::
(136,1,.inl (hAStore wt 5 (isCl 2))) ::
(137,2,.inl (pu (gStore Value.isRef 11))) ::
(139,1,.inl (pu (gPush (.int (Int32.ofInt 4))))) ::
(140,2,.inl (hNewA 1 (.int 0) room_1)) ::
(142,1,.inl (pu (gDup))) ::
(143,1,.inl (pu (gPush (.int (Int32.ofInt 0))))) ::
(144,2,.inl (pu (gLoad isI 4))) ::
(146,1,.inl (hAStore wt 1 (fun _ => isI))) ::
(147,1,.inl (pu (gDup))) ::
(148,1,.inl (pu (gPush (.int (Int32.ofInt 1))))) ::
(149,2,.inl (pu (gLoad isI 5))) ::
(151,1,.inl (hAStore wt 1 (fun _ => isI))) ::
(152,1,.inl (pu (gDup))) ::
(153,1,.inl (pu (gPush (.int (Int32.ofInt 2))))) ::
(154,2,.inl (pu (gLoad isI 6))) ::
(156,1,.inl (hAStore wt 1 (fun _ => isI))) ::
(157,1,.inl (pu (gDup))) ::
(158,1,.inl (pu (gPush (.int (Int32.ofInt 3))))) ::
(159,2,.inl (pu (gLoad isI 7))) ::
(161,1,.inl (hAStore wt 1 (fun _ => isI))) ::
(162,2,.inl (pu (gStore Value.isRef 12))) ::
(164,1,.inl (pu (gPush (.int (Int32.ofInt 2))))) ::
(165,2,.inl (hNewA 2 (.double 0) room_1)) ::
(167,2,.inl (pu (gStore Value.isRef 13))) ::
(169,1,.inl (pu (gPush (.int (Int32.ofInt 2))))) ::
(170,2,.inl (hNewA 2 (.double 0) room_1)) ::
(172,2,.inl (pu (gStore Value.isRef 14))) ::
(174,1,.inl (pu (gPush (.int (Int32.ofInt 2))))) ::
(175,2,.inl (hNewA 2 (.double 0) room_1)) ::
(177,1,.inl (pu (gDup))) ::
(178,1,.inl (pu (gPush (.int (Int32.ofInt 0))))) ::
(179,1,.inl (pu (gLoad isI 2))) ::
(180,1,.inl (pu (gI2d tp))) ::
(181,1,.inl (hAStore wt 2 (fun _ => isD))) ::
(182,1,.inl (pu (gDup))) ::
(183,1,.inl (pu (gPush (.int (Int32.ofInt 1))))) ::
(184,1,.inl (pu (gLoad isI 3))) ::
(185,1,.inl (pu (gI2d tp))) ::
(186,1,.inl (hAStore wt 2 (fun _ => isD))) ::
(187,2,.inl (pu (gStore Value.isRef 15))) ::
(189,1,.inl (pu (gPush (.int (Int32.ofInt 2))))) ::
(190,2,.inl (hNewA 2 (.double 0) room_1)) ::
(192,2,.inl (pu (gStore Value.isRef 16))) ::
(194,3,.inl (hNew 6 13 F6 room_1)) ::
(197,1,.inl (pu (gDup))) ::
(198,1,.inl (pu (gPush (.int (Int32.ofInt 2))))) ::
(199,3,.inl (hCall 4 2 (chkI 6) rm_4 2 maxLocals room_1)) ::
(202,2,.inl (pu (gStore Value.isRef 17))) ::
(204,2,.inl (pu (gLoad Value.isRef 17))) ::
(206,2,.inl (pu (gLoad Value.isRef 10))) ::
(208,2,.inl (pu (gLoad Value.isRef 11))) ::
(210,3,.inl (hCall 7 3 (chkI 6) rm_7 4 maxLocals room_1)) ::
(213,1,.inl (pu (gPop))) ::
(214,1,.inl (pu (gLoad isI 1))) ::
(215,1,.inl (pu (gPush (.int (Int32.ofInt 3))))) ::
(216,1,.inl (pu (gI2 tq 23))) ::
(217,2,.inl (pu (gStore isI 18))) ::
(219,2,.inl (pu (gLoad isI 18))) ::
(221,1,.inl (pu (gPush (.int (Int32.ofInt 1))))) ::
(222,3,.inl (pu (gIcmp .lt 237))) ::
(225,2,.inl (pu (gLoad Value.isRef 17))) ::
(227,2,.inl (pu (gLoad Value.isRef 12))) ::
(229,1,.inl (pu (gLoad isI 1))) ::
(230,1,.inl (pu (gPush (.int (Int32.ofInt 2))))) ::
(231,1,.inl (pu (gI2 tq 24))) ::
(232,2,.inl (pu (gLoad Value.isRef 13))) ::
(234,3,.inl (hCall 31 4 (fun _ _ => true) rm_31 11 maxLocals room_1)) ::
(237,2,.inl (pu (gLoad isI 18))) ::
(239,1,.inl (pu (gPush (.int (Int32.ofInt 2))))) ::
(240,3,.inl (pu (gIcmp .lt 256))) ::
(243,2,.inl (pu (gLoad Value.isRef 17))) ::
(245,2,.inl (pu (gLoad Value.isRef 12))) ::
(247,1,.inl (pu (gLoad isI 1))) ::
(248,2,.inl (pu (gPush (.int (Int8.ofInt 6).toInt32)))) ::
(250,1,.inl (pu (gI2 tq 24))) ::
(251,2,.inl (pu (gLoad Value.isRef 14))) ::
(253,3,.inl (hCall 31 4 (fun _ _ => true) rm_31 11 maxLocals room_1)) ::
(256,2,.inl (pu (gLoad Value.isRef 17))) ::
(258,2,.inl (pu (gLoad Value.isRef 15))) ::
(260,2,.inl (pu (gLoad Value.isRef 16))) ::
(262,3,.inl (hCall 33 3 (chkI 6) rm_33 8 maxLocals room_1)) ::
(265,2,.inl (pu (gLoad Value.isRef 12))) ::
(267,1,.inl (pu (gPush (.int (Int32.ofInt 0))))) ::
(268,1,.inl (hALoad 1)) ::
(269,1,.inl (pu (gI2d tp))) ::
(270,2,.inl (pu (gLoad Value.isRef 16))) ::
(272,1,.inl (pu (gPush (.int (Int32.ofInt 0))))) ::
(273,1,.inl (hALoad 2)) ::
(274,1,.inl (pu (gDD tp 2))) ::
(275,2,.inl (pu (gLoad Value.isRef 12))) ::
(277,1,.inl (pu (gPush (.int (Int32.ofInt 2))))) ::
(278,1,.inl (hALoad 1)) ::
(279,1,.inl (pu (gI2d tp))) ::
(280,2,.inl (pu (gLoad Value.isRef 16))) ::
(282,1,.inl (pu (gPush (.int (Int32.ofInt 1))))) ::
(283,1,.inl (hALoad 2)) ::
(284,1,.inl (pu (gDD tp 2))) ::
(285,1,.inl (pu (gDD tp 0))) ::
(286,1,.inl (pu (gLoad isI 2))) ::
(287,1,.inl (pu (gI2d tp))) ::
(288,1,.inl (pu (gDcmp tp))) ::
(289,3,.inl (pu (gIf tp .ne 296))) ::
(292,1,.inl (pu (gPush (.int (Int32.ofInt 1))))) ::
(293,3,.inl (pu (gGoto 297))) ::
(297,2,.inl (pu (gStore isI 19))) ::
(299,2,.inl (pu (gLoad Value.isRef 12))) ::
(301,1,.inl (pu (gPush (.int (Int32.ofInt 1))))) ::
(302,1,.inl (hALoad 1)) ::
(303,1,.inl (pu (gI2d tp))) ::
(304,2,.inl (pu (gLoad Value.isRef 16))) ::
(306,1,.inl (pu (gPush (.int (Int32.ofInt 0))))) ::
(307,1,.inl (hALoad 2)) ::
(308,1,.inl (pu (gDD tp 2))) ::
(309,2,.inl (pu (gLoad Value.isRef 12))) ::
(311,1,.inl (pu (gPush (.int (Int32.ofInt 3))))) ::
(312,1,.inl (hALoad 1)) ::
(313,1,.inl (pu (gI2d tp))) ::
(314,2,.inl (pu (gLoad Value.isRef 16))) ::
(316,1,.inl (pu (gPush (.int (Int32.ofInt 1))))) ::
(317,1,.inl (hALoad 2)) ::
(318,1,.inl (pu (gDD tp 2))) ::
(319,1,.inl (pu (gDD tp 0))) ::
(320,1,.inl (pu (gLoad isI 3))) ::
(321,1,.inl (pu (gI2d tp))) ::
(322,1,.inl (pu (gDcmp tp))) ::
(323,3,.inl (pu (gIf tp .ne 330))) ::
(326,1,.inl (pu (gPush (.int (Int32.ofInt 1))))) ::
(327,3,.inl (pu (gGoto 331))) ::
(331,2,.inl (pu (gStore isI 20))) ::
(333,2,.inl (pu (gLoad isI 19))) ::
(335,3,.inl (pu (gIf tp .eq 347))) ::
(338,2,.inl (pu (gLoad isI 20))) ::
(340,3,.inl (pu (gIf tp .eq 347))) ::
(343,1,.inl (pu (gPush (.int (Int32.ofInt 1))))) ::
(344,3,.inl (pu (gGoto 348))) ::
(348,1,.inr rZ) ::
 []
def pg_2 (tp : Tape) (tq : Tq) : List Ent :=
(0,1,.inl (pu (gLoad isI 0))) ::
(1,3,.inl (pu (gIf tp .eq 38))) ::
(4,1,.inl (pu (gLoad isI 1))) ::
(5,3,.inl (pu (gIf tp .eq 38))) ::
(8,1,.inl (pu (gLoad isI 2))) ::
(9,3,.inl (pu (gIf tp .eq 26))) ::
(12,1,.inl (pu (gPush (.int (Int32.ofInt 2))))) ::
(13,2,.inl (hNewA 1 (.int 0) rm_2)) ::
(15,1,.inl (pu (gDup))) ::
(16,1,.inl (pu (gPush (.int (Int32.ofInt 0))))) ::
(17,1,.inl (pu (gPush (.int (Int32.ofInt 1))))) ::
(18,1,.inl (hAStore wt 1 (fun _ => isI))) ::
(19,1,.inl (pu (gDup))) ::
(20,1,.inl (pu (gPush (.int (Int32.ofInt 1))))) ::
(21,1,.inl (pu (gPush (.int (Int32.ofInt 0))))) ::
(22,1,.inl (hAStore wt 1 (fun _ => isI))) ::
(23,3,.inl (pu (gGoto 37))) ::
(26,1,.inl (pu (gPush (.int (Int32.ofInt 2))))) ::
(27,2,.inl (hNewA 1 (.int 0) rm_2)) ::
(29,1,.inl (pu (gDup))) ::
(30,1,.inl (pu (gPush (.int (Int32.ofInt 0))))) ::
(31,1,.inl (pu (gPush (.int (Int32.ofInt 0))))) ::
(32,1,.inl (hAStore wt 1 (fun _ => isI))) ::
(33,1,.inl (pu (gDup))) ::
(34,1,.inl (pu (gPush (.int (Int32.ofInt 1))))) ::
(35,1,.inl (pu (gPush (.int (Int32.ofInt 1))))) ::
(36,1,.inl (hAStore wt 1 (fun _ => isI))) ::
(37,1,.inr rA) ::
(38,1,.inl (pu (gLoad isI 0))) ::
(39,3,.inl (pu (gIf tp .eq 50))) ::
(42,1,.inl (pu (gPush (.int (Int32.ofInt 1))))) ::
(43,2,.inl (hNewA 1 (.int 0) rm_2)) ::
(45,1,.inl (pu (gDup))) ::
(46,1,.inl (pu (gPush (.int (Int32.ofInt 0))))) ::
(47,1,.inl (pu (gPush (.int (Int32.ofInt 0))))) ::
(48,1,.inl (hAStore wt 1 (fun _ => isI))) ::
(49,1,.inr rA) ::
(50,1,.inl (pu (gLoad isI 1))) ::
(51,3,.inl (pu (gIf tp .eq 62))) ::
(54,1,.inl (pu (gPush (.int (Int32.ofInt 1))))) ::
(55,2,.inl (hNewA 1 (.int 0) rm_2)) ::
(57,1,.inl (pu (gDup))) ::
(58,1,.inl (pu (gPush (.int (Int32.ofInt 0))))) ::
(59,1,.inl (pu (gPush (.int (Int32.ofInt 1))))) ::
(60,1,.inl (hAStore wt 1 (fun _ => isI))) ::
(61,1,.inr rA) ::
 []
def pg_3 (tp : Tape) (tq : Tq) : List Ent :=
(0,1,.inl (pu (gLoad isI 0))) ::
(1,3,.inl (pu (gIf tp .eq 42))) ::
(4,1,.inl (pu (gLoad isI 1))) ::
(5,3,.inl (pu (gIf tp .eq 42))) ::
(8,1,.inl (pu (gLoad isI 2))) ::
(9,3,.inl (pu (gIf tp .eq 28))) ::
(12,1,.inl (pu (gPush (.int (Int32.ofInt 2))))) ::
(13,2,.inl (hNewA 2 (.double 0) rm_3)) ::
(15,1,.inl (pu (gDup))) ::
(16,1,.inl (pu (gPush (.int (Int32.ofInt 0))))) ::
(17,1,.inl (pu (gLoad isI 1))) ::
(18,1,.inl (pu (gI2d tp))) ::
(19,1,.inl (hAStore wt 2 (fun _ => isD))) ::
(20,1,.inl (pu (gDup))) ::
(21,1,.inl (pu (gPush (.int (Int32.ofInt 1))))) ::
(22,1,.inl (pu (gLoad isI 0))) ::
(23,1,.inl (pu (gI2d tp))) ::
(24,1,.inl (hAStore wt 2 (fun _ => isD))) ::
(25,3,.inl (pu (gGoto 41))) ::
(28,1,.inl (pu (gPush (.int (Int32.ofInt 2))))) ::
(29,2,.inl (hNewA 2 (.double 0) rm_3)) ::
(31,1,.inl (pu (gDup))) ::
(32,1,.inl (pu (gPush (.int (Int32.ofInt 0))))) ::
(33,1,.inl (pu (gLoad isI 0))) ::
(34,1,.inl (pu (gI2d tp))) ::
(35,1,.inl (hAStore wt 2 (fun _ => isD))) ::
(36,1,.inl (pu (gDup))) ::
(37,1,.inl (pu (gPush (.int (Int32.ofInt 1))))) ::
(38,1,.inl (pu (gLoad isI 1))) ::
(39,1,.inl (pu (gI2d tp))) ::
(40,1,.inl (hAStore wt 2 (fun _ => isD))) ::
(41,1,.inr rA) ::
(42,1,.inl (pu (gLoad isI 0))) ::
(43,3,.inl (pu (gIf tp .eq 55))) ::
(46,1,.inl (pu (gPush (.int (Int32.ofInt 1))))) ::
(47,2,.inl (hNewA 2 (.double 0) rm_3)) ::
(49,1,.inl (pu (gDup))) ::
(50,1,.inl (pu (gPush (.int (Int32.ofInt 0))))) ::
(51,1,.inl (pu (gLoad isI 0))) ::
(52,1,.inl (pu (gI2d tp))) ::
(53,1,.inl (hAStore wt 2 (fun _ => isD))) ::
(54,1,.inr rA) ::
(55,1,.inl (pu (gLoad isI 1))) ::
(56,3,.inl (pu (gIf tp .eq 68))) ::
(59,1,.inl (pu (gPush (.int (Int32.ofInt 1))))) ::
(60,2,.inl (hNewA 2 (.double 0) rm_3)) ::
(62,1,.inl (pu (gDup))) ::
(63,1,.inl (pu (gPush (.int (Int32.ofInt 0))))) ::
(64,1,.inl (pu (gLoad isI 1))) ::
(65,1,.inl (pu (gI2d tp))) ::
(66,1,.inl (hAStore wt 2 (fun _ => isD))) ::
(67,1,.inr rA) ::
 []
def pg_4 (tp : Tape) (tq : Tq) : List Ent :=
(0,1,.inl (pu (gLoad Value.isRef 0))) ::
(1,3,.inl (hObj 2 rm_4)) ::
(4,1,.inl (pu (gLoad Value.isRef 0))) ::
(5,3,.inl (hNew 7 5 F7 rm_4)) ::
(8,1,.inl (pu (gDup))) ::
(9,3,.inl (hCall 6 1 (chkI 7) rm_6 1 2 rm_4)) ::
(12,3,.inl (hPut wt 6 0 Value.isRef)) ::
(15,1,.inl (pu (gLoad Value.isRef 0))) ::
(16,3,.inl (hNew 7 5 F7 rm_4)) ::
(19,1,.inl (pu (gDup))) ::
(20,3,.inl (hCall 6 1 (chkI 7) rm_6 1 2 rm_4)) ::
(23,3,.inl (hPut wt 6 1 Value.isRef)) ::
(26,1,.inl (pu (gLoad Value.isRef 0))) ::
(27,3,.inl (hNew 7 5 F7 rm_4)) ::
(30,1,.inl (pu (gDup))) ::
(31,3,.inl (hCall 6 1 (chkI 7) rm_6 1 2 rm_4)) ::
(34,3,.inl (hPut wt 6 2 Value.isRef)) ::
(37,1,.inl (pu (gLoad Value.isRef 0))) ::
(38,3,.inl (hNew 7 5 F7 rm_4)) ::
(41,1,.inl (pu (gDup))) ::
(42,3,.inl (hCall 6 1 (chkI 7) rm_6 1 2 rm_4)) ::
(45,3,.inl (hPut wt 6 3 Value.isRef)) ::
(48,1,.inl (pu (gLoad Value.isRef 0))) ::
(49,2,.inl (pu (gPush (.int (Int8.ofInt 16).toInt32)))) ::
(51,2,.inl (hNewA 1 (.int 0) rm_4)) ::
(53,3,.inl (hPut wt 6 4 Value.isRef)) ::
(56,1,.inl (pu (gLoad Value.isRef 0))) ::
(57,2,.inl (pu (gPush (.int (Int8.ofInt 16).toInt32)))) ::
(59,2,.inl (hNewA 2 (.double 0) rm_4)) ::
(61,3,.inl (hPut wt 6 5 Value.isRef)) ::
(64,1,.inl (pu (gLoad Value.isRef 0))) ::
(65,1,.inl (pu (gPush (.int (Int32.ofInt 0))))) ::
(66,2,.inl (hNewA 1 (.int 0) rm_4)) ::
(68,3,.inl (hPut wt 6 6 Value.isRef)) ::
(71,1,.inl (pu (gLoad Value.isRef 0))) ::
(72,1,.inl (pu (gPush (.int (Int32.ofInt 0))))) ::
(73,2,.inl (hNewA 1 (.int 0) rm_4)) ::
(75,3,.inl (hPut wt 6 7 Value.isRef)) ::
(78,1,.inl (pu (gLoad Value.isRef 0))) ::
(79,1,.inl (pu (gLoad isI 1))) ::
(80,3,.inl (hPut wt 6 8 isI)) ::
(83,1,.inl (pu (gLoad Value.isRef 0))) ::
(84,1,.inl (pu (gLoad isI 1))) ::
(85,2,.inl (hNewA 1 (.int 0) rm_4)) ::
(87,3,.inl (hPut wt 6 9 Value.isRef)) ::
(90,1,.inl (pu (gLoad Value.isRef 0))) ::
(91,1,.inl (pu (gLoad isI 1))) ::
(92,2,.inl (hNewA 1 (.int 0) rm_4)) ::
(94,3,.inl (hPut wt 6 10 Value.isRef)) ::
(97,1,.inl (pu (gLoad Value.isRef 0))) ::
(98,1,.inl (pu (gLoad isI 1))) ::
(99,2,.inl (hNewA 2 (.double 0) rm_4)) ::
(101,3,.inl (hPut wt 6 11 Value.isRef)) ::
(104,1,.inr rV) ::
 []
def pg_6 (tp : Tape) (tq : Tq) : List Ent :=
(0,1,.inl (pu (gLoad Value.isRef 0))) ::
(1,3,.inl (hObj 1 rm_6)) ::
(4,1,.inl (pu (gLoad Value.isRef 0))) ::
(5,2,.inl (pu (gPush (.int (Int8.ofInt 17).toInt32)))) ::
(7,2,.inl (hNewA 1 (.int 0) rm_6)) ::
(9,3,.inl (hPut wt 7 0 Value.isRef)) ::
(12,1,.inl (pu (gLoad Value.isRef 0))) ::
(13,2,.inl (pu (gPush (.int (Int8.ofInt 64).toInt32)))) ::
(15,2,.inl (hNewA 1 (.int 0) rm_6)) ::
(17,3,.inl (hPut wt 7 1 Value.isRef)) ::
(20,1,.inl (pu (gLoad Value.isRef 0))) ::
(21,2,.inl (pu (gPush (.int (Int8.ofInt 64).toInt32)))) ::
(23,2,.inl (hNewA 2 (.double 0) rm_6)) ::
(25,3,.inl (hPut wt 7 2 Value.isRef)) ::
(28,1,.inr rV) ::
 []
def pg_7 (tp : Tape) (tq : Tq) : List Ent :=
(0,1,.inl (pu (gLoad Value.isRef 0))) ::
(1,3,.inl (hGet 6 0)) ::
(4,3,.inl (hCall 8 1 (chkI 7) rm_8 1 4 rm_7)) ::
(7,1,.inl (pu (gLoad Value.isRef 0))) ::
(8,3,.inl (hGet 6 1)) ::
(11,3,.inl (hCall 8 1 (chkI 7) rm_8 1 4 rm_7)) ::
(14,1,.inl (pu (gLoad Value.isRef 0))) ::
(15,3,.inl (hGet 6 3)) ::
(18,3,.inl (hCall 8 1 (chkI 7) rm_8 1 4 rm_7)) ::
(21,3,.inl (hNew 8 14 F8 rm_7)) ::
(24,1,.inl (pu (gDup))) ::
(25,1,.inl (pu (gLoad Value.isRef 0))) ::
(26,1,.inl (pu (gLoad Value.isRef 1))) ::
(27,1,.inl (pu (gLoad Value.isRef 2))) ::
(28,3,.inl (hCall 9 4 (chkI 8) rm_9 6 4 rm_7)) ::
(31,1,.inl (pu (gStore Value.isRef 3))) ::
(32,1,.inl (pu (gLoad Value.isRef 0))) ::
(33,1,.inl (pu (gPush (.int (Int32.ofInt 0))))) ::
(34,3,.inl (hPut wt 6 12 isI)) ::
(37,1,.inl (pu (gLoad Value.isRef 3))) ::
(38,3,.inl (hCall 14 1 (chkI 8) rm_14 14 4 rm_7)) ::
(41,3,.inl (pu (gIf tp .eq 61))) ::
(44,1,.inl (pu (gLoad Value.isRef 3))) ::
(45,3,.inl (hCall 21 1 (chkI 8) rm_21 7 4 rm_7)) ::
(48,1,.inl (pu (gLoad Value.isRef 0))) ::
(49,1,.inl (pu (gDup))) ::
(50,3,.inl (hGet 6 12)) ::
(53,1,.inl (pu (gPush (.int (Int32.ofInt 1))))) ::
(54,1,.inl (pu (gI2 tq 20))) ::
(55,3,.inl (hPut wt 6 12 isI)) ::
(58,3,.inl (pu (gGoto 37))) ::
(61,1,.inl (pu (gLoad Value.isRef 0))) ::
(62,3,.inl (hCall 27 1 (chkI 6) rm_27 10 4 rm_7)) ::
(65,1,.inl (pu (gLoad Value.isRef 0))) ::
(66,1,.inl (pu (gLoad Value.isRef 3))) ::
(67,1,.inl (pu (gLoad Value.isRef 3))) ::
(68,3,.inl (hGet 8 8)) ::
(71,3,.inl (hCall 30 2 (chkI 8) rm_30 5 4 rm_7)) ::
(74,3,.inl (hPut wt 6 6 Value.isRef)) ::
(77,1,.inl (pu (gLoad Value.isRef 0))) ::
(78,1,.inl (pu (gLoad Value.isRef 3))) ::
(79,1,.inl (pu (gLoad Value.isRef 3))) ::
(80,3,.inl (hGet 8 7)) ::
(83,3,.inl (hCall 30 2 (chkI 8) rm_30 5 4 rm_7)) ::
(86,3,.inl (hPut wt 6 7 Value.isRef)) ::
(89,1,.inl (pu (gLoad Value.isRef 0))) ::
(90,3,.inl (hGet 6 12)) ::
(93,1,.inl (pu (gLoad Value.isRef 0))) ::
(94,3,.inl (hGet 6 8)) ::
(97,3,.inl (pu (gIcmp .ne 104))) ::
(100,1,.inl (pu (gPush (.int (Int32.ofInt 1))))) ::
(101,3,.inl (pu (gGoto 105))) ::
(105,1,.inr rZ) ::
 []
def pg_8 (tp : Tape) (tq : Tq) : List Ent :=
(0,1,.inl (pu (gLoad Value.isRef 0))) ::
(1,1,.inl (pu (gPush (.int (Int32.ofInt 0))))) ::
(2,3,.inl (hPut wt 7 3 isI)) ::
(5,1,.inl (pu (gLoad Value.isRef 0))) ::
(6,1,.inl (pu (gPush (.int (Int32.ofInt 0))))) ::
(7,3,.inl (hPut wt 7 4 isI)) ::
(10,1,.inr rV) ::
 []
def pg_9 (tp : Tape) (tq : Tq) : List Ent :=
(0,1,.inl (pu (gLoad Value.isRef 0))) ::
(1,1,.inl (pu (gLoad Value.isRef 1))) ::
(2,3,.inl (hPut wt 8 0 Value.isRef)) ::
(5,1,.inl (pu (gLoad Value.isRef 0))) ::
(6,3,.inl (hObj 6 rm_9)) ::
(9,1,.inl (pu (gLoad Value.isRef 0))) ::
(10,1,.inl (pu (gLoad Value.isRef 0))) ::
(11,3,.inl (hGet 8 0)) ::
(14,3,.inl (hGet 6 8)) ::
(17,3,.inl (hNewA 4 .null rm_9)) ::
(20,3,.inl (hPut wt 8 1 Value.isRef)) ::
(23,1,.inl (pu (gLoad Value.isRef 0))) ::
(24,1,.inl (pu (gLoad Value.isRef 0))) ::
(25,3,.inl (hGet 8 0)) ::
(28,3,.inl (hGet 6 8)) ::
(31,3,.inl (hNewA 5 .null rm_9)) ::
(34,3,.inl (hPut wt 8 2 Value.isRef)) ::
(37,1,.inl (pu (gLoad Value.isRef 0))) ::
(38,1,.inl (pu (gLoad Value.isRef 0))) ::
(39,3,.inl (hGet 8 0)) ::
(42,3,.inl (hGet 6 8)) ::
(45,2,.inl (hNewA 1 (.int 0) rm_9)) ::
(47,3,.inl (hPut wt 8 3 Value.isRef)) ::
(50,1,.inl (pu (gLoad Value.isRef 0))) ::
(51,1,.inl (pu (gLoad Value.isRef 0))) ::
(52,3,.inl (hGet 8 0)) ::
(55,3,.inl (hGet 6 8)) ::
(58,3,.inl (hNewA 4 .null rm_9)) ::
(61,3,.inl (hPut wt 8 4 Value.isRef)) ::
(64,1,.inl (pu (gLoad Value.isRef 0))) ::
(65,1,.inl (pu (gLoad Value.isRef 0))) ::
(66,3,.inl (hGet 8 0)) ::
(69,3,.inl (hGet 6 8)) ::
(72,2,.inl (hNewA 1 (.int 0) rm_9)) ::
(74,3,.inl (hPut wt 8 5 Value.isRef)) ::
(77,1,.inl (pu (gLoad Value.isRef 0))) ::
(78,1,.inl (pu (gLoad Value.isRef 0))) ::
(79,3,.inl (hGet 8 0)) ::
(82,3,.inl (hGet 6 8)) ::
(85,2,.inl (hNewA 1 (.int 0) rm_9)) ::
(87,3,.inl (hPut wt 8 6 Value.isRef)) ::
(90,1,.inl (pu (gLoad Value.isRef 0))) ::
(91,1,.inl (pu (gLoad Value.isRef 0))) ::
(92,3,.inl (hGet 8 0)) ::
(95,3,.inl (hGet 6 8)) ::
(98,2,.inl (hNewA 3 (.int 0) rm_9)) ::
(100,3,.inl (hPut wt 8 7 Value.isRef)) ::
(103,1,.inl (pu (gLoad Value.isRef 0))) ::
(104,1,.inl (pu (gLoad Value.isRef 0))) ::
(105,3,.inl (hGet 8 0)) ::
(108,3,.inl (hGet 6 8)) ::
(111,2,.inl (hNewA 3 (.int 0) rm_9)) ::
(113,3,.inl (hPut wt 8 8 Value.isRef)) ::
(116,1,.inl (pu (gLoad Value.isRef 0))) ::
(117,3,.inl (hNew 9 4 F9 rm_9)) ::
(120,1,.inl (pu (gDup))) ::
(121,1,.inl (pu (gLoad Value.isRef 0))) ::
(122,3,.inl (hGet 8 0)) ::
(125,3,.inl (hGet 6 8)) ::
(128,3,.inl (hCall 10 2 (chkI 9) rm_10 2 6 rm_9)) ::
(131,3,.inl (hPut wt 8 9 Value.isRef)) ::
(134,1,.inl (pu (gLoad Value.isRef 0))) ::
(135,3,.inl (hNew 9 4 F9 rm_9)) ::
(138,1,.inl (pu (gDup))) ::
(139,1,.inl (pu (gLoad Value.isRef 0))) ::
(140,3,.inl (hGet 8 0)) ::
(143,3,.inl (hGet 6 8)) ::
(146,3,.inl (hCall 10 2 (chkI 9) rm_10 2 6 rm_9)) ::
(149,3,.inl (hPut wt 8 10 Value.isRef)) ::
(152,1,.inl (pu (gLoad Value.isRef 0))) ::
(153,1,.inl (pu (gLoad Value.isRef 0))) ::
(154,3,.inl (hGet 8 0)) ::
(157,3,.inl (hGet 6 8)) ::
(160,2,.inl (hNewA 1 (.int 0) rm_9)) ::
(162,3,.inl (hPut wt 8 11 Value.isRef)) ::
(165,1,.inl (pu (gPush (.int (Int32.ofInt 0))))) ::
(166,2,.inl (pu (gStore isI 4))) ::
(168,2,.inl (pu (gLoad isI 4))) ::
(170,1,.inl (pu (gLoad Value.isRef 1))) ::
(171,3,.inl (hGet 6 8)) ::
(174,3,.inl (pu (gIcmp .ge 203))) ::
(177,1,.inl (pu (gLoad Value.isRef 0))) ::
(178,3,.inl (hGet 8 1)) ::
(181,2,.inl (pu (gLoad isI 4))) ::
(183,1,.inl (pu (gPush (.int (Int32.ofInt 4))))) ::
(184,2,.inl (hNewA 1 (.int 0) rm_9)) ::
(186,1,.inl (hAStore wt 4 (isCl 1))) ::
(187,1,.inl (pu (gLoad Value.isRef 0))) ::
(188,3,.inl (hGet 8 2)) ::
(191,2,.inl (pu (gLoad isI 4))) ::
(193,1,.inl (pu (gPush (.int (Int32.ofInt 4))))) ::
(194,2,.inl (hNewA 2 (.double 0) rm_9)) ::
(196,1,.inl (hAStore wt 5 (isCl 2))) ::
(197,3,.inl (pu (gIinc 4 1))) ::
(200,3,.inl (pu (gGoto 168))) ::
(203,1,.inl (pu (gPush (.int (Int32.ofInt 0))))) ::
(204,2,.inl (pu (gStore isI 4))) ::
(206,2,.inl (pu (gLoad isI 4))) ::
(208,1,.inl (pu (gLoad Value.isRef 1))) ::
(209,3,.inl (hGet 6 8)) ::
(212,3,.inl (pu (gIcmp .ge 301))) ::
(215,1,.inl (pu (gLoad Value.isRef 0))) ::
(216,3,.inl (hGet 8 4)) ::
(219,2,.inl (pu (gLoad isI 4))) ::
(221,1,.inl (pu (gLoad Value.isRef 2))) ::
(222,2,.inl (pu (gLoad isI 4))) ::
(224,1,.inl (hALoad 4)) ::
(225,3,.inl (hClone 1 isI 6 rm_9)) ::
(228,3,.inl (hCast 1)) ::
(231,1,.inl (hAStore wt 4 (isCl 1))) ::
(232,1,.inl (pu (gLoad Value.isRef 0))) ::
(233,3,.inl (hGet 8 5)) ::
(236,2,.inl (pu (gLoad isI 4))) ::
(238,1,.inl (pu (gLoad Value.isRef 2))) ::
(239,2,.inl (pu (gLoad isI 4))) ::
(241,1,.inl (hALoad 4)) ::
(242,1,.inl (hLen KK)) ::
(243,1,.inl (hAStore wt 1 (fun _ => isI))) ::
(244,1,.inl (pu (gLoad Value.isRef 0))) ::
(245,3,.inl (hGet 8 6)) ::
(248,2,.inl (pu (gLoad isI 4))) ::
(250,1,.inl (pu (gLoad Value.isRef 2))) ::
(251,2,.inl (pu (gLoad isI 4))) ::
(253,1,.inl (hALoad 4)) ::
(254,1,.inl (hLen KK)) ::
(255,1,.inl (hAStore wt 1 (fun _ => isI))) ::
(256,1,.inl (pu (gPush (.int (Int32.ofInt 0))))) ::
(257,2,.inl (pu (gStore isI 5))) ::
(259,2,.inl (pu (gLoad isI 5))) ::
(261,1,.inl (pu (gLoad Value.isRef 2))) ::
(262,2,.inl (pu (gLoad isI 4))) ::
(264,1,.inl (hALoad 4)) ::
(265,1,.inl (hLen KK)) ::
(266,3,.inl (pu (gIcmp .ge 295))) ::
(269,1,.inl (pu (gLoad Value.isRef 0))) ::
(270,1,.inl (pu (gLoad Value.isRef 2))) ::
(271,2,.inl (pu (gLoad isI 4))) ::
(273,1,.inl (hALoad 4)) ::
(274,2,.inl (pu (gLoad isI 5))) ::
(276,1,.inl (hALoad 1)) ::
(277,2,.inl (pu (gLoad isI 4))) ::
(279,1,.inl (pu (gLoad Value.isRef 3))) ::
(280,2,.inl (pu (gLoad isI 4))) ::
(282,1,.inl (hALoad 5)) ::
(283,2,.inl (pu (gLoad isI 5))) ::
(285,1,.inl (hALoad 2)) ::
(286,3,.inl (hCall 12 4 (chkI 8) rm_12 5 6 rm_9)) ::
(289,3,.inl (pu (gIinc 5 1))) ::
(292,3,.inl (pu (gGoto 259))) ::
(295,3,.inl (pu (gIinc 4 1))) ::
(298,3,.inl (pu (gGoto 206))) ::
(301,1,.inl (pu (gPush (.int (Int32.ofInt 0))))) ::
(302,2,.inl (pu (gStore isI 4))) ::
(304,2,.inl (pu (gLoad isI 4))) ::
(306,1,.inl (pu (gLoad Value.isRef 1))) ::
(307,3,.inl (hGet 6 8)) ::
(310,3,.inl (pu (gIcmp .ge 335))) ::
(313,1,.inl (pu (gLoad Value.isRef 0))) ::
(314,3,.inl (hGet 8 9)) ::
(317,2,.inl (pu (gLoad isI 4))) ::
(319,1,.inl (pu (gLoad Value.isRef 0))) ::
(320,3,.inl (hGet 8 3)) ::
(323,2,.inl (pu (gLoad isI 4))) ::
(325,1,.inl (hALoad 1)) ::
(326,3,.inl (hCall 13 3 (chkI 9) rm_13 3 6 rm_9)) ::
(329,3,.inl (pu (gIinc 4 1))) ::
(332,3,.inl (pu (gGoto 304))) ::
(335,1,.inl (pu (gPush (.int (Int32.ofInt 0))))) ::
(336,2,.inl (pu (gStore isI 4))) ::
(338,2,.inl (pu (gLoad isI 4))) ::
(340,1,.inl (pu (gLoad Value.isRef 1))) ::
(341,3,.inl (hGet 6 8)) ::
(344,3,.inl (pu (gIcmp .ge 369))) ::
(347,1,.inl (pu (gLoad Value.isRef 0))) ::
(348,3,.inl (hGet 8 10)) ::
(351,2,.inl (pu (gLoad isI 4))) ::
(353,1,.inl (pu (gLoad Value.isRef 0))) ::
(354,3,.inl (hGet 8 6)) ::
(357,2,.inl (pu (gLoad isI 4))) ::
(359,1,.inl (hALoad 1)) ::
(360,3,.inl (hCall 13 3 (chkI 9) rm_13 3 6 rm_9)) ::
(363,3,.inl (pu (gIinc 4 1))) ::
(366,3,.inl (pu (gGoto 338))) ::
(369,1,.inr rV) ::
 []
def pg_10 (tp : Tape) (tq : Tq) : List Ent :=
(0,1,.inl (pu (gLoad Value.isRef 0))) ::
(1,3,.inl (hObj 2 rm_10)) ::
(4,1,.inl (pu (gLoad Value.isRef 0))) ::
(5,1,.inl (pu (gLoad isI 1))) ::
(6,1,.inl (pu (gPush (.int (Int32.ofInt 1))))) ::
(7,1,.inl (pu (gI2 tq 20))) ::
(8,2,.inl (hNewA 1 (.int 0) rm_10)) ::
(10,3,.inl (hPut wt 9 0 Value.isRef)) ::
(13,1,.inl (pu (gLoad Value.isRef 0))) ::
(14,3,.inl (hGet 9 0)) ::
(17,1,.inl (pu (gPush (.int (Int32.ofInt (-1)))))) ::
(18,3,.inl (hCall 11 2 (fun _ _ => true) rm_11 4 2 rm_10)) ::
(21,1,.inl (pu (gLoad Value.isRef 0))) ::
(22,1,.inl (pu (gLoad isI 1))) ::
(23,2,.inl (hNewA 1 (.int 0) rm_10)) ::
(25,3,.inl (hPut wt 9 1 Value.isRef)) ::
(28,1,.inl (pu (gLoad Value.isRef 0))) ::
(29,1,.inl (pu (gLoad isI 1))) ::
(30,2,.inl (hNewA 1 (.int 0) rm_10)) ::
(32,3,.inl (hPut wt 9 2 Value.isRef)) ::
(35,1,.inl (pu (gLoad Value.isRef 0))) ::
(36,1,.inl (pu (gLoad isI 1))) ::
(37,2,.inl (hNewA 1 (.int 0) rm_10)) ::
(39,3,.inl (hPut wt 9 3 Value.isRef)) ::
(42,1,.inr rV) ::
 []
def pg_11 (tp : Tape) (tq : Tq) : List Ent :=
(0,1,.inl (pu (gPush (.int (Int32.ofInt 0))))) ::
(1,1,.inl (pu (gStore isI 2))) ::
(2,1,.inl (pu (gLoad Value.isRef 0))) ::
(3,1,.inl (hLen KK)) ::
(4,1,.inl (pu (gStore isI 3))) ::
(5,1,.inl (pu (gLoad isI 2))) ::
(6,1,.inl (pu (gLoad isI 3))) ::
(7,3,.inl (pu (gIcmp .ge 20))) ::
(10,1,.inl (pu (gLoad Value.isRef 0))) ::
(11,1,.inl (pu (gLoad isI 2))) ::
(12,1,.inl (pu (gLoad isI 1))) ::
(13,1,.inl (hAStore wt 1 (fun _ => isI))) ::
(14,3,.inl (pu (gIinc 2 1))) ::
(17,3,.inl (pu (gGoto 5))) ::
(20,1,.inr rV) ::
 []
def pg_12 (tp : Tape) (tq : Tq) : List Ent :=
(0,1,.inl (pu (gLoad Value.isRef 0))) ::
(1,3,.inl (hGet 8 3)) ::
(4,1,.inl (pu (gLoad isI 1))) ::
(5,1,.inl (hALoad 1)) ::
(6,1,.inl (pu (gLoad Value.isRef 0))) ::
(7,3,.inl (hGet 8 1)) ::
(10,1,.inl (pu (gLoad isI 1))) ::
(11,1,.inl (hALoad 4)) ::
(12,1,.inl (hLen KK)) ::
(13,3,.inl (pu (gIcmp .ne 62))) ::
(62,1,.inl (pu (gLoad Value.isRef 0))) ::
(63,3,.inl (hGet 8 1)) ::
(66,1,.inl (pu (gLoad isI 1))) ::
(67,1,.inl (hALoad 4)) ::
(68,1,.inl (pu (gLoad Value.isRef 0))) ::
(69,3,.inl (hGet 8 3)) ::
(72,1,.inl (pu (gLoad isI 1))) ::
(73,1,.inl (hALoad 1)) ::
(74,1,.inl (pu (gLoad isI 2))) ::
(75,1,.inl (hAStore wt 1 (fun _ => isI))) ::
(76,1,.inl (pu (gLoad Value.isRef 0))) ::
(77,3,.inl (hGet 8 2)) ::
(80,1,.inl (pu (gLoad isI 1))) ::
(81,1,.inl (hALoad 5)) ::
(82,1,.inl (pu (gLoad Value.isRef 0))) ::
(83,3,.inl (hGet 8 3)) ::
(86,1,.inl (pu (gLoad isI 1))) ::
(87,1,.inl (hALoad 1)) ::
(88,1,.inl (pu (gLoad isD 3))) ::
(89,1,.inl (hAStore wt 2 (fun _ => isD))) ::
(90,1,.inl (pu (gLoad Value.isRef 0))) ::
(91,3,.inl (hGet 8 3)) ::
(94,1,.inl (pu (gLoad isI 1))) ::
(95,1,.inl (pu (gDup2))) ::
(96,1,.inl (hALoad 1)) ::
(97,1,.inl (pu (gPush (.int (Int32.ofInt 1))))) ::
(98,1,.inl (pu (gI2 tq 20))) ::
(99,1,.inl (hAStore wt 1 (fun _ => isI))) ::
(100,1,.inr rV) ::
 []
def pg_13 (tp : Tape) (tq : Tq) : List Ent :=
(0,1,.inl (pu (gLoad Value.isRef 0))) ::
(1,3,.inl (hGet 9 3)) ::
(4,1,.inl (pu (gLoad isI 1))) ::
(5,1,.inl (pu (gLoad isI 2))) ::
(6,1,.inl (hAStore wt 1 (fun _ => isI))) ::
(7,1,.inl (pu (gLoad Value.isRef 0))) ::
(8,3,.inl (hGet 9 2)) ::
(11,1,.inl (pu (gLoad isI 1))) ::
(12,1,.inl (pu (gPush (.int (Int32.ofInt (-1)))))) ::
(13,1,.inl (hAStore wt 1 (fun _ => isI))) ::
(14,1,.inl (pu (gLoad Value.isRef 0))) ::
(15,3,.inl (hGet 9 1)) ::
(18,1,.inl (pu (gLoad isI 1))) ::
(19,1,.inl (pu (gLoad Value.isRef 0))) ::
(20,3,.inl (hGet 9 0)) ::
(23,1,.inl (pu (gLoad isI 2))) ::
(24,1,.inl (hALoad 1)) ::
(25,1,.inl (hAStore wt 1 (fun _ => isI))) ::
(26,1,.inl (pu (gLoad Value.isRef 0))) ::
(27,3,.inl (hGet 9 0)) ::
(30,1,.inl (pu (gLoad isI 2))) ::
(31,1,.inl (hALoad 1)) ::
(32,3,.inl (pu (gIf tp .lt 47))) ::
(35,1,.inl (pu (gLoad Value.isRef 0))) ::
(36,3,.inl (hGet 9 2)) ::
(39,1,.inl (pu (gLoad Value.isRef 0))) ::
(40,3,.inl (hGet 9 0)) ::
(43,1,.inl (pu (gLoad isI 2))) ::
(44,1,.inl (hALoad 1)) ::
(45,1,.inl (pu (gLoad isI 1))) ::
(46,1,.inl (hAStore wt 1 (fun _ => isI))) ::
(47,1,.inl (pu (gLoad Value.isRef 0))) ::
(48,3,.inl (hGet 9 0)) ::
(51,1,.inl (pu (gLoad isI 2))) ::
(52,1,.inl (pu (gLoad isI 1))) ::
(53,1,.inl (hAStore wt 1 (fun _ => isI))) ::
(54,1,.inr rV) ::
 []
def pg_14 (tp : Tape) (tq : Tq) : List Ent :=
(0,1,.inl (pu (gLoad Value.isRef 0))) ::
(1,1,.inl (pu (gPush (.int (Int32.ofInt (-1)))))) ::
(2,3,.inl (hPut wt 8 12 isI)) ::
(5,3,.inl (pu (gPush (.long (9223372036854775807 : Int64))))) ::
(8,1,.inl (pu (gStore isJ 1))) ::
(9,1,.inl (pu (gPush (.int (Int32.ofInt 0))))) ::
(10,1,.inl (pu (gStore isI 3))) ::
(11,1,.inl (pu (gPush (.int (Int32.ofInt 1))))) ::
(12,2,.inl (pu (gStore isI 4))) ::
(14,2,.inl (pu (gLoad isI 4))) ::
(16,1,.inl (pu (gLoad Value.isRef 0))) ::
(17,3,.inl (hGet 8 0)) ::
(20,3,.inl (hGet 6 8)) ::
(23,3,.inl (pu (gIcmp .gt 360))) ::
(26,2,.inl (pu (gLoad isI 4))) ::
(28,1,.inl (pu (gPush (.int (Int32.ofInt 1))))) ::
(29,1,.inl (pu (gI2 tq 21))) ::
(30,1,.inl (pu (gI2l))) ::
(31,2,.inl (pu (gLoad isI 4))) ::
(33,1,.inl (pu (gPush (.int (Int32.ofInt 1))))) ::
(34,1,.inl (pu (gI2 tq 21))) ::
(35,1,.inl (pu (gI2l))) ::
(36,1,.inl (pu (gLmul))) ::
(37,2,.inl (pu (gStore isJ 5))) ::
(39,1,.inl (pu (gLoad Value.isRef 0))) ::
(40,3,.inl (hGet 8 10)) ::
(43,2,.inl (pu (gLoad isI 4))) ::
(45,3,.inl (hCall 15 2 (chkI 9) rm_15 2 14 rm_14)) ::
(48,2,.inl (pu (gStore isI 7))) ::
(50,2,.inl (pu (gLoad isI 7))) ::
(52,3,.inl (pu (gIf tp .lt 204))) ::
(55,1,.inl (pu (gLoad Value.isRef 0))) ::
(56,2,.inl (pu (gLoad isI 7))) ::
(58,3,.inl (hCall 16 2 (chkI 8) rm_16 6 14 rm_14)) ::
(61,2,.inl (pu (gStore isD 8))) ::
(63,1,.inl (pu (gPush (.int (Int32.ofInt 0))))) ::
(64,2,.inl (pu (gStore isI 10))) ::
(66,2,.inl (pu (gLoad isI 10))) ::
(68,1,.inl (pu (gLoad Value.isRef 0))) ::
(69,3,.inl (hGet 8 5)) ::
(72,2,.inl (pu (gLoad isI 7))) ::
(74,1,.inl (hALoad 1)) ::
(75,3,.inl (pu (gIcmp .ge 166))) ::
(78,1,.inl (pu (gLoad Value.isRef 0))) ::
(79,3,.inl (hGet 8 4)) ::
(82,2,.inl (pu (gLoad isI 7))) ::
(84,1,.inl (hALoad 4)) ::
(85,2,.inl (pu (gLoad isI 10))) ::
(87,1,.inl (hALoad 1)) ::
(88,2,.inl (pu (gStore isI 11))) ::
(90,1,.inl (pu (gLoad Value.isRef 0))) ::
(91,3,.inl (hGet 8 7)) ::
(94,2,.inl (pu (gLoad isI 11))) ::
(96,1,.inl (hALoad 3)) ::
(97,3,.inl (pu (gIf tp .eq 103))) ::
(100,3,.inl (pu (gGoto 160))) ::
(103,1,.inl (pu (gLoad Value.isRef 0))) ::
(104,3,.inl (hGet 8 3)) ::
(107,2,.inl (pu (gLoad isI 11))) ::
(109,1,.inl (hALoad 1)) ::
(110,1,.inl (pu (gPush (.int (Int32.ofInt 1))))) ::
(111,1,.inl (pu (gI2 tq 21))) ::
(112,1,.inl (pu (gI2l))) ::
(113,2,.inl (pu (gLoad isI 4))) ::
(115,1,.inl (pu (gPush (.int (Int32.ofInt 1))))) ::
(116,1,.inl (pu (gI2 tq 21))) ::
(117,1,.inl (pu (gI2l))) ::
(118,1,.inl (pu (gLmul))) ::
(119,2,.inl (pu (gStore isJ 12))) ::
(121,2,.inl (pu (gLoad isJ 12))) ::
(123,1,.inl (pu (gLoad isJ 1))) ::
(124,1,.inl (pu (gLcmp))) ::
(125,3,.inl (pu (gIf tp .ge 160))) ::
(128,1,.inl (pu (gLoad Value.isRef 0))) ::
(129,1,.inl (pu (gLoad Value.isRef 0))) ::
(130,2,.inl (pu (gLoad isI 11))) ::
(132,2,.inl (pu (gLoad isI 7))) ::
(134,3,.inl (hCall 17 3 (chkI 8) rm_17 4 14 rm_14)) ::
(137,2,.inl (pu (gLoad isD 8))) ::
(139,3,.inl (hCall 20 3 (chkI 8) rm_20 5 14 rm_14)) ::
(142,3,.inl (pu (gIf tp .eq 160))) ::
(145,2,.inl (pu (gLoad isJ 12))) ::
(147,1,.inl (pu (gStore isJ 1))) ::
(148,1,.inl (pu (gLoad Value.isRef 0))) ::
(149,2,.inl (pu (gLoad isI 11))) ::
(151,3,.inl (hPut wt 8 12 isI)) ::
(154,1,.inl (pu (gLoad Value.isRef 0))) ::
(155,2,.inl (pu (gLoad isI 7))) ::
(157,3,.inl (hPut wt 8 13 isI)) ::
(160,3,.inl (pu (gIinc 10 1))) ::
(163,3,.inl (pu (gGoto 66))) ::
(166,3,.inl (pu (gIinc 3 1))) ::
(169,1,.inl (pu (gLoad Value.isRef 0))) ::
(170,3,.inl (hGet 8 12)) ::
(173,3,.inl (pu (gIf tp .lt 190))) ::
(176,1,.inl (pu (gLoad isJ 1))) ::
(177,2,.inl (pu (gLoad isJ 5))) ::
(179,1,.inl (pu (gLcmp))) ::
(180,3,.inl (pu (gIf tp .le 188))) ::
(188,1,.inl (pu (gPush (.int (Int32.ofInt 1))))) ::
(189,1,.inr rZ) ::
(204,1,.inl (pu (gLoad Value.isRef 0))) ::
(205,3,.inl (hGet 8 9)) ::
(208,2,.inl (pu (gLoad isI 4))) ::
(210,3,.inl (hCall 15 2 (chkI 9) rm_15 2 14 rm_14)) ::
(213,2,.inl (pu (gStore isI 7))) ::
(215,2,.inl (pu (gLoad isI 7))) ::
(217,3,.inl (pu (gIf tp .lt 354))) ::
(354,3,.inl (pu (gIinc 4 1))) ::
(357,3,.inl (pu (gGoto 14))) ::
(360,1,.inl (pu (gLoad Value.isRef 0))) ::
(361,3,.inl (hGet 8 12)) ::
(364,3,.inl (pu (gIf tp .lt 371))) ::
(371,1,.inl (pu (gPush (.int (Int32.ofInt 0))))) ::
(372,1,.inr rZ) ::
 []
def pg_15 (tp : Tape) (tq : Tq) : List Ent :=
(0,1,.inl (pu (gLoad Value.isRef 0))) ::
(1,3,.inl (hGet 9 0)) ::
(4,1,.inl (pu (gLoad isI 1))) ::
(5,1,.inl (hALoad 1)) ::
(6,1,.inr rI) ::
 []
def pg_16 (tp : Tape) (tq : Tq) : List Ent :=
(0,1,.inl (pu (gPush (.double 0)))) ::
(1,1,.inl (pu (gStore isD 2))) ::
(2,1,.inl (pu (gPush (.int (Int32.ofInt 0))))) ::
(3,2,.inl (pu (gStore isI 4))) ::
(5,2,.inl (pu (gLoad isI 4))) ::
(7,1,.inl (pu (gLoad Value.isRef 0))) ::
(8,3,.inl (hGet 8 5)) ::
(11,1,.inl (pu (gLoad isI 1))) ::
(12,1,.inl (hALoad 1)) ::
(13,3,.inl (pu (gIcmp .ge 58))) ::
(16,1,.inl (pu (gLoad Value.isRef 0))) ::
(17,3,.inl (hGet 8 4)) ::
(20,1,.inl (pu (gLoad isI 1))) ::
(21,1,.inl (hALoad 4)) ::
(22,2,.inl (pu (gLoad isI 4))) ::
(24,1,.inl (hALoad 1)) ::
(25,2,.inl (pu (gStore isI 5))) ::
(27,1,.inl (pu (gLoad Value.isRef 0))) ::
(28,3,.inl (hGet 8 7)) ::
(31,2,.inl (pu (gLoad isI 5))) ::
(33,1,.inl (hALoad 3)) ::
(34,3,.inl (pu (gIf tp .ne 52))) ::
(37,1,.inl (pu (gLoad isD 2))) ::
(38,1,.inl (pu (gLoad Value.isRef 0))) ::
(39,2,.inl (pu (gLoad isI 5))) ::
(41,1,.inl (pu (gLoad isI 1))) ::
(42,3,.inl (hCall 17 3 (chkI 8) rm_17 4 6 rm_16)) ::
(45,3,.inl (hAbs2 tp 6 rm_16)) ::
(48,3,.inl (hMax 6 rm_16)) ::
(51,1,.inl (pu (gStore isD 2))) ::
(52,3,.inl (pu (gIinc 4 1))) ::
(55,3,.inl (pu (gGoto 5))) ::
(58,1,.inl (pu (gLoad isD 2))) ::
(59,1,.inr rD) ::
 []
def pg_17 (tp : Tape) (tq : Tq) : List Ent :=
(0,1,.inl (pu (gPush (.int (Int32.ofInt 0))))) ::
(1,1,.inl (pu (gStore isI 3))) ::
(2,1,.inl (pu (gLoad isI 3))) ::
(3,1,.inl (pu (gLoad Value.isRef 0))) ::
(4,3,.inl (hGet 8 3)) ::
(7,1,.inl (pu (gLoad isI 1))) ::
(8,1,.inl (hALoad 1)) ::
(9,3,.inl (pu (gIcmp .ge 39))) ::
(12,1,.inl (pu (gLoad Value.isRef 0))) ::
(13,3,.inl (hGet 8 1)) ::
(16,1,.inl (pu (gLoad isI 1))) ::
(17,1,.inl (hALoad 4)) ::
(18,1,.inl (pu (gLoad isI 3))) ::
(19,1,.inl (hALoad 1)) ::
(20,1,.inl (pu (gLoad isI 2))) ::
(21,3,.inl (pu (gIcmp .ne 33))) ::
(24,1,.inl (pu (gLoad Value.isRef 0))) ::
(25,3,.inl (hGet 8 2)) ::
(28,1,.inl (pu (gLoad isI 1))) ::
(29,1,.inl (hALoad 5)) ::
(30,1,.inl (pu (gLoad isI 3))) ::
(31,1,.inl (hALoad 2)) ::
(32,1,.inr rD) ::
(33,3,.inl (pu (gIinc 3 1))) ::
(36,3,.inl (pu (gGoto 2))) ::
 []
def pg_20 (tp : Tape) (tq : Tq) : List Ent :=
(0,1,.inl (pu (gLoad isD 1))) ::
(1,3,.inl (hAbs2 tp 5 rm_20)) ::
(4,3,.inl (pu (gPush (.double (4442235333156365461 : UInt64))))) ::
(7,1,.inl (pu (gDcmp tp))) ::
(8,3,.inl (pu (gIf tp .le 28))) ::
(11,1,.inl (pu (gLoad isD 1))) ::
(12,3,.inl (hAbs2 tp 5 rm_20)) ::
(15,3,.inl (pu (gPush (.double (4591870180066957722 : UInt64))))) ::
(18,1,.inl (pu (gLoad isD 3))) ::
(19,1,.inl (pu (gDD tp 2))) ::
(20,1,.inl (pu (gDcmp tp))) ::
(21,3,.inl (pu (gIf tp .lt 28))) ::
(24,1,.inl (pu (gPush (.int (Int32.ofInt 1))))) ::
(25,3,.inl (pu (gGoto 29))) ::
(29,1,.inr rZ) ::
 []
def pg_21 (tp : Tape) (tq : Tq) : List Ent :=
(0,1,.inl (pu (gLoad Value.isRef 0))) ::
(1,1,.inl (pu (gLoad Value.isRef 0))) ::
(2,3,.inl (hGet 8 12)) ::
(5,1,.inl (pu (gLoad Value.isRef 0))) ::
(6,3,.inl (hGet 8 13)) ::
(9,3,.inl (hCall 17 3 (chkI 8) rm_17 4 7 rm_21)) ::
(12,1,.inl (pu (gStore isD 1))) ::
(13,1,.inl (pu (gLoad Value.isRef 0))) ::
(14,3,.inl (hGet 8 0)) ::
(17,3,.inl (hGet 6 9)) ::
(20,1,.inl (pu (gLoad Value.isRef 0))) ::
(21,3,.inl (hGet 8 0)) ::
(24,3,.inl (hGet 6 12)) ::
(27,1,.inl (pu (gLoad Value.isRef 0))) ::
(28,3,.inl (hGet 8 12)) ::
(31,1,.inl (hAStore wt 1 (fun _ => isI))) ::
(32,1,.inl (pu (gLoad Value.isRef 0))) ::
(33,3,.inl (hGet 8 0)) ::
(36,3,.inl (hGet 6 10)) ::
(39,1,.inl (pu (gLoad Value.isRef 0))) ::
(40,3,.inl (hGet 8 0)) ::
(43,3,.inl (hGet 6 12)) ::
(46,1,.inl (pu (gLoad Value.isRef 0))) ::
(47,3,.inl (hGet 8 13)) ::
(50,1,.inl (hAStore wt 1 (fun _ => isI))) ::
(51,1,.inl (pu (gLoad Value.isRef 0))) ::
(52,3,.inl (hGet 8 0)) ::
(55,3,.inl (hGet 6 11)) ::
(58,1,.inl (pu (gLoad Value.isRef 0))) ::
(59,3,.inl (hGet 8 0)) ::
(62,3,.inl (hGet 6 12)) ::
(65,1,.inl (pu (gLoad isD 1))) ::
(66,1,.inl (hAStore wt 2 (fun _ => isD))) ::
(67,1,.inl (pu (gLoad Value.isRef 0))) ::
(68,3,.inl (hGet 8 7)) ::
(71,1,.inl (pu (gLoad Value.isRef 0))) ::
(72,3,.inl (hGet 8 12)) ::
(75,1,.inl (pu (gPush (.int (Int32.ofInt 1))))) ::
(76,1,.inl (hAStore wt 3 (fun _ => isZ))) ::
(77,1,.inl (pu (gLoad Value.isRef 0))) ::
(78,3,.inl (hGet 8 8)) ::
(81,1,.inl (pu (gLoad Value.isRef 0))) ::
(82,3,.inl (hGet 8 13)) ::
(85,1,.inl (pu (gPush (.int (Int32.ofInt 1))))) ::
(86,1,.inl (hAStore wt 3 (fun _ => isZ))) ::
(87,1,.inl (pu (gLoad Value.isRef 0))) ::
(88,3,.inl (hGet 8 9)) ::
(91,1,.inl (pu (gLoad Value.isRef 0))) ::
(92,3,.inl (hGet 8 12)) ::
(95,3,.inl (hCall 22 2 (chkI 9) rm_22 2 7 rm_21)) ::
(98,1,.inl (pu (gLoad Value.isRef 0))) ::
(99,3,.inl (hGet 8 10)) ::
(102,1,.inl (pu (gLoad Value.isRef 0))) ::
(103,3,.inl (hGet 8 13)) ::
(106,3,.inl (hCall 22 2 (chkI 9) rm_22 2 7 rm_21)) ::
(109,1,.inl (pu (gPush (.int (Int32.ofInt 0))))) ::
(110,1,.inl (pu (gStore isI 3))) ::
(111,1,.inl (pu (gLoad isI 3))) ::
(112,1,.inl (pu (gLoad Value.isRef 0))) ::
(113,3,.inl (hGet 8 3)) ::
(116,1,.inl (pu (gLoad Value.isRef 0))) ::
(117,3,.inl (hGet 8 12)) ::
(120,1,.inl (hALoad 1)) ::
(121,3,.inl (pu (gIcmp .ge 181))) ::
(124,1,.inl (pu (gLoad Value.isRef 0))) ::
(125,3,.inl (hGet 8 1)) ::
(128,1,.inl (pu (gLoad Value.isRef 0))) ::
(129,3,.inl (hGet 8 12)) ::
(132,1,.inl (hALoad 4)) ::
(133,1,.inl (pu (gLoad isI 3))) ::
(134,1,.inl (hALoad 1)) ::
(135,2,.inl (pu (gStore isI 4))) ::
(137,2,.inl (pu (gLoad isI 4))) ::
(139,1,.inl (pu (gLoad Value.isRef 0))) ::
(140,3,.inl (hGet 8 13)) ::
(143,3,.inl (pu (gIcmp .eq 175))) ::
(146,1,.inl (pu (gLoad Value.isRef 0))) ::
(147,3,.inl (hGet 8 0)) ::
(150,3,.inl (hGet 6 1)) ::
(153,2,.inl (pu (gLoad isI 4))) ::
(155,1,.inl (pu (gLoad Value.isRef 0))) ::
(156,3,.inl (hGet 8 2)) ::
(159,1,.inl (pu (gLoad Value.isRef 0))) ::
(160,3,.inl (hGet 8 12)) ::
(163,1,.inl (hALoad 5)) ::
(164,1,.inl (pu (gLoad isI 3))) ::
(165,1,.inl (hALoad 2)) ::
(166,3,.inl (hCall 23 3 (chkI 7) rm_23 4 7 rm_21)) ::
(169,1,.inl (pu (gLoad Value.isRef 0))) ::
(170,2,.inl (pu (gLoad isI 4))) ::
(172,3,.inl (hCall 24 2 (chkI 8) rm_24 2 7 rm_21)) ::
(175,3,.inl (pu (gIinc 3 1))) ::
(178,3,.inl (pu (gGoto 111))) ::
(181,1,.inl (pu (gLoad Value.isRef 0))) ::
(182,3,.inl (hGet 8 0)) ::
(185,3,.inl (hGet 6 1)) ::
(188,3,.inl (hCall 26 1 (chkI 7) rm_26 1 7 rm_21)) ::
(191,1,.inl (pu (gPush (.int (Int32.ofInt 0))))) ::
(192,1,.inl (pu (gStore isI 3))) ::
(193,1,.inl (pu (gLoad isI 3))) ::
(194,1,.inl (pu (gLoad Value.isRef 0))) ::
(195,3,.inl (hGet 8 5)) ::
(198,1,.inl (pu (gLoad Value.isRef 0))) ::
(199,3,.inl (hGet 8 13)) ::
(202,1,.inl (hALoad 1)) ::
(203,3,.inl (pu (gIcmp .ge 271))) ::
(206,1,.inl (pu (gLoad Value.isRef 0))) ::
(207,3,.inl (hGet 8 4)) ::
(210,1,.inl (pu (gLoad Value.isRef 0))) ::
(211,3,.inl (hGet 8 13)) ::
(214,1,.inl (hALoad 4)) ::
(215,1,.inl (pu (gLoad isI 3))) ::
(216,1,.inl (hALoad 1)) ::
(217,2,.inl (pu (gStore isI 4))) ::
(219,1,.inl (pu (gLoad Value.isRef 0))) ::
(220,3,.inl (hGet 8 7)) ::
(223,2,.inl (pu (gLoad isI 4))) ::
(225,1,.inl (hALoad 3)) ::
(226,3,.inl (pu (gIf tp .ne 265))) ::
(229,1,.inl (pu (gLoad Value.isRef 0))) ::
(230,2,.inl (pu (gLoad isI 4))) ::
(232,1,.inl (pu (gLoad Value.isRef 0))) ::
(233,3,.inl (hGet 8 13)) ::
(236,3,.inl (hCall 17 3 (chkI 8) rm_17 4 7 rm_21)) ::
(239,1,.inl (pu (gLoad isD 1))) ::
(240,1,.inl (pu (gDD tp 3))) ::
(241,2,.inl (pu (gStore isD 5))) ::
(243,1,.inl (pu (gLoad Value.isRef 0))) ::
(244,3,.inl (hGet 8 0)) ::
(247,3,.inl (hGet 6 0)) ::
(250,2,.inl (pu (gLoad isI 4))) ::
(252,2,.inl (pu (gLoad isD 5))) ::
(254,3,.inl (hCall 23 3 (chkI 7) rm_23 4 7 rm_21)) ::
(257,1,.inl (pu (gLoad Value.isRef 0))) ::
(258,2,.inl (pu (gLoad isI 4))) ::
(260,2,.inl (pu (gLoad isD 5))) ::
(262,3,.inl (hCall 35 3 (chkI 8) rm_35 8 7 rm_21)) ::
(265,3,.inl (pu (gIinc 3 1))) ::
(268,3,.inl (pu (gGoto 193))) ::
(271,1,.inl (pu (gLoad Value.isRef 0))) ::
(272,3,.inl (hGet 8 0)) ::
(275,3,.inl (hGet 6 0)) ::
(278,3,.inl (hCall 26 1 (chkI 7) rm_26 1 7 rm_21)) ::
(281,1,.inl (pu (gLoad Value.isRef 0))) ::
(282,3,.inl (hGet 8 6)) ::
(285,1,.inl (pu (gLoad Value.isRef 0))) ::
(286,3,.inl (hGet 8 13)) ::
(289,1,.inl (pu (gPush (.int (Int32.ofInt 0))))) ::
(290,1,.inl (hAStore wt 1 (fun _ => isI))) ::
(291,1,.inr rV) ::
 []
def pg_22 (tp : Tape) (tq : Tq) : List Ent :=
(0,1,.inl (pu (gLoad Value.isRef 0))) ::
(1,3,.inl (hGet 9 2)) ::
(4,1,.inl (pu (gLoad isI 1))) ::
(5,1,.inl (hALoad 1)) ::
(6,3,.inl (pu (gIf tp .lt 29))) ::
(9,1,.inl (pu (gLoad Value.isRef 0))) ::
(10,3,.inl (hGet 9 1)) ::
(13,1,.inl (pu (gLoad Value.isRef 0))) ::
(14,3,.inl (hGet 9 2)) ::
(17,1,.inl (pu (gLoad isI 1))) ::
(18,1,.inl (hALoad 1)) ::
(19,1,.inl (pu (gLoad Value.isRef 0))) ::
(20,3,.inl (hGet 9 1)) ::
(23,1,.inl (pu (gLoad isI 1))) ::
(24,1,.inl (hALoad 1)) ::
(25,1,.inl (hAStore wt 1 (fun _ => isI))) ::
(26,3,.inl (pu (gGoto 46))) ::
(29,1,.inl (pu (gLoad Value.isRef 0))) ::
(30,3,.inl (hGet 9 0)) ::
(33,1,.inl (pu (gLoad Value.isRef 0))) ::
(34,3,.inl (hGet 9 3)) ::
(37,1,.inl (pu (gLoad isI 1))) ::
(38,1,.inl (hALoad 1)) ::
(39,1,.inl (pu (gLoad Value.isRef 0))) ::
(40,3,.inl (hGet 9 1)) ::
(43,1,.inl (pu (gLoad isI 1))) ::
(44,1,.inl (hALoad 1)) ::
(45,1,.inl (hAStore wt 1 (fun _ => isI))) ::
(46,1,.inl (pu (gLoad Value.isRef 0))) ::
(47,3,.inl (hGet 9 1)) ::
(50,1,.inl (pu (gLoad isI 1))) ::
(51,1,.inl (hALoad 1)) ::
(52,3,.inl (pu (gIf tp .lt 72))) ::
(55,1,.inl (pu (gLoad Value.isRef 0))) ::
(56,3,.inl (hGet 9 2)) ::
(59,1,.inl (pu (gLoad Value.isRef 0))) ::
(60,3,.inl (hGet 9 1)) ::
(63,1,.inl (pu (gLoad isI 1))) ::
(64,1,.inl (hALoad 1)) ::
(65,1,.inl (pu (gLoad Value.isRef 0))) ::
(66,3,.inl (hGet 9 2)) ::
(69,1,.inl (pu (gLoad isI 1))) ::
(70,1,.inl (hALoad 1)) ::
(71,1,.inl (hAStore wt 1 (fun _ => isI))) ::
(72,1,.inr rV) ::
 []
def pg_23 (tp : Tape) (tq : Tq) : List Ent :=
(0,1,.inl (pu (gLoad Value.isRef 0))) ::
(1,3,.inl (hGet 7 4)) ::
(4,1,.inl (pu (gLoad Value.isRef 0))) ::
(5,3,.inl (hGet 7 1)) ::
(8,1,.inl (hLen KK)) ::
(9,3,.inl (pu (gIcmp .ne 46))) ::
(46,1,.inl (pu (gLoad Value.isRef 0))) ::
(47,3,.inl (hGet 7 1)) ::
(50,1,.inl (pu (gLoad Value.isRef 0))) ::
(51,3,.inl (hGet 7 4)) ::
(54,1,.inl (pu (gLoad isI 1))) ::
(55,1,.inl (hAStore wt 1 (fun _ => isI))) ::
(56,1,.inl (pu (gLoad Value.isRef 0))) ::
(57,3,.inl (hGet 7 2)) ::
(60,1,.inl (pu (gLoad Value.isRef 0))) ::
(61,3,.inl (hGet 7 4)) ::
(64,1,.inl (pu (gLoad isD 2))) ::
(65,1,.inl (hAStore wt 2 (fun _ => isD))) ::
(66,1,.inl (pu (gLoad Value.isRef 0))) ::
(67,1,.inl (pu (gDup))) ::
(68,3,.inl (hGet 7 4)) ::
(71,1,.inl (pu (gPush (.int (Int32.ofInt 1))))) ::
(72,1,.inl (pu (gI2 tq 20))) ::
(73,3,.inl (hPut wt 7 4 isI)) ::
(76,1,.inr rV) ::
 []
def pg_24 (tp : Tape) (tq : Tq) : List Ent :=
(0,1,.inl (pu (gLoad Value.isRef 0))) ::
(1,3,.inl (hGet 8 6)) ::
(4,1,.inl (pu (gLoad isI 1))) ::
(5,1,.inl (pu (gDup2))) ::
(6,1,.inl (hALoad 1)) ::
(7,1,.inl (pu (gPush (.int (Int32.ofInt 1))))) ::
(8,1,.inl (pu (gI2 tq 21))) ::
(9,1,.inl (hAStore wt 1 (fun _ => isI))) ::
(10,1,.inl (pu (gLoad Value.isRef 0))) ::
(11,3,.inl (hGet 8 10)) ::
(14,1,.inl (pu (gLoad isI 1))) ::
(15,1,.inl (pu (gLoad Value.isRef 0))) ::
(16,3,.inl (hGet 8 6)) ::
(19,1,.inl (pu (gLoad isI 1))) ::
(20,1,.inl (hALoad 1)) ::
(21,3,.inl (hCall 25 3 (chkI 9) rm_25 3 2 rm_24)) ::
(24,1,.inr rV) ::
 []
def pg_25 (tp : Tape) (tq : Tq) : List Ent :=
(0,1,.inl (pu (gLoad Value.isRef 0))) ::
(1,1,.inl (pu (gLoad isI 1))) ::
(2,3,.inl (hCall 22 2 (chkI 9) rm_22 2 3 rm_25)) ::
(5,1,.inl (pu (gLoad Value.isRef 0))) ::
(6,1,.inl (pu (gLoad isI 1))) ::
(7,1,.inl (pu (gLoad isI 2))) ::
(8,3,.inl (hCall 13 3 (chkI 9) rm_13 3 3 rm_25)) ::
(11,1,.inr rV) ::
 []
def pg_26 (tp : Tape) (tq : Tq) : List Ent :=
(0,1,.inl (pu (gLoad Value.isRef 0))) ::
(1,3,.inl (hGet 7 3)) ::
(4,1,.inl (pu (gPush (.int (Int32.ofInt 2))))) ::
(5,1,.inl (pu (gI2 tq 20))) ::
(6,1,.inl (pu (gLoad Value.isRef 0))) ::
(7,3,.inl (hGet 7 0)) ::
(10,1,.inl (hLen KK)) ::
(11,3,.inl (pu (gIcmp .le 33))) ::
(33,1,.inl (pu (gLoad Value.isRef 0))) ::
(34,1,.inl (pu (gDup))) ::
(35,3,.inl (hGet 7 3)) ::
(38,1,.inl (pu (gPush (.int (Int32.ofInt 1))))) ::
(39,1,.inl (pu (gI2 tq 20))) ::
(40,3,.inl (hPut wt 7 3 isI)) ::
(43,1,.inl (pu (gLoad Value.isRef 0))) ::
(44,3,.inl (hGet 7 0)) ::
(47,1,.inl (pu (gLoad Value.isRef 0))) ::
(48,3,.inl (hGet 7 3)) ::
(51,1,.inl (pu (gLoad Value.isRef 0))) ::
(52,3,.inl (hGet 7 4)) ::
(55,1,.inl (hAStore wt 1 (fun _ => isI))) ::
(56,1,.inr rV) ::
 []
def pg_27 (tp : Tape) (tq : Tq) : List Ent :=
(0,1,.inl (pu (gLoad Value.isRef 0))) ::
(1,3,.inl (hGet 6 8)) ::
(4,2,.inl (hNewA 1 (.int 0) rm_27)) ::
(6,1,.inl (pu (gStore Value.isRef 1))) ::
(7,1,.inl (pu (gPush (.int (Int32.ofInt 0))))) ::
(8,1,.inl (pu (gStore isI 2))) ::
(9,1,.inl (pu (gLoad isI 2))) ::
(10,1,.inl (pu (gLoad Value.isRef 0))) ::
(11,3,.inl (hGet 6 12)) ::
(14,3,.inl (pu (gIcmp .ge 32))) ::
(17,1,.inl (pu (gLoad Value.isRef 1))) ::
(18,1,.inl (pu (gLoad Value.isRef 0))) ::
(19,3,.inl (hGet 6 10)) ::
(22,1,.inl (pu (gLoad isI 2))) ::
(23,1,.inl (hALoad 1)) ::
(24,1,.inl (pu (gLoad isI 2))) ::
(25,1,.inl (hAStore wt 1 (fun _ => isI))) ::
(26,3,.inl (pu (gIinc 2 1))) ::
(29,3,.inl (pu (gGoto 9))) ::
(32,1,.inl (pu (gLoad Value.isRef 0))) ::
(33,3,.inl (hGet 6 1)) ::
(36,3,.inl (hGet 7 4)) ::
(39,1,.inl (pu (gStore isI 2))) ::
(40,1,.inl (pu (gLoad Value.isRef 0))) ::
(41,3,.inl (hGet 6 12)) ::
(44,1,.inl (pu (gPush (.int (Int32.ofInt 1))))) ::
(45,1,.inl (pu (gI2 tq 20))) ::
(46,2,.inl (hNewA 1 (.int 0) rm_27)) ::
(48,1,.inl (pu (gStore Value.isRef 3))) ::
(49,1,.inl (pu (gPush (.int (Int32.ofInt 0))))) ::
(50,2,.inl (pu (gStore isI 4))) ::
(52,2,.inl (pu (gLoad isI 4))) ::
(54,1,.inl (pu (gLoad isI 2))) ::
(55,3,.inl (pu (gIcmp .ge 84))) ::
(58,1,.inl (pu (gLoad Value.isRef 3))) ::
(59,1,.inl (pu (gLoad Value.isRef 1))) ::
(60,1,.inl (pu (gLoad Value.isRef 0))) ::
(61,3,.inl (hGet 6 1)) ::
(64,3,.inl (hGet 7 1)) ::
(67,2,.inl (pu (gLoad isI 4))) ::
(69,1,.inl (hALoad 1)) ::
(70,1,.inl (hALoad 1)) ::
(71,1,.inl (pu (gPush (.int (Int32.ofInt 1))))) ::
(72,1,.inl (pu (gI2 tq 20))) ::
(73,1,.inl (pu (gDup2))) ::
(74,1,.inl (hALoad 1)) ::
(75,1,.inl (pu (gPush (.int (Int32.ofInt 1))))) ::
(76,1,.inl (pu (gI2 tq 20))) ::
(77,1,.inl (hAStore wt 1 (fun _ => isI))) ::
(78,3,.inl (pu (gIinc 4 1))) ::
(81,3,.inl (pu (gGoto 52))) ::
(84,1,.inl (pu (gPush (.int (Int32.ofInt 0))))) ::
(85,2,.inl (pu (gStore isI 4))) ::
(87,2,.inl (pu (gLoad isI 4))) ::
(89,1,.inl (pu (gLoad Value.isRef 0))) ::
(90,3,.inl (hGet 6 12)) ::
(93,3,.inl (pu (gIcmp .ge 115))) ::
(96,1,.inl (pu (gLoad Value.isRef 3))) ::
(97,2,.inl (pu (gLoad isI 4))) ::
(99,1,.inl (pu (gPush (.int (Int32.ofInt 1))))) ::
(100,1,.inl (pu (gI2 tq 20))) ::
(101,1,.inl (pu (gDup2))) ::
(102,1,.inl (hALoad 1)) ::
(103,1,.inl (pu (gLoad Value.isRef 3))) ::
(104,2,.inl (pu (gLoad isI 4))) ::
(106,1,.inl (hALoad 1)) ::
(107,1,.inl (pu (gI2 tq 20))) ::
(108,1,.inl (hAStore wt 1 (fun _ => isI))) ::
(109,3,.inl (pu (gIinc 4 1))) ::
(112,3,.inl (pu (gGoto 87))) ::
(115,1,.inl (pu (gLoad isI 2))) ::
(116,2,.inl (hNewA 1 (.int 0) rm_27)) ::
(118,2,.inl (pu (gStore Value.isRef 4))) ::
(120,1,.inl (pu (gLoad isI 2))) ::
(121,2,.inl (hNewA 2 (.double 0) rm_27)) ::
(123,2,.inl (pu (gStore Value.isRef 5))) ::
(125,1,.inl (pu (gLoad Value.isRef 3))) ::
(126,1,.inl (pu (gLoad Value.isRef 0))) ::
(127,3,.inl (hGet 6 12)) ::
(130,3,.inl (hCopy 1 1 2 1 40 10 rm_27)) ::
(133,2,.inl (pu (gStore Value.isRef 6))) ::
(135,1,.inl (pu (gPush (.int (Int32.ofInt 0))))) ::
(136,2,.inl (pu (gStore isI 7))) ::
(138,2,.inl (pu (gLoad isI 7))) ::
(140,1,.inl (pu (gLoad Value.isRef 0))) ::
(141,3,.inl (hGet 6 12)) ::
(144,3,.inl (pu (gIcmp .ge 244))) ::
(147,1,.inl (pu (gLoad Value.isRef 0))) ::
(148,3,.inl (hGet 6 1)) ::
(151,3,.inl (hGet 7 0)) ::
(154,2,.inl (pu (gLoad isI 7))) ::
(156,1,.inl (hALoad 1)) ::
(157,2,.inl (pu (gStore isI 8))) ::
(159,2,.inl (pu (gLoad isI 8))) ::
(161,1,.inl (pu (gLoad Value.isRef 0))) ::
(162,3,.inl (hGet 6 1)) ::
(165,3,.inl (hGet 7 0)) ::
(168,2,.inl (pu (gLoad isI 7))) ::
(170,1,.inl (pu (gPush (.int (Int32.ofInt 1))))) ::
(171,1,.inl (pu (gI2 tq 20))) ::
(172,1,.inl (hALoad 1)) ::
(173,3,.inl (pu (gIcmp .ge 238))) ::
(176,1,.inl (pu (gLoad Value.isRef 1))) ::
(177,1,.inl (pu (gLoad Value.isRef 0))) ::
(178,3,.inl (hGet 6 1)) ::
(181,3,.inl (hGet 7 1)) ::
(184,2,.inl (pu (gLoad isI 8))) ::
(186,1,.inl (hALoad 1)) ::
(187,1,.inl (hALoad 1)) ::
(188,2,.inl (pu (gStore isI 9))) ::
(190,2,.inl (pu (gLoad Value.isRef 4))) ::
(192,2,.inl (pu (gLoad Value.isRef 6))) ::
(194,2,.inl (pu (gLoad isI 9))) ::
(196,1,.inl (hALoad 1)) ::
(197,1,.inl (pu (gLoad Value.isRef 0))) ::
(198,3,.inl (hGet 6 9)) ::
(201,2,.inl (pu (gLoad isI 7))) ::
(203,1,.inl (hALoad 1)) ::
(204,1,.inl (hAStore wt 1 (fun _ => isI))) ::
(205,2,.inl (pu (gLoad Value.isRef 5))) ::
(207,2,.inl (pu (gLoad Value.isRef 6))) ::
(209,2,.inl (pu (gLoad isI 9))) ::
(211,1,.inl (hALoad 1)) ::
(212,1,.inl (pu (gLoad Value.isRef 0))) ::
(213,3,.inl (hGet 6 1)) ::
(216,3,.inl (hGet 7 2)) ::
(219,2,.inl (pu (gLoad isI 8))) ::
(221,1,.inl (hALoad 2)) ::
(222,1,.inl (hAStore wt 2 (fun _ => isD))) ::
(223,2,.inl (pu (gLoad Value.isRef 6))) ::
(225,2,.inl (pu (gLoad isI 9))) ::
(227,1,.inl (pu (gDup2))) ::
(228,1,.inl (hALoad 1)) ::
(229,1,.inl (pu (gPush (.int (Int32.ofInt 1))))) ::
(230,1,.inl (pu (gI2 tq 20))) ::
(231,1,.inl (hAStore wt 1 (fun _ => isI))) ::
(232,3,.inl (pu (gIinc 8 1))) ::
(235,3,.inl (pu (gGoto 159))) ::
(238,3,.inl (pu (gIinc 7 1))) ::
(241,3,.inl (pu (gGoto 138))) ::
(244,1,.inl (pu (gLoad Value.isRef 0))) ::
(245,3,.inl (hGet 6 2)) ::
(248,3,.inl (hCall 8 1 (chkI 7) rm_8 1 10 rm_27)) ::
(251,1,.inl (pu (gPush (.int (Int32.ofInt 0))))) ::
(252,2,.inl (pu (gStore isI 7))) ::
(254,2,.inl (pu (gLoad isI 7))) ::
(256,1,.inl (pu (gLoad Value.isRef 0))) ::
(257,3,.inl (hGet 6 12)) ::
(260,3,.inl (pu (gIcmp .ge 316))) ::
(263,1,.inl (pu (gLoad Value.isRef 3))) ::
(264,2,.inl (pu (gLoad isI 7))) ::
(266,1,.inl (hALoad 1)) ::
(267,2,.inl (pu (gStore isI 8))) ::
(269,2,.inl (pu (gLoad isI 8))) ::
(271,1,.inl (pu (gLoad Value.isRef 3))) ::
(272,2,.inl (pu (gLoad isI 7))) ::
(274,1,.inl (pu (gPush (.int (Int32.ofInt 1))))) ::
(275,1,.inl (pu (gI2 tq 20))) ::
(276,1,.inl (hALoad 1)) ::
(277,3,.inl (pu (gIcmp .ge 303))) ::
(280,1,.inl (pu (gLoad Value.isRef 0))) ::
(281,3,.inl (hGet 6 2)) ::
(284,2,.inl (pu (gLoad Value.isRef 4))) ::
(286,2,.inl (pu (gLoad isI 8))) ::
(288,1,.inl (hALoad 1)) ::
(289,2,.inl (pu (gLoad Value.isRef 5))) ::
(291,2,.inl (pu (gLoad isI 8))) ::
(293,1,.inl (hALoad 2)) ::
(294,3,.inl (hCall 23 3 (chkI 7) rm_23 4 10 rm_27)) ::
(297,3,.inl (pu (gIinc 8 1))) ::
(300,3,.inl (pu (gGoto 269))) ::
(303,1,.inl (pu (gLoad Value.isRef 0))) ::
(304,3,.inl (hGet 6 2)) ::
(307,3,.inl (hCall 26 1 (chkI 7) rm_26 1 10 rm_27)) ::
(310,3,.inl (pu (gIinc 7 1))) ::
(313,3,.inl (pu (gGoto 254))) ::
(316,1,.inr rV) ::
 []
def pg_30 (tp : Tape) (tq : Tq) : List Ent :=
(0,1,.inl (pu (gLoad Value.isRef 0))) ::
(1,3,.inl (hGet 8 0)) ::
(4,3,.inl (hGet 6 8)) ::
(7,1,.inl (pu (gLoad Value.isRef 0))) ::
(8,3,.inl (hGet 8 0)) ::
(11,3,.inl (hGet 6 12)) ::
(14,1,.inl (pu (gI2 tq 21))) ::
(15,2,.inl (hNewA 1 (.int 0) rm_30)) ::
(17,1,.inl (pu (gStore Value.isRef 2))) ::
(18,1,.inl (pu (gPush (.int (Int32.ofInt 0))))) ::
(19,1,.inl (pu (gStore isI 3))) ::
(20,1,.inl (pu (gPush (.int (Int32.ofInt 0))))) ::
(21,2,.inl (pu (gStore isI 4))) ::
(23,2,.inl (pu (gLoad isI 4))) ::
(25,1,.inl (pu (gLoad Value.isRef 0))) ::
(26,3,.inl (hGet 8 0)) ::
(29,3,.inl (hGet 6 8)) ::
(32,3,.inl (pu (gIcmp .ge 56))) ::
(35,1,.inl (pu (gLoad Value.isRef 1))) ::
(36,2,.inl (pu (gLoad isI 4))) ::
(38,1,.inl (hALoad 3)) ::
(39,3,.inl (pu (gIf tp .ne 50))) ::
(50,3,.inl (pu (gIinc 4 1))) ::
(53,3,.inl (pu (gGoto 23))) ::
(56,1,.inl (pu (gLoad Value.isRef 2))) ::
(57,1,.inr rA) ::
 []
def pg_31 (tp : Tape) (tq : Tq) : List Ent :=
(0,1,.inl (pu (gLoad isI 2))) ::
(1,1,.inl (pu (gPush (.int (Int32.ofInt 1))))) ::
(2,1,.inl (pu (gI2 tq 23))) ::
(3,2,.inl (pu (gStore isI 4))) ::
(5,1,.inl (pu (gLoad isI 2))) ::
(6,1,.inl (pu (gPush (.int (Int32.ofInt 1))))) ::
(7,1,.inl (pu (gI2 tq 24))) ::
(8,1,.inl (pu (gPush (.int (Int32.ofInt 1))))) ::
(9,1,.inl (pu (gI2 tq 23))) ::
(10,3,.inl (pu (gIf tp .ne 17))) ::
(13,1,.inl (pu (gPush (.int (Int32.ofInt 1))))) ::
(14,3,.inl (pu (gGoto 18))) ::
(17,1,.inl (pu (gPush (.int (Int32.ofInt (-1)))))) ::
(18,2,.inl (pu (gStore isI 5))) ::
(20,1,.inl (pu (gLoad isI 2))) ::
(21,1,.inl (pu (gPush (.int (Int32.ofInt 2))))) ::
(22,1,.inl (pu (gI2 tq 24))) ::
(23,3,.inl (hEnt tq 11 rm_31)) ::
(26,2,.inl (pu (gStore isI 6))) ::
(28,2,.inl (pu (gLoad isI 4))) ::
(30,3,.inl (pu (gIf tp .ne 38))) ::
(33,2,.inl (pu (gLoad isI 5))) ::
(35,3,.inl (pu (gGoto 40))) ::
(38,2,.inl (pu (gLoad isI 6))) ::
(40,2,.inl (pu (gStore isI 7))) ::
(42,2,.inl (pu (gLoad isI 4))) ::
(44,3,.inl (pu (gIf tp .ne 52))) ::
(47,2,.inl (pu (gLoad isI 6))) ::
(49,3,.inl (pu (gGoto 54))) ::
(52,2,.inl (pu (gLoad isI 5))) ::
(54,2,.inl (pu (gStore isI 8))) ::
(56,1,.inl (pu (gLoad Value.isRef 1))) ::
(57,1,.inl (pu (gPush (.int (Int32.ofInt 0))))) ::
(58,1,.inl (hALoad 1)) ::
(59,2,.inl (pu (gLoad isI 7))) ::
(61,1,.inl (pu (gI2 tq 22))) ::
(62,1,.inl (pu (gLoad Value.isRef 1))) ::
(63,1,.inl (pu (gPush (.int (Int32.ofInt 1))))) ::
(64,1,.inl (hALoad 1)) ::
(65,2,.inl (pu (gLoad isI 8))) ::
(67,1,.inl (pu (gI2 tq 22))) ::
(68,1,.inl (pu (gI2 tq 20))) ::
(69,2,.inl (pu (gStore isI 9))) ::
(71,1,.inl (pu (gLoad Value.isRef 1))) ::
(72,1,.inl (pu (gPush (.int (Int32.ofInt 2))))) ::
(73,1,.inl (hALoad 1)) ::
(74,2,.inl (pu (gLoad isI 7))) ::
(76,1,.inl (pu (gI2 tq 22))) ::
(77,1,.inl (pu (gLoad Value.isRef 1))) ::
(78,1,.inl (pu (gPush (.int (Int32.ofInt 3))))) ::
(79,1,.inl (hALoad 1)) ::
(80,2,.inl (pu (gLoad isI 8))) ::
(82,1,.inl (pu (gI2 tq 22))) ::
(83,1,.inl (pu (gI2 tq 20))) ::
(84,2,.inl (pu (gStore isI 10))) ::
(86,1,.inl (pu (gLoad Value.isRef 3))) ::
(87,1,.inl (pu (gPush (.int (Int32.ofInt 0))))) ::
(88,2,.inl (pu (gLoad isI 7))) ::
(90,1,.inl (pu (gI2d tp))) ::
(91,1,.inl (hAStore wt 2 (fun _ => isD))) ::
(92,1,.inl (pu (gLoad Value.isRef 3))) ::
(93,1,.inl (pu (gPush (.int (Int32.ofInt 1))))) ::
(94,2,.inl (pu (gLoad isI 8))) ::
(96,1,.inl (pu (gI2d tp))) ::
(97,1,.inl (hAStore wt 2 (fun _ => isD))) ::
(98,1,.inl (pu (gLoad Value.isRef 0))) ::
(99,2,.inl (pu (gLoad isI 4))) ::
(101,1,.inl (pu (gLoad Value.isRef 3))) ::
(102,3,.inl (hCall 32 3 (chkI 6) rm_32 4 11 rm_31)) ::
(105,2,.inl (pu (gLoad isI 4))) ::
(107,3,.inl (pu (gIf tp .ne 123))) ::
(110,1,.inl (pu (gLoad Value.isRef 1))) ::
(111,1,.inl (pu (gPush (.int (Int32.ofInt 0))))) ::
(112,2,.inl (pu (gLoad isI 9))) ::
(114,1,.inl (hAStore wt 1 (fun _ => isI))) ::
(115,1,.inl (pu (gLoad Value.isRef 1))) ::
(116,1,.inl (pu (gPush (.int (Int32.ofInt 2))))) ::
(117,2,.inl (pu (gLoad isI 10))) ::
(119,1,.inl (hAStore wt 1 (fun _ => isI))) ::
(120,3,.inl (pu (gGoto 133))) ::
(123,1,.inl (pu (gLoad Value.isRef 1))) ::
(124,1,.inl (pu (gPush (.int (Int32.ofInt 1))))) ::
(125,2,.inl (pu (gLoad isI 9))) ::
(127,1,.inl (hAStore wt 1 (fun _ => isI))) ::
(128,1,.inl (pu (gLoad Value.isRef 1))) ::
(129,1,.inl (pu (gPush (.int (Int32.ofInt 3))))) ::
(130,2,.inl (pu (gLoad isI 10))) ::
(132,1,.inl (hAStore wt 1 (fun _ => isI))) ::
(133,1,.inr rV) ::
 []
def pg_32 (tp : Tape) (tq : Tq) : List Ent :=
(0,1,.inl (pu (gLoad Value.isRef 0))) ::
(1,3,.inl (hGet 6 3)) ::
(4,3,.inl (hGet 7 3)) ::
(7,1,.inl (pu (gLoad Value.isRef 0))) ::
(8,3,.inl (hGet 6 4)) ::
(11,1,.inl (hLen KK)) ::
(12,3,.inl (pu (gIcmp .ne 55))) ::
(55,1,.inl (pu (gLoad Value.isRef 0))) ::
(56,3,.inl (hGet 6 4)) ::
(59,1,.inl (pu (gLoad Value.isRef 0))) ::
(60,3,.inl (hGet 6 3)) ::
(63,3,.inl (hGet 7 3)) ::
(66,1,.inl (pu (gLoad isI 1))) ::
(67,1,.inl (hAStore wt 1 (fun _ => isI))) ::
(68,1,.inl (pu (gLoad Value.isRef 0))) ::
(69,3,.inl (hGet 6 5)) ::
(72,1,.inl (pu (gLoad Value.isRef 0))) ::
(73,3,.inl (hGet 6 3)) ::
(76,3,.inl (hGet 7 3)) ::
(79,1,.inl (pu (gLoad Value.isRef 2))) ::
(80,1,.inl (pu (gLoad isI 1))) ::
(81,1,.inl (hALoad 2)) ::
(82,1,.inl (hAStore wt 2 (fun _ => isD))) ::
(83,1,.inl (pu (gPush (.int (Int32.ofInt 0))))) ::
(84,1,.inl (pu (gStore isI 3))) ::
(85,1,.inl (pu (gLoad isI 3))) ::
(86,1,.inl (pu (gLoad Value.isRef 0))) ::
(87,3,.inl (hGet 6 8)) ::
(90,3,.inl (pu (gIcmp .ge 128))) ::
(93,1,.inl (pu (gLoad isI 3))) ::
(94,1,.inl (pu (gLoad isI 1))) ::
(95,3,.inl (pu (gIcmp .eq 122))) ::
(98,1,.inl (pu (gLoad Value.isRef 2))) ::
(99,1,.inl (pu (gLoad isI 3))) ::
(100,1,.inl (hALoad 2)) ::
(101,3,.inl (hAbs2 tp 4 rm_32)) ::
(104,3,.inl (pu (gPush (.double (4397347889687374747 : UInt64))))) ::
(107,1,.inl (pu (gDcmp tp))) ::
(108,3,.inl (pu (gIf tp .le 122))) ::
(111,1,.inl (pu (gLoad Value.isRef 0))) ::
(112,3,.inl (hGet 6 3)) ::
(115,1,.inl (pu (gLoad isI 3))) ::
(116,1,.inl (pu (gLoad Value.isRef 2))) ::
(117,1,.inl (pu (gLoad isI 3))) ::
(118,1,.inl (hALoad 2)) ::
(119,3,.inl (hCall 23 3 (chkI 7) rm_23 4 4 rm_32)) ::
(122,3,.inl (pu (gIinc 3 1))) ::
(125,3,.inl (pu (gGoto 85))) ::
(128,1,.inl (pu (gLoad Value.isRef 0))) ::
(129,3,.inl (hGet 6 3)) ::
(132,3,.inl (hCall 26 1 (chkI 7) rm_26 1 4 rm_32)) ::
(135,1,.inr rV) ::
 []
def pg_33 (tp : Tape) (tq : Tq) : List Ent :=
(0,1,.inl (pu (gLoad Value.isRef 0))) ::
(1,3,.inl (hGet 6 3)) ::
(4,3,.inl (hGet 7 3)) ::
(7,1,.inl (pu (gPush (.int (Int32.ofInt 1))))) ::
(8,1,.inl (pu (gI2 tq 21))) ::
(9,1,.inl (pu (gStore isI 3))) ::
(10,1,.inl (pu (gLoad isI 3))) ::
(11,3,.inl (pu (gIf tp .lt 108))) ::
(14,1,.inl (pu (gLoad Value.isRef 0))) ::
(15,3,.inl (hGet 6 4)) ::
(18,1,.inl (pu (gLoad isI 3))) ::
(19,1,.inl (hALoad 1)) ::
(20,2,.inl (pu (gStore isI 4))) ::
(22,1,.inl (pu (gLoad Value.isRef 1))) ::
(23,2,.inl (pu (gLoad isI 4))) ::
(25,1,.inl (hALoad 2)) ::
(26,2,.inl (pu (gStore isD 5))) ::
(28,1,.inl (pu (gLoad Value.isRef 0))) ::
(29,3,.inl (hGet 6 3)) ::
(32,3,.inl (hGet 7 0)) ::
(35,1,.inl (pu (gLoad isI 3))) ::
(36,1,.inl (hALoad 1)) ::
(37,2,.inl (pu (gStore isI 7))) ::
(39,2,.inl (pu (gLoad isI 7))) ::
(41,1,.inl (pu (gLoad Value.isRef 0))) ::
(42,3,.inl (hGet 6 3)) ::
(45,3,.inl (hGet 7 0)) ::
(48,1,.inl (pu (gLoad isI 3))) ::
(49,1,.inl (pu (gPush (.int (Int32.ofInt 1))))) ::
(50,1,.inl (pu (gI2 tq 20))) ::
(51,1,.inl (hALoad 1)) ::
(52,3,.inl (pu (gIcmp .ge 89))) ::
(55,2,.inl (pu (gLoad isD 5))) ::
(57,1,.inl (pu (gLoad Value.isRef 0))) ::
(58,3,.inl (hGet 6 3)) ::
(61,3,.inl (hGet 7 2)) ::
(64,2,.inl (pu (gLoad isI 7))) ::
(66,1,.inl (hALoad 2)) ::
(67,1,.inl (pu (gLoad Value.isRef 1))) ::
(68,1,.inl (pu (gLoad Value.isRef 0))) ::
(69,3,.inl (hGet 6 3)) ::
(72,3,.inl (hGet 7 1)) ::
(75,2,.inl (pu (gLoad isI 7))) ::
(77,1,.inl (hALoad 1)) ::
(78,1,.inl (hALoad 2)) ::
(79,1,.inl (pu (gDD tp 2))) ::
(80,1,.inl (pu (gDD tp 1))) ::
(81,2,.inl (pu (gStore isD 5))) ::
(83,3,.inl (pu (gIinc 7 1))) ::
(86,3,.inl (pu (gGoto 39))) ::
(89,1,.inl (pu (gLoad Value.isRef 1))) ::
(90,2,.inl (pu (gLoad isI 4))) ::
(92,2,.inl (pu (gLoad isD 5))) ::
(94,1,.inl (pu (gLoad Value.isRef 0))) ::
(95,3,.inl (hGet 6 5)) ::
(98,1,.inl (pu (gLoad isI 3))) ::
(99,1,.inl (hALoad 2)) ::
(100,1,.inl (pu (gDD tp 3))) ::
(101,1,.inl (hAStore wt 2 (fun _ => isD))) ::
(102,3,.inl (pu (gIinc 3 (-1)))) ::
(105,3,.inl (pu (gGoto 10))) ::
(108,1,.inl (pu (gLoad Value.isRef 2))) ::
(109,1,.inl (pu (gPush (.double 0)))) ::
(110,3,.inl (hCall 34 2 (fun _ _ => true) rm_34 5 8 rm_33)) ::
(113,1,.inl (pu (gPush (.int (Int32.ofInt 0))))) ::
(114,1,.inl (pu (gStore isI 3))) ::
(115,1,.inl (pu (gLoad isI 3))) ::
(116,1,.inl (pu (gLoad Value.isRef 0))) ::
(117,3,.inl (hGet 6 12)) ::
(120,3,.inl (pu (gIcmp .ge 224))) ::
(123,1,.inl (pu (gLoad Value.isRef 1))) ::
(124,1,.inl (pu (gLoad Value.isRef 0))) ::
(125,3,.inl (hGet 6 10)) ::
(128,1,.inl (pu (gLoad isI 3))) ::
(129,1,.inl (hALoad 1)) ::
(130,1,.inl (hALoad 2)) ::
(131,1,.inl (pu (gLoad Value.isRef 0))) ::
(132,3,.inl (hGet 6 11)) ::
(135,1,.inl (pu (gLoad isI 3))) ::
(136,1,.inl (hALoad 2)) ::
(137,1,.inl (pu (gDD tp 3))) ::
(138,2,.inl (pu (gStore isD 4))) ::
(140,1,.inl (pu (gLoad Value.isRef 2))) ::
(141,1,.inl (pu (gLoad Value.isRef 0))) ::
(142,3,.inl (hGet 6 9)) ::
(145,1,.inl (pu (gLoad isI 3))) ::
(146,1,.inl (hALoad 1)) ::
(147,2,.inl (pu (gLoad isD 4))) ::
(149,1,.inl (hAStore wt 2 (fun _ => isD))) ::
(150,2,.inl (pu (gLoad isD 4))) ::
(152,1,.inl (pu (gPush (.double 0)))) ::
(153,1,.inl (pu (gDcmp tp))) ::
(154,3,.inl (pu (gIf tp .eq 218))) ::
(157,1,.inl (pu (gLoad Value.isRef 0))) ::
(158,3,.inl (hGet 6 1)) ::
(161,3,.inl (hGet 7 0)) ::
(164,1,.inl (pu (gLoad isI 3))) ::
(165,1,.inl (hALoad 1)) ::
(166,2,.inl (pu (gStore isI 6))) ::
(168,2,.inl (pu (gLoad isI 6))) ::
(170,1,.inl (pu (gLoad Value.isRef 0))) ::
(171,3,.inl (hGet 6 1)) ::
(174,3,.inl (hGet 7 0)) ::
(177,1,.inl (pu (gLoad isI 3))) ::
(178,1,.inl (pu (gPush (.int (Int32.ofInt 1))))) ::
(179,1,.inl (pu (gI2 tq 20))) ::
(180,1,.inl (hALoad 1)) ::
(181,3,.inl (pu (gIcmp .ge 218))) ::
(184,1,.inl (pu (gLoad Value.isRef 1))) ::
(185,1,.inl (pu (gLoad Value.isRef 0))) ::
(186,3,.inl (hGet 6 1)) ::
(189,3,.inl (hGet 7 1)) ::
(192,2,.inl (pu (gLoad isI 6))) ::
(194,1,.inl (hALoad 1)) ::
(195,1,.inl (pu (gDup2))) ::
(196,1,.inl (hALoad 2)) ::
(197,1,.inl (pu (gLoad Value.isRef 0))) ::
(198,3,.inl (hGet 6 1)) ::
(201,3,.inl (hGet 7 2)) ::
(204,2,.inl (pu (gLoad isI 6))) ::
(206,1,.inl (hALoad 2)) ::
(207,2,.inl (pu (gLoad isD 4))) ::
(209,1,.inl (pu (gDD tp 2))) ::
(210,1,.inl (pu (gDD tp 1))) ::
(211,1,.inl (hAStore wt 2 (fun _ => isD))) ::
(212,3,.inl (pu (gIinc 6 1))) ::
(215,3,.inl (pu (gGoto 168))) ::
(218,3,.inl (pu (gIinc 3 1))) ::
(221,3,.inl (pu (gGoto 115))) ::
(224,1,.inl (pu (gLoad Value.isRef 0))) ::
(225,3,.inl (hGet 6 12)) ::
(228,1,.inl (pu (gPush (.int (Int32.ofInt 1))))) ::
(229,1,.inl (pu (gI2 tq 21))) ::
(230,1,.inl (pu (gStore isI 3))) ::
(231,1,.inl (pu (gLoad isI 3))) ::
(232,3,.inl (pu (gIf tp .lt 318))) ::
(235,1,.inl (pu (gPush (.double 0)))) ::
(236,2,.inl (pu (gStore isD 4))) ::
(238,1,.inl (pu (gLoad Value.isRef 0))) ::
(239,3,.inl (hGet 6 0)) ::
(242,3,.inl (hGet 7 0)) ::
(245,1,.inl (pu (gLoad isI 3))) ::
(246,1,.inl (hALoad 1)) ::
(247,2,.inl (pu (gStore isI 6))) ::
(249,2,.inl (pu (gLoad isI 6))) ::
(251,1,.inl (pu (gLoad Value.isRef 0))) ::
(252,3,.inl (hGet 6 0)) ::
(255,3,.inl (hGet 7 0)) ::
(258,1,.inl (pu (gLoad isI 3))) ::
(259,1,.inl (pu (gPush (.int (Int32.ofInt 1))))) ::
(260,1,.inl (pu (gI2 tq 20))) ::
(261,1,.inl (hALoad 1)) ::
(262,3,.inl (pu (gIcmp .ge 299))) ::
(265,2,.inl (pu (gLoad isD 4))) ::
(267,1,.inl (pu (gLoad Value.isRef 0))) ::
(268,3,.inl (hGet 6 0)) ::
(271,3,.inl (hGet 7 2)) ::
(274,2,.inl (pu (gLoad isI 6))) ::
(276,1,.inl (hALoad 2)) ::
(277,1,.inl (pu (gLoad Value.isRef 2))) ::
(278,1,.inl (pu (gLoad Value.isRef 0))) ::
(279,3,.inl (hGet 6 0)) ::
(282,3,.inl (hGet 7 1)) ::
(285,2,.inl (pu (gLoad isI 6))) ::
(287,1,.inl (hALoad 1)) ::
(288,1,.inl (hALoad 2)) ::
(289,1,.inl (pu (gDD tp 2))) ::
(290,1,.inl (pu (gDD tp 0))) ::
(291,2,.inl (pu (gStore isD 4))) ::
(293,3,.inl (pu (gIinc 6 1))) ::
(296,3,.inl (pu (gGoto 249))) ::
(299,1,.inl (pu (gLoad Value.isRef 2))) ::
(300,1,.inl (pu (gLoad Value.isRef 0))) ::
(301,3,.inl (hGet 6 9)) ::
(304,1,.inl (pu (gLoad isI 3))) ::
(305,1,.inl (hALoad 1)) ::
(306,1,.inl (pu (gDup2))) ::
(307,1,.inl (hALoad 2)) ::
(308,2,.inl (pu (gLoad isD 4))) ::
(310,1,.inl (pu (gDD tp 1))) ::
(311,1,.inl (hAStore wt 2 (fun _ => isD))) ::
(312,3,.inl (pu (gIinc 3 (-1)))) ::
(315,3,.inl (pu (gGoto 231))) ::
(318,1,.inr rV) ::
 []
def pg_34 (tp : Tape) (tq : Tq) : List Ent :=
(0,1,.inl (pu (gPush (.int (Int32.ofInt 0))))) ::
(1,1,.inl (pu (gStore isI 3))) ::
(2,1,.inl (pu (gLoad Value.isRef 0))) ::
(3,1,.inl (hLen KK)) ::
(4,2,.inl (pu (gStore isI 4))) ::
(6,1,.inl (pu (gLoad isI 3))) ::
(7,2,.inl (pu (gLoad isI 4))) ::
(9,3,.inl (pu (gIcmp .ge 22))) ::
(12,1,.inl (pu (gLoad Value.isRef 0))) ::
(13,1,.inl (pu (gLoad isI 3))) ::
(14,1,.inl (pu (gLoad isD 1))) ::
(15,1,.inl (hAStore wt 2 (fun _ => isD))) ::
(16,3,.inl (pu (gIinc 3 1))) ::
(19,3,.inl (pu (gGoto 6))) ::
(22,1,.inr rV) ::
 []
def pg_35 (tp : Tape) (tq : Tq) : List Ent :=
(0,1,.inl (pu (gPush (.int (Int32.ofInt 0))))) ::
(1,2,.inl (pu (gStore isI 4))) ::
(3,2,.inl (pu (gLoad isI 4))) ::
(5,1,.inl (pu (gLoad Value.isRef 0))) ::
(6,3,.inl (hGet 8 3)) ::
(9,1,.inl (pu (gLoad isI 1))) ::
(10,1,.inl (hALoad 1)) ::
(11,3,.inl (pu (gIcmp .ge 38))) ::
(14,1,.inl (pu (gLoad Value.isRef 0))) ::
(15,3,.inl (hGet 8 11)) ::
(18,1,.inl (pu (gLoad Value.isRef 0))) ::
(19,3,.inl (hGet 8 1)) ::
(22,1,.inl (pu (gLoad isI 1))) ::
(23,1,.inl (hALoad 4)) ::
(24,2,.inl (pu (gLoad isI 4))) ::
(26,1,.inl (hALoad 1)) ::
(27,2,.inl (pu (gLoad isI 4))) ::
(29,1,.inl (pu (gPush (.int (Int32.ofInt 1))))) ::
(30,1,.inl (pu (gI2 tq 20))) ::
(31,1,.inl (hAStore wt 1 (fun _ => isI))) ::
(32,3,.inl (pu (gIinc 4 1))) ::
(35,3,.inl (pu (gGoto 3))) ::
(38,1,.inl (pu (gPush (.int (Int32.ofInt 0))))) ::
(39,2,.inl (pu (gStore isI 4))) ::
(41,2,.inl (pu (gLoad isI 4))) ::
(43,1,.inl (pu (gLoad Value.isRef 0))) ::
(44,3,.inl (hGet 8 3)) ::
(47,1,.inl (pu (gLoad Value.isRef 0))) ::
(48,3,.inl (hGet 8 12)) ::
(51,1,.inl (hALoad 1)) ::
(52,3,.inl (pu (gIcmp .ge 167))) ::
(55,1,.inl (pu (gLoad Value.isRef 0))) ::
(56,3,.inl (hGet 8 1)) ::
(59,1,.inl (pu (gLoad Value.isRef 0))) ::
(60,3,.inl (hGet 8 12)) ::
(63,1,.inl (hALoad 4)) ::
(64,2,.inl (pu (gLoad isI 4))) ::
(66,1,.inl (hALoad 1)) ::
(67,2,.inl (pu (gStore isI 5))) ::
(69,2,.inl (pu (gLoad isI 5))) ::
(71,1,.inl (pu (gLoad Value.isRef 0))) ::
(72,3,.inl (hGet 8 13)) ::
(75,3,.inl (pu (gIcmp .ne 81))) ::
(78,3,.inl (pu (gGoto 161))) ::
(81,1,.inl (pu (gLoad isD 2))) ::
(82,1,.inl (pu (gDneg2 tp))) ::
(83,1,.inl (pu (gLoad Value.isRef 0))) ::
(84,3,.inl (hGet 8 2)) ::
(87,1,.inl (pu (gLoad Value.isRef 0))) ::
(88,3,.inl (hGet 8 12)) ::
(91,1,.inl (hALoad 5)) ::
(92,2,.inl (pu (gLoad isI 4))) ::
(94,1,.inl (hALoad 2)) ::
(95,1,.inl (pu (gDD tp 2))) ::
(96,2,.inl (pu (gStore isD 6))) ::
(98,1,.inl (pu (gLoad Value.isRef 0))) ::
(99,3,.inl (hGet 8 11)) ::
(102,2,.inl (pu (gLoad isI 5))) ::
(104,1,.inl (hALoad 1)) ::
(105,3,.inl (pu (gIf tp .le 132))) ::
(108,1,.inl (pu (gLoad Value.isRef 0))) ::
(109,3,.inl (hGet 8 2)) ::
(112,1,.inl (pu (gLoad isI 1))) ::
(113,1,.inl (hALoad 5)) ::
(114,1,.inl (pu (gLoad Value.isRef 0))) ::
(115,3,.inl (hGet 8 11)) ::
(118,2,.inl (pu (gLoad isI 5))) ::
(120,1,.inl (hALoad 1)) ::
(121,1,.inl (pu (gPush (.int (Int32.ofInt 1))))) ::
(122,1,.inl (pu (gI2 tq 21))) ::
(123,1,.inl (pu (gDup2))) ::
(124,1,.inl (hALoad 2)) ::
(125,2,.inl (pu (gLoad isD 6))) ::
(127,1,.inl (pu (gDD tp 0))) ::
(128,1,.inl (hAStore wt 2 (fun _ => isD))) ::
(129,3,.inl (pu (gGoto 161))) ::
(161,3,.inl (pu (gIinc 4 1))) ::
(164,3,.inl (pu (gGoto 41))) ::
(167,1,.inl (pu (gLoad Value.isRef 0))) ::
(168,3,.inl (hGet 8 11)) ::
(171,1,.inl (pu (gLoad Value.isRef 0))) ::
(172,3,.inl (hGet 8 13)) ::
(175,1,.inl (hALoad 1)) ::
(176,1,.inl (pu (gPush (.int (Int32.ofInt 1))))) ::
(177,1,.inl (pu (gI2 tq 21))) ::
(178,2,.inl (pu (gStore isI 4))) ::
(180,1,.inl (pu (gPush (.int (Int32.ofInt 0))))) ::
(181,2,.inl (pu (gStore isI 5))) ::
(183,2,.inl (pu (gLoad isI 5))) ::
(185,1,.inl (pu (gLoad Value.isRef 0))) ::
(186,3,.inl (hGet 8 3)) ::
(189,1,.inl (pu (gLoad isI 1))) ::
(190,1,.inl (hALoad 1)) ::
(191,3,.inl (pu (gIcmp .ge 215))) ::
(194,1,.inl (pu (gLoad Value.isRef 0))) ::
(195,3,.inl (hGet 8 11)) ::
(198,1,.inl (pu (gLoad Value.isRef 0))) ::
(199,3,.inl (hGet 8 1)) ::
(202,1,.inl (pu (gLoad isI 1))) ::
(203,1,.inl (hALoad 4)) ::
(204,2,.inl (pu (gLoad isI 5))) ::
(206,1,.inl (hALoad 1)) ::
(207,1,.inl (pu (gPush (.int (Int32.ofInt 0))))) ::
(208,1,.inl (hAStore wt 1 (fun _ => isI))) ::
(209,3,.inl (pu (gIinc 5 1))) ::
(212,3,.inl (pu (gGoto 183))) ::
(215,1,.inl (pu (gLoad Value.isRef 0))) ::
(216,3,.inl (hGet 8 3)) ::
(219,1,.inl (pu (gLoad isI 1))) ::
(220,1,.inl (hALoad 1)) ::
(221,1,.inl (pu (gPush (.int (Int32.ofInt 1))))) ::
(222,1,.inl (pu (gI2 tq 21))) ::
(223,2,.inl (pu (gStore isI 5))) ::
(225,1,.inl (pu (gLoad Value.isRef 0))) ::
(226,3,.inl (hGet 8 1)) ::
(229,1,.inl (pu (gLoad isI 1))) ::
(230,1,.inl (hALoad 4)) ::
(231,2,.inl (pu (gLoad isI 4))) ::
(233,1,.inl (pu (gLoad Value.isRef 0))) ::
(234,3,.inl (hGet 8 1)) ::
(237,1,.inl (pu (gLoad isI 1))) ::
(238,1,.inl (hALoad 4)) ::
(239,2,.inl (pu (gLoad isI 5))) ::
(241,1,.inl (hALoad 1)) ::
(242,1,.inl (hAStore wt 1 (fun _ => isI))) ::
(243,1,.inl (pu (gLoad Value.isRef 0))) ::
(244,3,.inl (hGet 8 2)) ::
(247,1,.inl (pu (gLoad isI 1))) ::
(248,1,.inl (hALoad 5)) ::
(249,2,.inl (pu (gLoad isI 4))) ::
(251,1,.inl (pu (gLoad Value.isRef 0))) ::
(252,3,.inl (hGet 8 2)) ::
(255,1,.inl (pu (gLoad isI 1))) ::
(256,1,.inl (hALoad 5)) ::
(257,2,.inl (pu (gLoad isI 5))) ::
(259,1,.inl (hALoad 2)) ::
(260,1,.inl (hAStore wt 2 (fun _ => isD))) ::
(261,1,.inl (pu (gLoad Value.isRef 0))) ::
(262,3,.inl (hGet 8 3)) ::
(265,1,.inl (pu (gLoad isI 1))) ::
(266,2,.inl (pu (gLoad isI 5))) ::
(268,1,.inl (hAStore wt 1 (fun _ => isI))) ::
(269,1,.inl (pu (gLoad Value.isRef 0))) ::
(270,3,.inl (hGet 8 9)) ::
(273,1,.inl (pu (gLoad isI 1))) ::
(274,2,.inl (pu (gLoad isI 5))) ::
(276,3,.inl (hCall 25 3 (chkI 9) rm_25 3 8 rm_35)) ::
(279,1,.inr rV) ::
 []
def prg (tp : Tape) (tq : Tq) : Nat → List Ent := fun i => match i with
  | 2 => pg_2 tp tq
  | 3 => pg_3 tp tq
  | 4 => pg_4 tp tq
  | 6 => pg_6 tp tq
  | 7 => pg_7 tp tq
  | 8 => pg_8 tp tq
  | 9 => pg_9 tp tq
  | 10 => pg_10 tp tq
  | 11 => pg_11 tp tq
  | 12 => pg_12 tp tq
  | 13 => pg_13 tp tq
  | 14 => pg_14 tp tq
  | 15 => pg_15 tp tq
  | 16 => pg_16 tp tq
  | 17 => pg_17 tp tq
  | 20 => pg_20 tp tq
  | 21 => pg_21 tp tq
  | 22 => pg_22 tp tq
  | 23 => pg_23 tp tq
  | 24 => pg_24 tp tq
  | 25 => pg_25 tp tq
  | 26 => pg_26 tp tq
  | 27 => pg_27 tp tq
  | 30 => pg_30 tp tq
  | 31 => pg_31 tp tq
  | 32 => pg_32 tp tq
  | 33 => pg_33 tp tq
  | 34 => pg_34 tp tq
  | 35 => pg_35 tp tq
  | _ => []
def cal (tp : Tape) (tq : Tq) : Caller := runM (prg tp tq) (fun i => (MT i).2.2.1) (fun i => (MT i).2.2.2.2) 3000 8
set_option maxRecDepth 65536 in
set_option maxHeartbeats 4000000 in
theorem okp_0 {l : Launch} {Z : State} {a0 : Array Value} {A : Den} {bs : Nat} {tp : Tape} {tq : Tq} {call : Caller} (hw : ∀ d ∈ tables_1, d.before a0 Z = true) (hA : AdOk A 0 bs) (hT : TpOk A tp) (hU : TaOk A tp) (hQ : TqOk A tq) (hC : CallOk l KK A Z 0 bs wt (fun i => (MT i).1) (fun i => (MT i).2.1) (fun i => (MT i).2.2.1) (fun i => (MT i).2.2.2.1) (fun i => (MT i).2.2.2.2) call) : ∀ x ∈ pg_0 tp tq, OkE l KK A Z 0 bs wt "com/example/foreshock/foreshock/planning/BasisFactorizationSolveTransposedPinLaw" code maxLocals (ret) "law" room_1 call x := by
  unfold pg_0
  exact
    allC (ok_iloadN (k := 0) (by decide +kernel)) <|
    allC (ok_ent hA hQ (own_entM hw) (tW hw 0 rfl) (tW hw 1 rfl) (tW hw 2 rfl) (tW hw 3 rfl) (by decide) pd_1 rfl (by decide +kernel)) <|
    allC (ok_istore (by decide +kernel)) <|
    allC (ok_iloadN (k := 0) (by decide +kernel)) <|
    allC (ok_iconst (by decide +kernel)) <|
    allC (ok_iushr2 hQ (by decide +kernel)) <|
    allC (ok_ent hA hQ (own_entM hw) (tW hw 0 rfl) (tW hw 1 rfl) (tW hw 2 rfl) (tW hw 3 rfl) (by decide) pd_1 rfl (by decide +kernel)) <|
    allC (ok_istore (by decide +kernel)) <|
    allC (ok_iloadN (k := 0) (by decide +kernel)) <|
    allC (ok_iconst (by decide +kernel)) <|
    allC (ok_iushr2 hQ (by decide +kernel)) <|
    allC (ok_ent hA hQ (own_entM hw) (tW hw 0 rfl) (tW hw 1 rfl) (tW hw 2 rfl) (tW hw 3 rfl) (by decide) pd_1 rfl (by decide +kernel)) <|
    allC (ok_istore (by decide +kernel)) <|
    allC (ok_iloadN (k := 0) (by decide +kernel)) <|
    allC (ok_bipush (by decide +kernel)) <|
    allC (ok_iushr2 hQ (by decide +kernel)) <|
    allC (ok_ent hA hQ (own_entM hw) (tW hw 0 rfl) (tW hw 1 rfl) (tW hw 2 rfl) (tW hw 3 rfl) (by decide) pd_1 rfl (by decide +kernel)) <|
    allC (ok_istore (by decide +kernel)) <|
    allC (ok_iload (by decide +kernel)) <|
    allC (ok_iload (by decide +kernel)) <|
    allC (ok_imul2 hQ (by decide +kernel)) <|
    allC (ok_iload (by decide +kernel)) <|
    allC (ok_iload (by decide +kernel)) <|
    allC (ok_imul2 hQ (by decide +kernel)) <|
    allC (ok_isub2 hQ (by decide +kernel)) <|
    allC (ok_if (o := 5) hT (by decide +kernel) (by decide) (by decide)) <|
    allC (ok_iconst (by decide +kernel)) <|
    allC (ok_rZ rfl (by decide +kernel)) <|
    allC (ok_iloadN (k := 0) (by decide +kernel)) <|
    allC (ok_bipush (by decide +kernel)) <|
    allC (ok_iushr2 hQ (by decide +kernel)) <|
    allC (ok_iconst (by decide +kernel)) <|
    allC (ok_iand2 hQ (by decide +kernel)) <|
    allC (ok_if (o := 7) hT (by decide +kernel) (by decide) (by decide)) <|
    allC (ok_iconst (by decide +kernel)) <|
    allC (ok_goto (o := 4) (by decide +kernel) (by decide) (by decide)) <|
    allC (ok_iconst (by decide +kernel)) <|
    allC (ok_istore (by decide +kernel)) <|
    allC (ok_iloadN (k := 0) (by decide +kernel)) <|
    allC (ok_bipush (by decide +kernel)) <|
    allC (ok_iushr2 hQ (by decide +kernel)) <|
    allC (ok_iconst (by decide +kernel)) <|
    allC (ok_iand2 hQ (by decide +kernel)) <|
    allC (ok_if (o := 7) hT (by decide +kernel) (by decide) (by decide)) <|
    allC (ok_iconst (by decide +kernel)) <|
    allC (ok_goto (o := 4) (by decide +kernel) (by decide) (by decide)) <|
    allC (ok_iconst (by decide +kernel)) <|
    allC (ok_istore (by decide +kernel)) <|
    allC (ok_iconst (by decide +kernel)) <|
    allC (ok_anewA hA k_4 (by decide) (tW hw 4 rfl) (tW hw 5 rfl) (by decide) (by decide +kernel)) <|
    allC (ok_dup (by decide +kernel)) <|
    allC (ok_iconst (by decide +kernel)) <|
    allC (ok_iload (by decide +kernel)) <|
    allC (ok_iload (by decide +kernel)) <|
    allC (ok_iload (by decide +kernel)) <|
    allC (cS hA hC mt_2 (tW hw 6 rfl) (tW hw 7 rfl) (tW hw 2 rfl) (tW hw 8 rfl) (by decide) pd_2 rfl (by decide +kernel)) <|
    allC (ok_aastore hA k_4 k_1 (by decide) (by decide) (tW hw 5 rfl) (by decide +kernel)) <|
    allC (ok_dup (by decide +kernel)) <|
    allC (ok_iconst (by decide +kernel)) <|
    allC (ok_iload (by decide +kernel)) <|
    allC (ok_iload (by decide +kernel)) <|
    allC (ok_iload (by decide +kernel)) <|
    allC (cS hA hC mt_2 (tW hw 6 rfl) (tW hw 7 rfl) (tW hw 2 rfl) (tW hw 8 rfl) (by decide) pd_2 rfl (by decide +kernel)) <|
    allC (ok_aastore hA k_4 k_1 (by decide) (by decide) (tW hw 5 rfl) (by decide +kernel)) <|
    allC (ok_astore (by decide +kernel)) <|
    allC (ok_iconst (by decide +kernel)) <|
    allC (ok_anewA hA k_5 (by decide) (tW hw 11 rfl) (tW hw 12 rfl) (by decide) (by decide +kernel)) <|
    allC (ok_dup (by decide +kernel)) <|
    allC (ok_iconst (by decide +kernel)) <|
    allC (ok_iload (by decide +kernel)) <|
    allC (ok_iload (by decide +kernel)) <|
    allC (ok_iload (by decide +kernel)) <|
    allC (cS hA hC mt_3 (tW hw 13 rfl) (tW hw 14 rfl) (tW hw 2 rfl) (tW hw 15 rfl) (by decide) pd_3 rfl (by decide +kernel)) <|
    allC (ok_aastore hA k_5 k_2 (by decide) (by decide) (tW hw 12 rfl) (by decide +kernel)) <|
    allC (ok_dup (by decide +kernel)) <|
    allC (ok_iconst (by decide +kernel)) <|
    allC (ok_iload (by decide +kernel)) <|
    allC (ok_iload (by decide +kernel)) <|
    allC (ok_iload (by decide +kernel)) <|
    allC (cS hA hC mt_3 (tW hw 13 rfl) (tW hw 14 rfl) (tW hw 2 rfl) (tW hw 15 rfl) (by decide) pd_3 rfl (by decide +kernel)) <|
    allC (ok_aastore hA k_5 k_2 (by decide) (by decide) (tW hw 12 rfl) (by decide +kernel)) <|
    allC (ok_astore (by decide +kernel)) <|
    allC (ok_iconst (by decide +kernel)) <|
    allC (ok_newA (aty := .int) (dv' := .int 0) hA k_1 (tW hw 9 rfl) (by decide) rfl rfl rfl (by decide +kernel)) <|
    allC (ok_dup (by decide +kernel)) <|
    allC (ok_iconst (by decide +kernel)) <|
    allC (ok_iload (by decide +kernel)) <|
    allC (ok_iastore hA k_1 (by decide +kernel)) <|
    allC (ok_dup (by decide +kernel)) <|
    allC (ok_iconst (by decide +kernel)) <|
    allC (ok_iload (by decide +kernel)) <|
    allC (ok_iastore hA k_1 (by decide +kernel)) <|
    allC (ok_dup (by decide +kernel)) <|
    allC (ok_iconst (by decide +kernel)) <|
    allC (ok_iload (by decide +kernel)) <|
    allC (ok_iastore hA k_1 (by decide +kernel)) <|
    allC (ok_dup (by decide +kernel)) <|
    allC (ok_iconst (by decide +kernel)) <|
    allC (ok_iload (by decide +kernel)) <|
    allC (ok_iastore hA k_1 (by decide +kernel)) <|
    allC (ok_astore (by decide +kernel)) <|
    allC (ok_iconst (by decide +kernel)) <|
    allC (ok_newA (aty := .double) (dv' := .double 0) hA k_2 (tW hw 16 rfl) (by decide) rfl rfl (congrArg Value.double (hT.1 0 rfl).symm) (by decide +kernel)) <|
    allC (ok_astore (by decide +kernel)) <|
    allC (ok_iconst (by decide +kernel)) <|
    allC (ok_newA (aty := .double) (dv' := .double 0) hA k_2 (tW hw 16 rfl) (by decide) rfl rfl (congrArg Value.double (hT.1 0 rfl).symm) (by decide +kernel)) <|
    allC (ok_astore (by decide +kernel)) <|
    allC (ok_iconst (by decide +kernel)) <|
    allC (ok_newA (aty := .double) (dv' := .double 0) hA k_2 (tW hw 16 rfl) (by decide) rfl rfl (congrArg Value.double (hT.1 0 rfl).symm) (by decide +kernel)) <|
    allC (ok_dup (by decide +kernel)) <|
    allC (ok_iconst (by decide +kernel)) <|
    allC (ok_iloadN (k := 2) (by decide +kernel)) <|
    allC (ok_i2d hT (by decide +kernel)) <|
    allC (ok_dastore hA k_2 (by decide +kernel)) <|
    allC (ok_dup (by decide +kernel)) <|
    allC (ok_iconst (by decide +kernel)) <|
    allC (ok_iloadN (k := 3) (by decide +kernel)) <|
    allC (ok_i2d hT (by decide +kernel)) <|
    allC (ok_dastore hA k_2 (by decide +kernel)) <|
    allC (ok_astore (by decide +kernel)) <|
    allC (ok_iconst (by decide +kernel)) <|
    allC (ok_newA (aty := .double) (dv' := .double 0) hA k_2 (tW hw 16 rfl) (by decide) rfl rfl (congrArg Value.double (hT.1 0 rfl).symm) (by decide +kernel)) <|
    allC (ok_astore (by decide +kernel)) <|
    allC (ok_new hA k_6 (ko_6 hw) (tW hw 18 rfl) (by decide +kernel)) <|
    allC (ok_dup (by decide +kernel)) <|
    allC (ok_iconst (by decide +kernel)) <|
    allC (cI hA hC mt_4 rfl (tW hw 21 rfl) (tW hw 22 rfl) (tW hw 20 rfl) (tW hw 23 rfl) (by decide) pd_4 rfl (by decide +kernel)) <|
    allC (ok_astore (by decide +kernel)) <|
    allC (ok_aload (by decide +kernel)) <|
    allC (ok_aload (by decide +kernel)) <|
    allC (ok_aload (by decide +kernel)) <|
    allC (cV hA hC k_6 (by decide) mt_7 (tW hw 64 rfl) (tW hw 65 rfl) (tW hw 67 rfl) (tW hw 66 rfl) (tW hw 20 rfl) (tW hw 68 rfl) (by decide) pd_5 rfl (by decide +kernel)) <|
    allC (ok_pop (by decide +kernel)) <|
    allC (ok_iloadN (k := 1) (by decide +kernel)) <|
    allC (ok_iconst (by decide +kernel)) <|
    allC (ok_iand2 hQ (by decide +kernel)) <|
    allC (ok_istore (by decide +kernel)) <|
    allC (ok_iload (by decide +kernel)) <|
    allC (ok_iconst (by decide +kernel)) <|
    allC (ok_icmp (o := 15) (by decide +kernel) (by decide) (by decide)) <|
    allC (ok_aload (by decide +kernel)) <|
    allC (ok_aload (by decide +kernel)) <|
    allC (ok_iloadN (k := 1) (by decide +kernel)) <|
    allC (ok_iconst (by decide +kernel)) <|
    allC (ok_iushr2 hQ (by decide +kernel)) <|
    allC (ok_aload (by decide +kernel)) <|
    allC (cS hA hC mt_31 (tW hw 250 rfl) (tW hw 251 rfl) (tW hw 2 rfl) (tW hw 252 rfl) (by decide) pd_6 rfl (by decide +kernel)) <|
    allC (ok_iload (by decide +kernel)) <|
    allC (ok_iconst (by decide +kernel)) <|
    allC (ok_icmp (o := 16) (by decide +kernel) (by decide) (by decide)) <|
    allC (ok_aload (by decide +kernel)) <|
    allC (ok_aload (by decide +kernel)) <|
    allC (ok_iloadN (k := 1) (by decide +kernel)) <|
    allC (ok_bipush (by decide +kernel)) <|
    allC (ok_iushr2 hQ (by decide +kernel)) <|
    allC (ok_aload (by decide +kernel)) <|
    allC (cS hA hC mt_31 (tW hw 250 rfl) (tW hw 251 rfl) (tW hw 2 rfl) (tW hw 252 rfl) (by decide) pd_6 rfl (by decide +kernel)) <|
    allC (ok_aload (by decide +kernel)) <|
    allC (ok_aload (by decide +kernel)) <|
    allC (ok_aload (by decide +kernel)) <|
    allC (cV hA hC k_6 (by decide) mt_33 (tW hw 261 rfl) (tW hw 262 rfl) (tW hw 264 rfl) (tW hw 263 rfl) (tW hw 20 rfl) (tW hw 265 rfl) (by decide) pd_7 rfl (by decide +kernel)) <|
    allC (ok_aload (by decide +kernel)) <|
    allC (ok_iconst (by decide +kernel)) <|
    allC (ok_iaload k_1 (by decide +kernel)) <|
    allC (ok_i2d hT (by decide +kernel)) <|
    allC (ok_aload (by decide +kernel)) <|
    allC (ok_iconst (by decide +kernel)) <|
    allC (ok_daload k_2 (by decide +kernel)) <|
    allC (ok_dmul hT (by decide +kernel)) <|
    allC (ok_aload (by decide +kernel)) <|
    allC (ok_iconst (by decide +kernel)) <|
    allC (ok_iaload k_1 (by decide +kernel)) <|
    allC (ok_i2d hT (by decide +kernel)) <|
    allC (ok_aload (by decide +kernel)) <|
    allC (ok_iconst (by decide +kernel)) <|
    allC (ok_daload k_2 (by decide +kernel)) <|
    allC (ok_dmul hT (by decide +kernel)) <|
    allC (ok_dadd hT (by decide +kernel)) <|
    allC (ok_iloadN (k := 2) (by decide +kernel)) <|
    allC (ok_i2d hT (by decide +kernel)) <|
    allC (ok_dcmp hT (by decide +kernel)) <|
    allC (ok_if (o := 7) hT (by decide +kernel) (by decide) (by decide)) <|
    allC (ok_iconst (by decide +kernel)) <|
    allC (ok_goto (o := 4) (by decide +kernel) (by decide) (by decide)) <|
    allC (ok_istore (by decide +kernel)) <|
    allC (ok_aload (by decide +kernel)) <|
    allC (ok_iconst (by decide +kernel)) <|
    allC (ok_iaload k_1 (by decide +kernel)) <|
    allC (ok_i2d hT (by decide +kernel)) <|
    allC (ok_aload (by decide +kernel)) <|
    allC (ok_iconst (by decide +kernel)) <|
    allC (ok_daload k_2 (by decide +kernel)) <|
    allC (ok_dmul hT (by decide +kernel)) <|
    allC (ok_aload (by decide +kernel)) <|
    allC (ok_iconst (by decide +kernel)) <|
    allC (ok_iaload k_1 (by decide +kernel)) <|
    allC (ok_i2d hT (by decide +kernel)) <|
    allC (ok_aload (by decide +kernel)) <|
    allC (ok_iconst (by decide +kernel)) <|
    allC (ok_daload k_2 (by decide +kernel)) <|
    allC (ok_dmul hT (by decide +kernel)) <|
    allC (ok_dadd hT (by decide +kernel)) <|
    allC (ok_iloadN (k := 3) (by decide +kernel)) <|
    allC (ok_i2d hT (by decide +kernel)) <|
    allC (ok_dcmp hT (by decide +kernel)) <|
    allC (ok_if (o := 7) hT (by decide +kernel) (by decide) (by decide)) <|
    allC (ok_iconst (by decide +kernel)) <|
    allC (ok_goto (o := 4) (by decide +kernel) (by decide) (by decide)) <|
    allC (ok_istore (by decide +kernel)) <|
    allC (ok_iload (by decide +kernel)) <|
    allC (ok_if (o := 12) hT (by decide +kernel) (by decide) (by decide)) <|
    allC (ok_iload (by decide +kernel)) <|
    allC (ok_if (o := 7) hT (by decide +kernel) (by decide) (by decide)) <|
    allC (ok_iconst (by decide +kernel)) <|
    allC (ok_goto (o := 4) (by decide +kernel) (by decide) (by decide)) <|
    allC (ok_rZ rfl (by decide +kernel)) <|
    allN
set_option maxRecDepth 65536 in
set_option maxHeartbeats 4000000 in
theorem okp_2 {l : Launch} {Z : State} {a0 : Array Value} {A : Den} {bs : Nat} {tp : Tape} {tq : Tq} {call : Caller} (hw : ∀ d ∈ tables_1, d.before a0 Z = true) (hA : AdOk A 0 bs) (hT : TpOk A tp) (hU : TaOk A tp) (hQ : TqOk A tq) (hC : CallOk l KK A Z 0 bs wt (fun i => (MT i).1) (fun i => (MT i).2.1) (fun i => (MT i).2.2.1) (fun i => (MT i).2.2.2.1) (fun i => (MT i).2.2.2.2) call) : ∀ x ∈ pg_2 tp tq, OkE l KK A Z 0 bs wt "com/example/foreshock/foreshock/planning/BasisFactorizationSolveTransposedPinLaw" method_3_code 3 ((Option.some (FieldType.array FieldType.int))) "rowsOf" rm_2 call x := by
  unfold pg_2
  exact
    allC (ok_iloadN (k := 0) (by decide +kernel)) <|
    allC (ok_if (o := 37) hT (by decide +kernel) (by decide) (by decide)) <|
    allC (ok_iloadN (k := 1) (by decide +kernel)) <|
    allC (ok_if (o := 33) hT (by decide +kernel) (by decide) (by decide)) <|
    allC (ok_iloadN (k := 2) (by decide +kernel)) <|
    allC (ok_if (o := 17) hT (by decide +kernel) (by decide) (by decide)) <|
    allC (ok_iconst (by decide +kernel)) <|
    allC (ok_newA (aty := .int) (dv' := .int 0) hA k_1 (tW hw 9 rfl) (by decide) rfl rfl rfl (by decide +kernel)) <|
    allC (ok_dup (by decide +kernel)) <|
    allC (ok_iconst (by decide +kernel)) <|
    allC (ok_iconst (by decide +kernel)) <|
    allC (ok_iastore hA k_1 (by decide +kernel)) <|
    allC (ok_dup (by decide +kernel)) <|
    allC (ok_iconst (by decide +kernel)) <|
    allC (ok_iconst (by decide +kernel)) <|
    allC (ok_iastore hA k_1 (by decide +kernel)) <|
    allC (ok_goto (o := 14) (by decide +kernel) (by decide) (by decide)) <|
    allC (ok_iconst (by decide +kernel)) <|
    allC (ok_newA (aty := .int) (dv' := .int 0) hA k_1 (tW hw 9 rfl) (by decide) rfl rfl rfl (by decide +kernel)) <|
    allC (ok_dup (by decide +kernel)) <|
    allC (ok_iconst (by decide +kernel)) <|
    allC (ok_iconst (by decide +kernel)) <|
    allC (ok_iastore hA k_1 (by decide +kernel)) <|
    allC (ok_dup (by decide +kernel)) <|
    allC (ok_iconst (by decide +kernel)) <|
    allC (ok_iconst (by decide +kernel)) <|
    allC (ok_iastore hA k_1 (by decide +kernel)) <|
    allC (ok_rA rfl rfl (by decide +kernel)) <|
    allC (ok_iloadN (k := 0) (by decide +kernel)) <|
    allC (ok_if (o := 11) hT (by decide +kernel) (by decide) (by decide)) <|
    allC (ok_iconst (by decide +kernel)) <|
    allC (ok_newA (aty := .int) (dv' := .int 0) hA k_1 (tW hw 9 rfl) (by decide) rfl rfl rfl (by decide +kernel)) <|
    allC (ok_dup (by decide +kernel)) <|
    allC (ok_iconst (by decide +kernel)) <|
    allC (ok_iconst (by decide +kernel)) <|
    allC (ok_iastore hA k_1 (by decide +kernel)) <|
    allC (ok_rA rfl rfl (by decide +kernel)) <|
    allC (ok_iloadN (k := 1) (by decide +kernel)) <|
    allC (ok_if (o := 11) hT (by decide +kernel) (by decide) (by decide)) <|
    allC (ok_iconst (by decide +kernel)) <|
    allC (ok_newA (aty := .int) (dv' := .int 0) hA k_1 (tW hw 9 rfl) (by decide) rfl rfl rfl (by decide +kernel)) <|
    allC (ok_dup (by decide +kernel)) <|
    allC (ok_iconst (by decide +kernel)) <|
    allC (ok_iconst (by decide +kernel)) <|
    allC (ok_iastore hA k_1 (by decide +kernel)) <|
    allC (ok_rA rfl rfl (by decide +kernel)) <|
    allN
set_option maxRecDepth 65536 in
set_option maxHeartbeats 4000000 in
theorem okp_3 {l : Launch} {Z : State} {a0 : Array Value} {A : Den} {bs : Nat} {tp : Tape} {tq : Tq} {call : Caller} (hw : ∀ d ∈ tables_1, d.before a0 Z = true) (hA : AdOk A 0 bs) (hT : TpOk A tp) (hU : TaOk A tp) (hQ : TqOk A tq) (hC : CallOk l KK A Z 0 bs wt (fun i => (MT i).1) (fun i => (MT i).2.1) (fun i => (MT i).2.2.1) (fun i => (MT i).2.2.2.1) (fun i => (MT i).2.2.2.2) call) : ∀ x ∈ pg_3 tp tq, OkE l KK A Z 0 bs wt "com/example/foreshock/foreshock/planning/BasisFactorizationSolveTransposedPinLaw" method_4_code 3 ((Option.some (FieldType.array FieldType.double))) "valuesOf" rm_3 call x := by
  unfold pg_3
  exact
    allC (ok_iloadN (k := 0) (by decide +kernel)) <|
    allC (ok_if (o := 41) hT (by decide +kernel) (by decide) (by decide)) <|
    allC (ok_iloadN (k := 1) (by decide +kernel)) <|
    allC (ok_if (o := 37) hT (by decide +kernel) (by decide) (by decide)) <|
    allC (ok_iloadN (k := 2) (by decide +kernel)) <|
    allC (ok_if (o := 19) hT (by decide +kernel) (by decide) (by decide)) <|
    allC (ok_iconst (by decide +kernel)) <|
    allC (ok_newA (aty := .double) (dv' := .double 0) hA k_2 (tW hw 16 rfl) (by decide) rfl rfl (congrArg Value.double (hT.1 0 rfl).symm) (by decide +kernel)) <|
    allC (ok_dup (by decide +kernel)) <|
    allC (ok_iconst (by decide +kernel)) <|
    allC (ok_iloadN (k := 1) (by decide +kernel)) <|
    allC (ok_i2d hT (by decide +kernel)) <|
    allC (ok_dastore hA k_2 (by decide +kernel)) <|
    allC (ok_dup (by decide +kernel)) <|
    allC (ok_iconst (by decide +kernel)) <|
    allC (ok_iloadN (k := 0) (by decide +kernel)) <|
    allC (ok_i2d hT (by decide +kernel)) <|
    allC (ok_dastore hA k_2 (by decide +kernel)) <|
    allC (ok_goto (o := 16) (by decide +kernel) (by decide) (by decide)) <|
    allC (ok_iconst (by decide +kernel)) <|
    allC (ok_newA (aty := .double) (dv' := .double 0) hA k_2 (tW hw 16 rfl) (by decide) rfl rfl (congrArg Value.double (hT.1 0 rfl).symm) (by decide +kernel)) <|
    allC (ok_dup (by decide +kernel)) <|
    allC (ok_iconst (by decide +kernel)) <|
    allC (ok_iloadN (k := 0) (by decide +kernel)) <|
    allC (ok_i2d hT (by decide +kernel)) <|
    allC (ok_dastore hA k_2 (by decide +kernel)) <|
    allC (ok_dup (by decide +kernel)) <|
    allC (ok_iconst (by decide +kernel)) <|
    allC (ok_iloadN (k := 1) (by decide +kernel)) <|
    allC (ok_i2d hT (by decide +kernel)) <|
    allC (ok_dastore hA k_2 (by decide +kernel)) <|
    allC (ok_rA rfl rfl (by decide +kernel)) <|
    allC (ok_iloadN (k := 0) (by decide +kernel)) <|
    allC (ok_if (o := 12) hT (by decide +kernel) (by decide) (by decide)) <|
    allC (ok_iconst (by decide +kernel)) <|
    allC (ok_newA (aty := .double) (dv' := .double 0) hA k_2 (tW hw 16 rfl) (by decide) rfl rfl (congrArg Value.double (hT.1 0 rfl).symm) (by decide +kernel)) <|
    allC (ok_dup (by decide +kernel)) <|
    allC (ok_iconst (by decide +kernel)) <|
    allC (ok_iloadN (k := 0) (by decide +kernel)) <|
    allC (ok_i2d hT (by decide +kernel)) <|
    allC (ok_dastore hA k_2 (by decide +kernel)) <|
    allC (ok_rA rfl rfl (by decide +kernel)) <|
    allC (ok_iloadN (k := 1) (by decide +kernel)) <|
    allC (ok_if (o := 12) hT (by decide +kernel) (by decide) (by decide)) <|
    allC (ok_iconst (by decide +kernel)) <|
    allC (ok_newA (aty := .double) (dv' := .double 0) hA k_2 (tW hw 16 rfl) (by decide) rfl rfl (congrArg Value.double (hT.1 0 rfl).symm) (by decide +kernel)) <|
    allC (ok_dup (by decide +kernel)) <|
    allC (ok_iconst (by decide +kernel)) <|
    allC (ok_iloadN (k := 1) (by decide +kernel)) <|
    allC (ok_i2d hT (by decide +kernel)) <|
    allC (ok_dastore hA k_2 (by decide +kernel)) <|
    allC (ok_rA rfl rfl (by decide +kernel)) <|
    allN
set_option maxRecDepth 65536 in
set_option maxHeartbeats 4000000 in
theorem okp_4 {l : Launch} {Z : State} {a0 : Array Value} {A : Den} {bs : Nat} {tp : Tape} {tq : Tq} {call : Caller} (hw : ∀ d ∈ tables_1, d.before a0 Z = true) (hA : AdOk A 0 bs) (hT : TpOk A tp) (hU : TaOk A tp) (hQ : TqOk A tq) (hC : CallOk l KK A Z 0 bs wt (fun i => (MT i).1) (fun i => (MT i).2.1) (fun i => (MT i).2.2.1) (fun i => (MT i).2.2.2.1) (fun i => (MT i).2.2.2.2) call) : ∀ x ∈ pg_4 tp tq, OkE l KK A Z 0 bs wt "com/example/foreshock/foreshock/planning/BasisFactorization" prog_24_method_1_code 2 ((Option.none : Option FieldType)) "<init>" rm_4 call x := by
  unfold pg_4
  exact
    allC (ok_aloadN (k := 0) (by decide +kernel)) <|
    allC (ok_obj (tW hw 24 rfl) (tW hw 25 rfl) (tW hw 26 rfl) (by decide +kernel)) <|
    allC (ok_aloadN (k := 0) (by decide +kernel)) <|
    allC (ok_new hA k_7 (ko_7 hw) (tW hw 27 rfl) (by decide +kernel)) <|
    allC (ok_dup (by decide +kernel)) <|
    allC (cR hA hC mt_6 rfl (tW hw 30 rfl) (tW hw 31 rfl) (tW hw 29 rfl) (tW hw 32 rfl) (by decide) pd_8 rfl (by decide +kernel)) <|
    allC (ok_put (host := "") hA k_6 (by decide) rfl (ko_6 hw) (Or.inl (tW hw 40 rfl)) (Or.inr ⟨(tW hw 41 rfl), rfl, rfl⟩) pf_0 (fun _ q => okR rfl q) (by decide +kernel)) <|
    allC (ok_aloadN (k := 0) (by decide +kernel)) <|
    allC (ok_new hA k_7 (ko_7 hw) (tW hw 27 rfl) (by decide +kernel)) <|
    allC (ok_dup (by decide +kernel)) <|
    allC (cR hA hC mt_6 rfl (tW hw 30 rfl) (tW hw 31 rfl) (tW hw 29 rfl) (tW hw 32 rfl) (by decide) pd_8 rfl (by decide +kernel)) <|
    allC (ok_put (host := "") hA k_6 (by decide) rfl (ko_6 hw) (Or.inl (tW hw 42 rfl)) (Or.inr ⟨(tW hw 43 rfl), rfl, rfl⟩) pf_0 (fun _ q => okR rfl q) (by decide +kernel)) <|
    allC (ok_aloadN (k := 0) (by decide +kernel)) <|
    allC (ok_new hA k_7 (ko_7 hw) (tW hw 27 rfl) (by decide +kernel)) <|
    allC (ok_dup (by decide +kernel)) <|
    allC (cR hA hC mt_6 rfl (tW hw 30 rfl) (tW hw 31 rfl) (tW hw 29 rfl) (tW hw 32 rfl) (by decide) pd_8 rfl (by decide +kernel)) <|
    allC (ok_put (host := "") hA k_6 (by decide) rfl (ko_6 hw) (Or.inl (tW hw 44 rfl)) (Or.inr ⟨(tW hw 45 rfl), rfl, rfl⟩) pf_0 (fun _ q => okR rfl q) (by decide +kernel)) <|
    allC (ok_aloadN (k := 0) (by decide +kernel)) <|
    allC (ok_new hA k_7 (ko_7 hw) (tW hw 27 rfl) (by decide +kernel)) <|
    allC (ok_dup (by decide +kernel)) <|
    allC (cR hA hC mt_6 rfl (tW hw 30 rfl) (tW hw 31 rfl) (tW hw 29 rfl) (tW hw 32 rfl) (by decide) pd_8 rfl (by decide +kernel)) <|
    allC (ok_put (host := "") hA k_6 (by decide) rfl (ko_6 hw) (Or.inl (tW hw 46 rfl)) (Or.inr ⟨(tW hw 47 rfl), rfl, rfl⟩) pf_0 (fun _ q => okR rfl q) (by decide +kernel)) <|
    allC (ok_aloadN (k := 0) (by decide +kernel)) <|
    allC (ok_bipush (by decide +kernel)) <|
    allC (ok_newA (aty := .int) (dv' := .int 0) hA k_1 (tW hw 9 rfl) (by decide) rfl rfl rfl (by decide +kernel)) <|
    allC (ok_put (host := "") hA k_6 (by decide) rfl (ko_6 hw) (Or.inl (tW hw 48 rfl)) (Or.inl (tW hw 49 rfl)) pf_1 (fun _ q => okR rfl q) (by decide +kernel)) <|
    allC (ok_aloadN (k := 0) (by decide +kernel)) <|
    allC (ok_bipush (by decide +kernel)) <|
    allC (ok_newA (aty := .double) (dv' := .double 0) hA k_2 (tW hw 16 rfl) (by decide) rfl rfl (congrArg Value.double (hT.1 0 rfl).symm) (by decide +kernel)) <|
    allC (ok_put (host := "") hA k_6 (by decide) rfl (ko_6 hw) (Or.inl (tW hw 50 rfl)) (Or.inl (tW hw 51 rfl)) pf_2 (fun _ q => okR rfl q) (by decide +kernel)) <|
    allC (ok_aloadN (k := 0) (by decide +kernel)) <|
    allC (ok_iconst (by decide +kernel)) <|
    allC (ok_newA (aty := .int) (dv' := .int 0) hA k_1 (tW hw 9 rfl) (by decide) rfl rfl rfl (by decide +kernel)) <|
    allC (ok_put (host := "") hA k_6 (by decide) rfl (ko_6 hw) (Or.inl (tW hw 52 rfl)) (Or.inl (tW hw 53 rfl)) pf_1 (fun _ q => okR rfl q) (by decide +kernel)) <|
    allC (ok_aloadN (k := 0) (by decide +kernel)) <|
    allC (ok_iconst (by decide +kernel)) <|
    allC (ok_newA (aty := .int) (dv' := .int 0) hA k_1 (tW hw 9 rfl) (by decide) rfl rfl rfl (by decide +kernel)) <|
    allC (ok_put (host := "") hA k_6 (by decide) rfl (ko_6 hw) (Or.inl (tW hw 54 rfl)) (Or.inl (tW hw 55 rfl)) pf_1 (fun _ q => okR rfl q) (by decide +kernel)) <|
    allC (ok_aloadN (k := 0) (by decide +kernel)) <|
    allC (ok_iloadN (k := 1) (by decide +kernel)) <|
    allC (ok_put (host := "") hA k_6 (by decide) rfl (ko_6 hw) (Or.inl (tW hw 56 rfl)) (Or.inr ⟨(tW hw 57 rfl), rfl, rfl⟩) pf_3 (fun _ q => okI q) (by decide +kernel)) <|
    allC (ok_aloadN (k := 0) (by decide +kernel)) <|
    allC (ok_iloadN (k := 1) (by decide +kernel)) <|
    allC (ok_newA (aty := .int) (dv' := .int 0) hA k_1 (tW hw 9 rfl) (by decide) rfl rfl rfl (by decide +kernel)) <|
    allC (ok_put (host := "") hA k_6 (by decide) rfl (ko_6 hw) (Or.inl (tW hw 58 rfl)) (Or.inr ⟨(tW hw 59 rfl), rfl, rfl⟩) pf_1 (fun _ q => okR rfl q) (by decide +kernel)) <|
    allC (ok_aloadN (k := 0) (by decide +kernel)) <|
    allC (ok_iloadN (k := 1) (by decide +kernel)) <|
    allC (ok_newA (aty := .int) (dv' := .int 0) hA k_1 (tW hw 9 rfl) (by decide) rfl rfl rfl (by decide +kernel)) <|
    allC (ok_put (host := "") hA k_6 (by decide) rfl (ko_6 hw) (Or.inl (tW hw 60 rfl)) (Or.inr ⟨(tW hw 61 rfl), rfl, rfl⟩) pf_1 (fun _ q => okR rfl q) (by decide +kernel)) <|
    allC (ok_aloadN (k := 0) (by decide +kernel)) <|
    allC (ok_iloadN (k := 1) (by decide +kernel)) <|
    allC (ok_newA (aty := .double) (dv' := .double 0) hA k_2 (tW hw 16 rfl) (by decide) rfl rfl (congrArg Value.double (hT.1 0 rfl).symm) (by decide +kernel)) <|
    allC (ok_put (host := "") hA k_6 (by decide) rfl (ko_6 hw) (Or.inl (tW hw 62 rfl)) (Or.inr ⟨(tW hw 63 rfl), rfl, rfl⟩) pf_2 (fun _ q => okR rfl q) (by decide +kernel)) <|
    allC (ok_rV rfl (by decide +kernel)) <|
    allN
set_option maxRecDepth 65536 in
set_option maxHeartbeats 4000000 in
theorem okp_6 {l : Launch} {Z : State} {a0 : Array Value} {A : Den} {bs : Nat} {tp : Tape} {tq : Tq} {call : Caller} (hw : ∀ d ∈ tables_1, d.before a0 Z = true) (hA : AdOk A 0 bs) (hT : TpOk A tp) (hU : TaOk A tp) (hQ : TqOk A tq) (hC : CallOk l KK A Z 0 bs wt (fun i => (MT i).1) (fun i => (MT i).2.1) (fun i => (MT i).2.2.1) (fun i => (MT i).2.2.2.1) (fun i => (MT i).2.2.2.2) call) : ∀ x ∈ pg_6 tp tq, OkE l KK A Z 0 bs wt "com/example/foreshock/foreshock/planning/BasisFactorization$EntryLists" prog_27_method_1_code 1 ((Option.none : Option FieldType)) "<init>" rm_6 call x := by
  unfold pg_6
  exact
    allC (ok_aloadN (k := 0) (by decide +kernel)) <|
    allC (ok_obj (tW hw 33 rfl) (tW hw 25 rfl) (tW hw 26 rfl) (by decide +kernel)) <|
    allC (ok_aloadN (k := 0) (by decide +kernel)) <|
    allC (ok_bipush (by decide +kernel)) <|
    allC (ok_newA (aty := .int) (dv' := .int 0) hA k_1 (tW hw 9 rfl) (by decide) rfl rfl rfl (by decide +kernel)) <|
    allC (ok_put (host := "") hA k_7 (by decide) rfl (ko_7 hw) (Or.inl (tW hw 34 rfl)) (Or.inl (tW hw 35 rfl)) pf_1 (fun _ q => okR rfl q) (by decide +kernel)) <|
    allC (ok_aloadN (k := 0) (by decide +kernel)) <|
    allC (ok_bipush (by decide +kernel)) <|
    allC (ok_newA (aty := .int) (dv' := .int 0) hA k_1 (tW hw 9 rfl) (by decide) rfl rfl rfl (by decide +kernel)) <|
    allC (ok_put (host := "") hA k_7 (by decide) rfl (ko_7 hw) (Or.inl (tW hw 36 rfl)) (Or.inl (tW hw 37 rfl)) pf_1 (fun _ q => okR rfl q) (by decide +kernel)) <|
    allC (ok_aloadN (k := 0) (by decide +kernel)) <|
    allC (ok_bipush (by decide +kernel)) <|
    allC (ok_newA (aty := .double) (dv' := .double 0) hA k_2 (tW hw 16 rfl) (by decide) rfl rfl (congrArg Value.double (hT.1 0 rfl).symm) (by decide +kernel)) <|
    allC (ok_put (host := "") hA k_7 (by decide) rfl (ko_7 hw) (Or.inl (tW hw 38 rfl)) (Or.inl (tW hw 39 rfl)) pf_2 (fun _ q => okR rfl q) (by decide +kernel)) <|
    allC (ok_rV rfl (by decide +kernel)) <|
    allN
set_option maxRecDepth 65536 in
set_option maxHeartbeats 4000000 in
theorem okp_7 {l : Launch} {Z : State} {a0 : Array Value} {A : Den} {bs : Nat} {tp : Tape} {tq : Tq} {call : Caller} (hw : ∀ d ∈ tables_1, d.before a0 Z = true) (hA : AdOk A 0 bs) (hT : TpOk A tp) (hU : TaOk A tp) (hQ : TqOk A tq) (hC : CallOk l KK A Z 0 bs wt (fun i => (MT i).1) (fun i => (MT i).2.1) (fun i => (MT i).2.2.1) (fun i => (MT i).2.2.2.1) (fun i => (MT i).2.2.2.2) call) : ∀ x ∈ pg_7 tp tq, OkE l KK A Z 0 bs wt "com/example/foreshock/foreshock/planning/BasisFactorization" prog_24_method_2_code 4 ((Option.some FieldType.boolean)) "factorize" rm_7 call x := by
  unfold pg_7
  exact
    allC (ok_aloadN (k := 0) (by decide +kernel)) <|
    allC (ok_get (host := "") k_6 (by decide) rfl (Or.inl (tW hw 40 rfl)) (by decide +kernel)) <|
    allC (cV hA hC k_7 (by decide) mt_8 (tW hw 69 rfl) (tW hw 70 rfl) (tW hw 72 rfl) (tW hw 71 rfl) (tW hw 29 rfl) (tW hw 73 rfl) (by decide) pd_8 rfl (by decide +kernel)) <|
    allC (ok_aloadN (k := 0) (by decide +kernel)) <|
    allC (ok_get (host := "") k_6 (by decide) rfl (Or.inl (tW hw 42 rfl)) (by decide +kernel)) <|
    allC (cV hA hC k_7 (by decide) mt_8 (tW hw 69 rfl) (tW hw 70 rfl) (tW hw 72 rfl) (tW hw 71 rfl) (tW hw 29 rfl) (tW hw 73 rfl) (by decide) pd_8 rfl (by decide +kernel)) <|
    allC (ok_aloadN (k := 0) (by decide +kernel)) <|
    allC (ok_get (host := "") k_6 (by decide) rfl (Or.inl (tW hw 46 rfl)) (by decide +kernel)) <|
    allC (cV hA hC k_7 (by decide) mt_8 (tW hw 69 rfl) (tW hw 70 rfl) (tW hw 72 rfl) (tW hw 71 rfl) (tW hw 29 rfl) (tW hw 73 rfl) (by decide) pd_8 rfl (by decide +kernel)) <|
    allC (ok_new hA k_8 (ko_8 hw) (tW hw 78 rfl) (by decide +kernel)) <|
    allC (ok_dup (by decide +kernel)) <|
    allC (ok_aloadN (k := 0) (by decide +kernel)) <|
    allC (ok_aloadN (k := 1) (by decide +kernel)) <|
    allC (ok_aloadN (k := 2) (by decide +kernel)) <|
    allC (cI hA hC mt_9 rfl (tW hw 81 rfl) (tW hw 82 rfl) (tW hw 80 rfl) (tW hw 83 rfl) (by decide) pd_9 rfl (by decide +kernel)) <|
    allC (ok_astoreN (k := 3) (by decide +kernel)) <|
    allC (ok_aloadN (k := 0) (by decide +kernel)) <|
    allC (ok_iconst (by decide +kernel)) <|
    allC (ok_put (host := "") hA k_6 (by decide) rfl (ko_6 hw) (Or.inl (tW hw 148 rfl)) (Or.inl (tW hw 149 rfl)) pf_3 (fun _ q => okI q) (by decide +kernel)) <|
    allC (ok_aloadN (k := 3) (by decide +kernel)) <|
    allC (cV hA hC k_8 (by decide) mt_14 (tW hw 150 rfl) (tW hw 151 rfl) (tW hw 153 rfl) (tW hw 152 rfl) (tW hw 80 rfl) (tW hw 154 rfl) (by decide) pd_10 rfl (by decide +kernel)) <|
    allC (ok_if (o := 20) hT (by decide +kernel) (by decide) (by decide)) <|
    allC (ok_aloadN (k := 3) (by decide +kernel)) <|
    allC (cV hA hC k_8 (by decide) mt_21 (tW hw 186 rfl) (tW hw 187 rfl) (tW hw 189 rfl) (tW hw 188 rfl) (tW hw 80 rfl) (tW hw 190 rfl) (by decide) pd_8 rfl (by decide +kernel)) <|
    allC (ok_aloadN (k := 0) (by decide +kernel)) <|
    allC (ok_dup (by decide +kernel)) <|
    allC (ok_get (host := "") k_6 (by decide) rfl (Or.inl (tW hw 148 rfl)) (by decide +kernel)) <|
    allC (ok_iconst (by decide +kernel)) <|
    allC (ok_iadd2 hQ (by decide +kernel)) <|
    allC (ok_put (host := "") hA k_6 (by decide) rfl (ko_6 hw) (Or.inl (tW hw 148 rfl)) (Or.inl (tW hw 149 rfl)) pf_3 (fun _ q => okI q) (by decide +kernel)) <|
    allC (ok_goto (o := (-21)) (by decide +kernel) (by decide) (by decide)) <|
    allC (ok_aloadN (k := 0) (by decide +kernel)) <|
    allC (cP hA hC k_6 (by decide) mt_27 (tW hw 223 rfl) (tW hw 224 rfl) (tW hw 225 rfl) (tW hw 19 rfl) (tW hw 20 rfl) (tW hw 226 rfl) (by decide) pd_8 rfl (by decide +kernel)) <|
    allC (ok_aloadN (k := 0) (by decide +kernel)) <|
    allC (ok_aloadN (k := 3) (by decide +kernel)) <|
    allC (ok_aloadN (k := 3) (by decide +kernel)) <|
    allC (ok_getR k_8 (by decide) rfl (tW hw 243 rfl) (by decide +kernel)) <|
    allC (cV hA hC k_8 (by decide) mt_30 (tW hw 244 rfl) (tW hw 245 rfl) (tW hw 247 rfl) (tW hw 246 rfl) (tW hw 80 rfl) (tW hw 248 rfl) (by decide) pd_11 rfl (by decide +kernel)) <|
    allC (ok_put (host := "") hA k_6 (by decide) rfl (ko_6 hw) (Or.inl (tW hw 52 rfl)) (Or.inl (tW hw 53 rfl)) pf_1 (fun _ q => okR rfl q) (by decide +kernel)) <|
    allC (ok_aloadN (k := 0) (by decide +kernel)) <|
    allC (ok_aloadN (k := 3) (by decide +kernel)) <|
    allC (ok_aloadN (k := 3) (by decide +kernel)) <|
    allC (ok_getR k_8 (by decide) rfl (tW hw 249 rfl) (by decide +kernel)) <|
    allC (cV hA hC k_8 (by decide) mt_30 (tW hw 244 rfl) (tW hw 245 rfl) (tW hw 247 rfl) (tW hw 246 rfl) (tW hw 80 rfl) (tW hw 248 rfl) (by decide) pd_11 rfl (by decide +kernel)) <|
    allC (ok_put (host := "") hA k_6 (by decide) rfl (ko_6 hw) (Or.inl (tW hw 54 rfl)) (Or.inl (tW hw 55 rfl)) pf_1 (fun _ q => okR rfl q) (by decide +kernel)) <|
    allC (ok_aloadN (k := 0) (by decide +kernel)) <|
    allC (ok_get (host := "") k_6 (by decide) rfl (Or.inl (tW hw 148 rfl)) (by decide +kernel)) <|
    allC (ok_aloadN (k := 0) (by decide +kernel)) <|
    allC (ok_get (host := "") k_6 (by decide) rfl (Or.inl (tW hw 56 rfl)) (by decide +kernel)) <|
    allC (ok_icmp (o := 7) (by decide +kernel) (by decide) (by decide)) <|
    allC (ok_iconst (by decide +kernel)) <|
    allC (ok_goto (o := 4) (by decide +kernel) (by decide) (by decide)) <|
    allC (ok_rZ rfl (by decide +kernel)) <|
    allN
set_option maxRecDepth 65536 in
set_option maxHeartbeats 4000000 in
theorem okp_8 {l : Launch} {Z : State} {a0 : Array Value} {A : Den} {bs : Nat} {tp : Tape} {tq : Tq} {call : Caller} (hw : ∀ d ∈ tables_1, d.before a0 Z = true) (hA : AdOk A 0 bs) (hT : TpOk A tp) (hU : TaOk A tp) (hQ : TqOk A tq) (hC : CallOk l KK A Z 0 bs wt (fun i => (MT i).1) (fun i => (MT i).2.1) (fun i => (MT i).2.2.1) (fun i => (MT i).2.2.2.1) (fun i => (MT i).2.2.2.2) call) : ∀ x ∈ pg_8 tp tq, OkE l KK A Z 0 bs wt "com/example/foreshock/foreshock/planning/BasisFactorization$EntryLists" prog_27_method_2_code 1 ((Option.none : Option FieldType)) "clear" rm_8 call x := by
  unfold pg_8
  exact
    allC (ok_aloadN (k := 0) (by decide +kernel)) <|
    allC (ok_iconst (by decide +kernel)) <|
    allC (ok_put (host := "") hA k_7 (by decide) rfl (ko_7 hw) (Or.inl (tW hw 74 rfl)) (Or.inl (tW hw 75 rfl)) pf_3 (fun _ q => okI q) (by decide +kernel)) <|
    allC (ok_aloadN (k := 0) (by decide +kernel)) <|
    allC (ok_iconst (by decide +kernel)) <|
    allC (ok_put (host := "") hA k_7 (by decide) rfl (ko_7 hw) (Or.inl (tW hw 76 rfl)) (Or.inl (tW hw 77 rfl)) pf_3 (fun _ q => okI q) (by decide +kernel)) <|
    allC (ok_rV rfl (by decide +kernel)) <|
    allN
set_option maxRecDepth 65536 in
set_option maxHeartbeats 4000000 in
theorem okp_9 {l : Launch} {Z : State} {a0 : Array Value} {A : Den} {bs : Nat} {tp : Tape} {tq : Tq} {call : Caller} (hw : ∀ d ∈ tables_1, d.before a0 Z = true) (hA : AdOk A 0 bs) (hT : TpOk A tp) (hU : TaOk A tp) (hQ : TqOk A tq) (hC : CallOk l KK A Z 0 bs wt (fun i => (MT i).1) (fun i => (MT i).2.1) (fun i => (MT i).2.2.1) (fun i => (MT i).2.2.2.1) (fun i => (MT i).2.2.2.2) call) : ∀ x ∈ pg_9 tp tq, OkE l KK A Z 0 bs wt "com/example/foreshock/foreshock/planning/BasisFactorization$Elimination" prog_26_method_1_code 6 ((Option.none : Option FieldType)) "<init>" rm_9 call x := by
  unfold pg_9
  exact
    allC (ok_aloadN (k := 0) (by decide +kernel)) <|
    allC (ok_aloadN (k := 1) (by decide +kernel)) <|
    allC (ok_put (host := "") hA k_8 (by decide) rfl (ko_8 hw) (Or.inl (tW hw 84 rfl)) (Or.inr ⟨(tW hw 85 rfl), rfl, rfl⟩) pf_4 (fun _ q => okR rfl q) (by decide +kernel)) <|
    allC (ok_aloadN (k := 0) (by decide +kernel)) <|
    allC (ok_obj (tW hw 86 rfl) (tW hw 25 rfl) (tW hw 26 rfl) (by decide +kernel)) <|
    allC (ok_aloadN (k := 0) (by decide +kernel)) <|
    allC (ok_aloadN (k := 0) (by decide +kernel)) <|
    allC (ok_get (host := "") k_8 (by decide) rfl (Or.inl (tW hw 84 rfl)) (by decide +kernel)) <|
    allC (ok_get k_6 (by decide) rfl (Or.inr (tW hw 87 rfl)) (by decide +kernel)) <|
    allC (ok_anewA hA k_4 (by decide) (tW hw 88 rfl) (tW hw 5 rfl) (by decide) (by decide +kernel)) <|
    allC (ok_put (host := "") hA k_8 (by decide) rfl (ko_8 hw) (Or.inl (tW hw 89 rfl)) (Or.inr ⟨(tW hw 90 rfl), rfl, rfl⟩) pf_5 (fun _ q => okR rfl q) (by decide +kernel)) <|
    allC (ok_aloadN (k := 0) (by decide +kernel)) <|
    allC (ok_aloadN (k := 0) (by decide +kernel)) <|
    allC (ok_get (host := "") k_8 (by decide) rfl (Or.inl (tW hw 84 rfl)) (by decide +kernel)) <|
    allC (ok_get k_6 (by decide) rfl (Or.inr (tW hw 87 rfl)) (by decide +kernel)) <|
    allC (ok_anewA hA k_5 (by decide) (tW hw 91 rfl) (tW hw 12 rfl) (by decide) (by decide +kernel)) <|
    allC (ok_put (host := "") hA k_8 (by decide) rfl (ko_8 hw) (Or.inl (tW hw 92 rfl)) (Or.inr ⟨(tW hw 93 rfl), rfl, rfl⟩) pf_6 (fun _ q => okR rfl q) (by decide +kernel)) <|
    allC (ok_aloadN (k := 0) (by decide +kernel)) <|
    allC (ok_aloadN (k := 0) (by decide +kernel)) <|
    allC (ok_get (host := "") k_8 (by decide) rfl (Or.inl (tW hw 84 rfl)) (by decide +kernel)) <|
    allC (ok_get k_6 (by decide) rfl (Or.inr (tW hw 87 rfl)) (by decide +kernel)) <|
    allC (ok_newA (aty := .int) (dv' := .int 0) hA k_1 (tW hw 9 rfl) (by decide) rfl rfl rfl (by decide +kernel)) <|
    allC (ok_put (host := "") hA k_8 (by decide) rfl (ko_8 hw) (Or.inl (tW hw 94 rfl)) (Or.inr ⟨(tW hw 95 rfl), rfl, rfl⟩) pf_1 (fun _ q => okR rfl q) (by decide +kernel)) <|
    allC (ok_aloadN (k := 0) (by decide +kernel)) <|
    allC (ok_aloadN (k := 0) (by decide +kernel)) <|
    allC (ok_get (host := "") k_8 (by decide) rfl (Or.inl (tW hw 84 rfl)) (by decide +kernel)) <|
    allC (ok_get k_6 (by decide) rfl (Or.inr (tW hw 87 rfl)) (by decide +kernel)) <|
    allC (ok_anewA hA k_4 (by decide) (tW hw 88 rfl) (tW hw 5 rfl) (by decide) (by decide +kernel)) <|
    allC (ok_put (host := "") hA k_8 (by decide) rfl (ko_8 hw) (Or.inl (tW hw 96 rfl)) (Or.inr ⟨(tW hw 97 rfl), rfl, rfl⟩) pf_5 (fun _ q => okR rfl q) (by decide +kernel)) <|
    allC (ok_aloadN (k := 0) (by decide +kernel)) <|
    allC (ok_aloadN (k := 0) (by decide +kernel)) <|
    allC (ok_get (host := "") k_8 (by decide) rfl (Or.inl (tW hw 84 rfl)) (by decide +kernel)) <|
    allC (ok_get k_6 (by decide) rfl (Or.inr (tW hw 87 rfl)) (by decide +kernel)) <|
    allC (ok_newA (aty := .int) (dv' := .int 0) hA k_1 (tW hw 9 rfl) (by decide) rfl rfl rfl (by decide +kernel)) <|
    allC (ok_put (host := "") hA k_8 (by decide) rfl (ko_8 hw) (Or.inl (tW hw 98 rfl)) (Or.inr ⟨(tW hw 99 rfl), rfl, rfl⟩) pf_1 (fun _ q => okR rfl q) (by decide +kernel)) <|
    allC (ok_aloadN (k := 0) (by decide +kernel)) <|
    allC (ok_aloadN (k := 0) (by decide +kernel)) <|
    allC (ok_get (host := "") k_8 (by decide) rfl (Or.inl (tW hw 84 rfl)) (by decide +kernel)) <|
    allC (ok_get k_6 (by decide) rfl (Or.inr (tW hw 87 rfl)) (by decide +kernel)) <|
    allC (ok_newA (aty := .int) (dv' := .int 0) hA k_1 (tW hw 9 rfl) (by decide) rfl rfl rfl (by decide +kernel)) <|
    allC (ok_put (host := "") hA k_8 (by decide) rfl (ko_8 hw) (Or.inl (tW hw 100 rfl)) (Or.inr ⟨(tW hw 101 rfl), rfl, rfl⟩) pf_1 (fun _ q => okR rfl q) (by decide +kernel)) <|
    allC (ok_aloadN (k := 0) (by decide +kernel)) <|
    allC (ok_aloadN (k := 0) (by decide +kernel)) <|
    allC (ok_get (host := "") k_8 (by decide) rfl (Or.inl (tW hw 84 rfl)) (by decide +kernel)) <|
    allC (ok_get k_6 (by decide) rfl (Or.inr (tW hw 87 rfl)) (by decide +kernel)) <|
    allC (ok_newA (aty := .boolean) (dv' := .int 0) hA k_3 (tW hw 102 rfl) (by decide) rfl rfl rfl (by decide +kernel)) <|
    allC (ok_put (host := "") hA k_8 (by decide) rfl (ko_8 hw) (Or.inl (tW hw 103 rfl)) (Or.inr ⟨(tW hw 104 rfl), rfl, rfl⟩) pf_7 (fun _ q => okR rfl q) (by decide +kernel)) <|
    allC (ok_aloadN (k := 0) (by decide +kernel)) <|
    allC (ok_aloadN (k := 0) (by decide +kernel)) <|
    allC (ok_get (host := "") k_8 (by decide) rfl (Or.inl (tW hw 84 rfl)) (by decide +kernel)) <|
    allC (ok_get k_6 (by decide) rfl (Or.inr (tW hw 87 rfl)) (by decide +kernel)) <|
    allC (ok_newA (aty := .boolean) (dv' := .int 0) hA k_3 (tW hw 102 rfl) (by decide) rfl rfl rfl (by decide +kernel)) <|
    allC (ok_put (host := "") hA k_8 (by decide) rfl (ko_8 hw) (Or.inl (tW hw 105 rfl)) (Or.inr ⟨(tW hw 106 rfl), rfl, rfl⟩) pf_7 (fun _ q => okR rfl q) (by decide +kernel)) <|
    allC (ok_aloadN (k := 0) (by decide +kernel)) <|
    allC (ok_new hA k_9 (ko_9 hw) (tW hw 107 rfl) (by decide +kernel)) <|
    allC (ok_dup (by decide +kernel)) <|
    allC (ok_aloadN (k := 0) (by decide +kernel)) <|
    allC (ok_get (host := "") k_8 (by decide) rfl (Or.inl (tW hw 84 rfl)) (by decide +kernel)) <|
    allC (ok_get k_6 (by decide) rfl (Or.inr (tW hw 87 rfl)) (by decide +kernel)) <|
    allC (cI hA hC mt_10 rfl (tW hw 110 rfl) (tW hw 111 rfl) (tW hw 109 rfl) (tW hw 112 rfl) (by decide) pd_4 rfl (by decide +kernel)) <|
    allC (ok_put (host := "") hA k_8 (by decide) rfl (ko_8 hw) (Or.inl (tW hw 126 rfl)) (Or.inr ⟨(tW hw 127 rfl), rfl, rfl⟩) pf_8 (fun _ q => okR rfl q) (by decide +kernel)) <|
    allC (ok_aloadN (k := 0) (by decide +kernel)) <|
    allC (ok_new hA k_9 (ko_9 hw) (tW hw 107 rfl) (by decide +kernel)) <|
    allC (ok_dup (by decide +kernel)) <|
    allC (ok_aloadN (k := 0) (by decide +kernel)) <|
    allC (ok_get (host := "") k_8 (by decide) rfl (Or.inl (tW hw 84 rfl)) (by decide +kernel)) <|
    allC (ok_get k_6 (by decide) rfl (Or.inr (tW hw 87 rfl)) (by decide +kernel)) <|
    allC (cI hA hC mt_10 rfl (tW hw 110 rfl) (tW hw 111 rfl) (tW hw 109 rfl) (tW hw 112 rfl) (by decide) pd_4 rfl (by decide +kernel)) <|
    allC (ok_put (host := "") hA k_8 (by decide) rfl (ko_8 hw) (Or.inl (tW hw 128 rfl)) (Or.inr ⟨(tW hw 129 rfl), rfl, rfl⟩) pf_8 (fun _ q => okR rfl q) (by decide +kernel)) <|
    allC (ok_aloadN (k := 0) (by decide +kernel)) <|
    allC (ok_aloadN (k := 0) (by decide +kernel)) <|
    allC (ok_get (host := "") k_8 (by decide) rfl (Or.inl (tW hw 84 rfl)) (by decide +kernel)) <|
    allC (ok_get k_6 (by decide) rfl (Or.inr (tW hw 87 rfl)) (by decide +kernel)) <|
    allC (ok_newA (aty := .int) (dv' := .int 0) hA k_1 (tW hw 9 rfl) (by decide) rfl rfl rfl (by decide +kernel)) <|
    allC (ok_put (host := "") hA k_8 (by decide) rfl (ko_8 hw) (Or.inl (tW hw 130 rfl)) (Or.inr ⟨(tW hw 131 rfl), rfl, rfl⟩) pf_1 (fun _ q => okR rfl q) (by decide +kernel)) <|
    allC (ok_iconst (by decide +kernel)) <|
    allC (ok_istore (by decide +kernel)) <|
    allC (ok_iload (by decide +kernel)) <|
    allC (ok_aloadN (k := 1) (by decide +kernel)) <|
    allC (ok_get k_6 (by decide) rfl (Or.inr (tW hw 87 rfl)) (by decide +kernel)) <|
    allC (ok_icmp (o := 29) (by decide +kernel) (by decide) (by decide)) <|
    allC (ok_aloadN (k := 0) (by decide +kernel)) <|
    allC (ok_get (host := "") k_8 (by decide) rfl (Or.inl (tW hw 89 rfl)) (by decide +kernel)) <|
    allC (ok_iload (by decide +kernel)) <|
    allC (ok_iconst (by decide +kernel)) <|
    allC (ok_newA (aty := .int) (dv' := .int 0) hA k_1 (tW hw 9 rfl) (by decide) rfl rfl rfl (by decide +kernel)) <|
    allC (ok_aastore hA k_4 k_1 (by decide) (by decide) (tW hw 5 rfl) (by decide +kernel)) <|
    allC (ok_aloadN (k := 0) (by decide +kernel)) <|
    allC (ok_get (host := "") k_8 (by decide) rfl (Or.inl (tW hw 92 rfl)) (by decide +kernel)) <|
    allC (ok_iload (by decide +kernel)) <|
    allC (ok_iconst (by decide +kernel)) <|
    allC (ok_newA (aty := .double) (dv' := .double 0) hA k_2 (tW hw 16 rfl) (by decide) rfl rfl (congrArg Value.double (hT.1 0 rfl).symm) (by decide +kernel)) <|
    allC (ok_aastore hA k_5 k_2 (by decide) (by decide) (tW hw 12 rfl) (by decide +kernel)) <|
    allC (ok_iinc (by decide +kernel)) <|
    allC (ok_goto (o := (-32)) (by decide +kernel) (by decide) (by decide)) <|
    allC (ok_iconst (by decide +kernel)) <|
    allC (ok_istore (by decide +kernel)) <|
    allC (ok_iload (by decide +kernel)) <|
    allC (ok_aloadN (k := 1) (by decide +kernel)) <|
    allC (ok_get k_6 (by decide) rfl (Or.inr (tW hw 87 rfl)) (by decide +kernel)) <|
    allC (ok_icmp (o := 89) (by decide +kernel) (by decide) (by decide)) <|
    allC (ok_aloadN (k := 0) (by decide +kernel)) <|
    allC (ok_get (host := "") k_8 (by decide) rfl (Or.inl (tW hw 96 rfl)) (by decide +kernel)) <|
    allC (ok_iload (by decide +kernel)) <|
    allC (ok_aloadN (k := 2) (by decide +kernel)) <|
    allC (ok_iload (by decide +kernel)) <|
    allC (ok_aaload k_4 rfl (by decide +kernel)) <|
    allC (ok_cloneI hA k_1 (tW hw 132 rfl) (tW hw 133 rfl) (tW hw 137 rfl) (tW hw 135 rfl) (tW hw 136 rfl) (tW hw 138 rfl) (by decide +kernel)) <|
    allC (ok_cast k_1 (tW hw 88 rfl) (by decide +kernel)) <|
    allC (ok_aastore hA k_4 k_1 (by decide) (by decide) (tW hw 5 rfl) (by decide +kernel)) <|
    allC (ok_aloadN (k := 0) (by decide +kernel)) <|
    allC (ok_get (host := "") k_8 (by decide) rfl (Or.inl (tW hw 98 rfl)) (by decide +kernel)) <|
    allC (ok_iload (by decide +kernel)) <|
    allC (ok_aloadN (k := 2) (by decide +kernel)) <|
    allC (ok_iload (by decide +kernel)) <|
    allC (ok_aaload k_4 rfl (by decide +kernel)) <|
    allC (ok_len (by decide +kernel)) <|
    allC (ok_iastore hA k_1 (by decide +kernel)) <|
    allC (ok_aloadN (k := 0) (by decide +kernel)) <|
    allC (ok_get (host := "") k_8 (by decide) rfl (Or.inl (tW hw 100 rfl)) (by decide +kernel)) <|
    allC (ok_iload (by decide +kernel)) <|
    allC (ok_aloadN (k := 2) (by decide +kernel)) <|
    allC (ok_iload (by decide +kernel)) <|
    allC (ok_aaload k_4 rfl (by decide +kernel)) <|
    allC (ok_len (by decide +kernel)) <|
    allC (ok_iastore hA k_1 (by decide +kernel)) <|
    allC (ok_iconst (by decide +kernel)) <|
    allC (ok_istore (by decide +kernel)) <|
    allC (ok_iload (by decide +kernel)) <|
    allC (ok_aloadN (k := 2) (by decide +kernel)) <|
    allC (ok_iload (by decide +kernel)) <|
    allC (ok_aaload k_4 rfl (by decide +kernel)) <|
    allC (ok_len (by decide +kernel)) <|
    allC (ok_icmp (o := 29) (by decide +kernel) (by decide) (by decide)) <|
    allC (ok_aloadN (k := 0) (by decide +kernel)) <|
    allC (ok_aloadN (k := 2) (by decide +kernel)) <|
    allC (ok_iload (by decide +kernel)) <|
    allC (ok_aaload k_4 rfl (by decide +kernel)) <|
    allC (ok_iload (by decide +kernel)) <|
    allC (ok_iaload k_1 (by decide +kernel)) <|
    allC (ok_iload (by decide +kernel)) <|
    allC (ok_aloadN (k := 3) (by decide +kernel)) <|
    allC (ok_iload (by decide +kernel)) <|
    allC (ok_aaload k_5 rfl (by decide +kernel)) <|
    allC (ok_iload (by decide +kernel)) <|
    allC (ok_daload k_2 (by decide +kernel)) <|
    allC (cP hA hC k_8 (by decide) mt_12 (tW hw 139 rfl) (tW hw 140 rfl) (tW hw 141 rfl) (tW hw 79 rfl) (tW hw 80 rfl) (tW hw 142 rfl) (by decide) pd_12 rfl (by decide +kernel)) <|
    allC (ok_iinc (by decide +kernel)) <|
    allC (ok_goto (o := (-33)) (by decide +kernel) (by decide) (by decide)) <|
    allC (ok_iinc (by decide +kernel)) <|
    allC (ok_goto (o := (-92)) (by decide +kernel) (by decide) (by decide)) <|
    allC (ok_iconst (by decide +kernel)) <|
    allC (ok_istore (by decide +kernel)) <|
    allC (ok_iload (by decide +kernel)) <|
    allC (ok_aloadN (k := 1) (by decide +kernel)) <|
    allC (ok_get k_6 (by decide) rfl (Or.inr (tW hw 87 rfl)) (by decide +kernel)) <|
    allC (ok_icmp (o := 25) (by decide +kernel) (by decide) (by decide)) <|
    allC (ok_aloadN (k := 0) (by decide +kernel)) <|
    allC (ok_get (host := "") k_8 (by decide) rfl (Or.inl (tW hw 126 rfl)) (by decide +kernel)) <|
    allC (ok_iload (by decide +kernel)) <|
    allC (ok_aloadN (k := 0) (by decide +kernel)) <|
    allC (ok_get (host := "") k_8 (by decide) rfl (Or.inl (tW hw 94 rfl)) (by decide +kernel)) <|
    allC (ok_iload (by decide +kernel)) <|
    allC (ok_iaload k_1 (by decide +kernel)) <|
    allC (cV hA hC k_9 (by decide) mt_13 (tW hw 143 rfl) (tW hw 144 rfl) (tW hw 146 rfl) (tW hw 145 rfl) (tW hw 109 rfl) (tW hw 147 rfl) (by decide) pd_13 rfl (by decide +kernel)) <|
    allC (ok_iinc (by decide +kernel)) <|
    allC (ok_goto (o := (-28)) (by decide +kernel) (by decide) (by decide)) <|
    allC (ok_iconst (by decide +kernel)) <|
    allC (ok_istore (by decide +kernel)) <|
    allC (ok_iload (by decide +kernel)) <|
    allC (ok_aloadN (k := 1) (by decide +kernel)) <|
    allC (ok_get k_6 (by decide) rfl (Or.inr (tW hw 87 rfl)) (by decide +kernel)) <|
    allC (ok_icmp (o := 25) (by decide +kernel) (by decide) (by decide)) <|
    allC (ok_aloadN (k := 0) (by decide +kernel)) <|
    allC (ok_get (host := "") k_8 (by decide) rfl (Or.inl (tW hw 128 rfl)) (by decide +kernel)) <|
    allC (ok_iload (by decide +kernel)) <|
    allC (ok_aloadN (k := 0) (by decide +kernel)) <|
    allC (ok_get (host := "") k_8 (by decide) rfl (Or.inl (tW hw 100 rfl)) (by decide +kernel)) <|
    allC (ok_iload (by decide +kernel)) <|
    allC (ok_iaload k_1 (by decide +kernel)) <|
    allC (cV hA hC k_9 (by decide) mt_13 (tW hw 143 rfl) (tW hw 144 rfl) (tW hw 146 rfl) (tW hw 145 rfl) (tW hw 109 rfl) (tW hw 147 rfl) (by decide) pd_13 rfl (by decide +kernel)) <|
    allC (ok_iinc (by decide +kernel)) <|
    allC (ok_goto (o := (-28)) (by decide +kernel) (by decide) (by decide)) <|
    allC (ok_rV rfl (by decide +kernel)) <|
    allN
set_option maxRecDepth 65536 in
set_option maxHeartbeats 4000000 in
theorem okp_10 {l : Launch} {Z : State} {a0 : Array Value} {A : Den} {bs : Nat} {tp : Tape} {tq : Tq} {call : Caller} (hw : ∀ d ∈ tables_1, d.before a0 Z = true) (hA : AdOk A 0 bs) (hT : TpOk A tp) (hU : TaOk A tp) (hQ : TqOk A tq) (hC : CallOk l KK A Z 0 bs wt (fun i => (MT i).1) (fun i => (MT i).2.1) (fun i => (MT i).2.2.1) (fun i => (MT i).2.2.2.1) (fun i => (MT i).2.2.2.2) call) : ∀ x ∈ pg_10 tp tq, OkE l KK A Z 0 bs wt "com/example/foreshock/foreshock/planning/BasisFactorization$CountLists" prog_25_method_1_code 2 ((Option.none : Option FieldType)) "<init>" rm_10 call x := by
  unfold pg_10
  exact
    allC (ok_aloadN (k := 0) (by decide +kernel)) <|
    allC (ok_obj (tW hw 113 rfl) (tW hw 25 rfl) (tW hw 26 rfl) (by decide +kernel)) <|
    allC (ok_aloadN (k := 0) (by decide +kernel)) <|
    allC (ok_iloadN (k := 1) (by decide +kernel)) <|
    allC (ok_iconst (by decide +kernel)) <|
    allC (ok_iadd2 hQ (by decide +kernel)) <|
    allC (ok_newA (aty := .int) (dv' := .int 0) hA k_1 (tW hw 9 rfl) (by decide) rfl rfl rfl (by decide +kernel)) <|
    allC (ok_put (host := "") hA k_9 (by decide) rfl (ko_9 hw) (Or.inl (tW hw 114 rfl)) (Or.inr ⟨(tW hw 115 rfl), rfl, rfl⟩) pf_1 (fun _ q => okR rfl q) (by decide +kernel)) <|
    allC (ok_aloadN (k := 0) (by decide +kernel)) <|
    allC (ok_get (host := "") k_9 (by decide) rfl (Or.inl (tW hw 114 rfl)) (by decide +kernel)) <|
    allC (ok_iconst (by decide +kernel)) <|
    allC (cS hA hC mt_11 (tW hw 116 rfl) (tW hw 117 rfl) (tW hw 118 rfl) (tW hw 119 rfl) (by decide) pd_14 rfl (by decide +kernel)) <|
    allC (ok_aloadN (k := 0) (by decide +kernel)) <|
    allC (ok_iloadN (k := 1) (by decide +kernel)) <|
    allC (ok_newA (aty := .int) (dv' := .int 0) hA k_1 (tW hw 9 rfl) (by decide) rfl rfl rfl (by decide +kernel)) <|
    allC (ok_put (host := "") hA k_9 (by decide) rfl (ko_9 hw) (Or.inl (tW hw 120 rfl)) (Or.inr ⟨(tW hw 121 rfl), rfl, rfl⟩) pf_1 (fun _ q => okR rfl q) (by decide +kernel)) <|
    allC (ok_aloadN (k := 0) (by decide +kernel)) <|
    allC (ok_iloadN (k := 1) (by decide +kernel)) <|
    allC (ok_newA (aty := .int) (dv' := .int 0) hA k_1 (tW hw 9 rfl) (by decide) rfl rfl rfl (by decide +kernel)) <|
    allC (ok_put (host := "") hA k_9 (by decide) rfl (ko_9 hw) (Or.inl (tW hw 122 rfl)) (Or.inr ⟨(tW hw 123 rfl), rfl, rfl⟩) pf_1 (fun _ q => okR rfl q) (by decide +kernel)) <|
    allC (ok_aloadN (k := 0) (by decide +kernel)) <|
    allC (ok_iloadN (k := 1) (by decide +kernel)) <|
    allC (ok_newA (aty := .int) (dv' := .int 0) hA k_1 (tW hw 9 rfl) (by decide) rfl rfl rfl (by decide +kernel)) <|
    allC (ok_put (host := "") hA k_9 (by decide) rfl (ko_9 hw) (Or.inl (tW hw 124 rfl)) (Or.inr ⟨(tW hw 125 rfl), rfl, rfl⟩) pf_1 (fun _ q => okR rfl q) (by decide +kernel)) <|
    allC (ok_rV rfl (by decide +kernel)) <|
    allN
set_option maxRecDepth 65536 in
set_option maxHeartbeats 4000000 in
theorem okp_11 {l : Launch} {Z : State} {a0 : Array Value} {A : Den} {bs : Nat} {tp : Tape} {tq : Tq} {call : Caller} (hw : ∀ d ∈ tables_1, d.before a0 Z = true) (hA : AdOk A 0 bs) (hT : TpOk A tp) (hU : TaOk A tp) (hQ : TqOk A tq) (hC : CallOk l KK A Z 0 bs wt (fun i => (MT i).1) (fun i => (MT i).2.1) (fun i => (MT i).2.2.1) (fun i => (MT i).2.2.2.1) (fun i => (MT i).2.2.2.2) call) : ∀ x ∈ pg_11 tp tq, OkE l KK A Z 0 bs wt "java/util/Arrays" jdk_65_method_103_code 4 ((Option.none : Option FieldType)) "fill" rm_11 call x := by
  unfold pg_11
  exact
    allC (ok_iconst (by decide +kernel)) <|
    allC (ok_istoreN (k := 2) (by decide +kernel)) <|
    allC (ok_aloadN (k := 0) (by decide +kernel)) <|
    allC (ok_len (by decide +kernel)) <|
    allC (ok_istoreN (k := 3) (by decide +kernel)) <|
    allC (ok_iloadN (k := 2) (by decide +kernel)) <|
    allC (ok_iloadN (k := 3) (by decide +kernel)) <|
    allC (ok_icmp (o := 13) (by decide +kernel) (by decide) (by decide)) <|
    allC (ok_aloadN (k := 0) (by decide +kernel)) <|
    allC (ok_iloadN (k := 2) (by decide +kernel)) <|
    allC (ok_iloadN (k := 1) (by decide +kernel)) <|
    allC (ok_iastore hA k_1 (by decide +kernel)) <|
    allC (ok_iinc (by decide +kernel)) <|
    allC (ok_goto (o := (-12)) (by decide +kernel) (by decide) (by decide)) <|
    allC (ok_rV rfl (by decide +kernel)) <|
    allN
set_option maxRecDepth 65536 in
set_option maxHeartbeats 4000000 in
theorem okp_12 {l : Launch} {Z : State} {a0 : Array Value} {A : Den} {bs : Nat} {tp : Tape} {tq : Tq} {call : Caller} (hw : ∀ d ∈ tables_1, d.before a0 Z = true) (hA : AdOk A 0 bs) (hT : TpOk A tp) (hU : TaOk A tp) (hQ : TqOk A tq) (hC : CallOk l KK A Z 0 bs wt (fun i => (MT i).1) (fun i => (MT i).2.1) (fun i => (MT i).2.2.1) (fun i => (MT i).2.2.2.1) (fun i => (MT i).2.2.2.2) call) : ∀ x ∈ pg_12 tp tq, OkE l KK A Z 0 bs wt "com/example/foreshock/foreshock/planning/BasisFactorization$Elimination" prog_26_method_6_code 5 ((Option.none : Option FieldType)) "append" rm_12 call x := by
  unfold pg_12
  exact
    allC (ok_aloadN (k := 0) (by decide +kernel)) <|
    allC (ok_get (host := "") k_8 (by decide) rfl (Or.inl (tW hw 94 rfl)) (by decide +kernel)) <|
    allC (ok_iloadN (k := 1) (by decide +kernel)) <|
    allC (ok_iaload k_1 (by decide +kernel)) <|
    allC (ok_aloadN (k := 0) (by decide +kernel)) <|
    allC (ok_get (host := "") k_8 (by decide) rfl (Or.inl (tW hw 89 rfl)) (by decide +kernel)) <|
    allC (ok_iloadN (k := 1) (by decide +kernel)) <|
    allC (ok_aaload k_4 rfl (by decide +kernel)) <|
    allC (ok_len (by decide +kernel)) <|
    allC (ok_icmp (o := 49) (by decide +kernel) (by decide) (by decide)) <|
    allC (ok_aloadN (k := 0) (by decide +kernel)) <|
    allC (ok_get (host := "") k_8 (by decide) rfl (Or.inl (tW hw 89 rfl)) (by decide +kernel)) <|
    allC (ok_iloadN (k := 1) (by decide +kernel)) <|
    allC (ok_aaload k_4 rfl (by decide +kernel)) <|
    allC (ok_aloadN (k := 0) (by decide +kernel)) <|
    allC (ok_get (host := "") k_8 (by decide) rfl (Or.inl (tW hw 94 rfl)) (by decide +kernel)) <|
    allC (ok_iloadN (k := 1) (by decide +kernel)) <|
    allC (ok_iaload k_1 (by decide +kernel)) <|
    allC (ok_iloadN (k := 2) (by decide +kernel)) <|
    allC (ok_iastore hA k_1 (by decide +kernel)) <|
    allC (ok_aloadN (k := 0) (by decide +kernel)) <|
    allC (ok_get (host := "") k_8 (by decide) rfl (Or.inl (tW hw 92 rfl)) (by decide +kernel)) <|
    allC (ok_iloadN (k := 1) (by decide +kernel)) <|
    allC (ok_aaload k_5 rfl (by decide +kernel)) <|
    allC (ok_aloadN (k := 0) (by decide +kernel)) <|
    allC (ok_get (host := "") k_8 (by decide) rfl (Or.inl (tW hw 94 rfl)) (by decide +kernel)) <|
    allC (ok_iloadN (k := 1) (by decide +kernel)) <|
    allC (ok_iaload k_1 (by decide +kernel)) <|
    allC (ok_dloadN (k := 3) (by decide +kernel)) <|
    allC (ok_dastore hA k_2 (by decide +kernel)) <|
    allC (ok_aloadN (k := 0) (by decide +kernel)) <|
    allC (ok_get (host := "") k_8 (by decide) rfl (Or.inl (tW hw 94 rfl)) (by decide +kernel)) <|
    allC (ok_iloadN (k := 1) (by decide +kernel)) <|
    allC (ok_dup2 (by decide +kernel)) <|
    allC (ok_iaload k_1 (by decide +kernel)) <|
    allC (ok_iconst (by decide +kernel)) <|
    allC (ok_iadd2 hQ (by decide +kernel)) <|
    allC (ok_iastore hA k_1 (by decide +kernel)) <|
    allC (ok_rV rfl (by decide +kernel)) <|
    allN
set_option maxRecDepth 65536 in
set_option maxHeartbeats 4000000 in
theorem okp_13 {l : Launch} {Z : State} {a0 : Array Value} {A : Den} {bs : Nat} {tp : Tape} {tq : Tq} {call : Caller} (hw : ∀ d ∈ tables_1, d.before a0 Z = true) (hA : AdOk A 0 bs) (hT : TpOk A tp) (hU : TaOk A tp) (hQ : TqOk A tq) (hC : CallOk l KK A Z 0 bs wt (fun i => (MT i).1) (fun i => (MT i).2.1) (fun i => (MT i).2.2.1) (fun i => (MT i).2.2.2.1) (fun i => (MT i).2.2.2.2) call) : ∀ x ∈ pg_13 tp tq, OkE l KK A Z 0 bs wt "com/example/foreshock/foreshock/planning/BasisFactorization$CountLists" prog_25_method_2_code 3 ((Option.none : Option FieldType)) "insert" rm_13 call x := by
  unfold pg_13
  exact
    allC (ok_aloadN (k := 0) (by decide +kernel)) <|
    allC (ok_get (host := "") k_9 (by decide) rfl (Or.inl (tW hw 124 rfl)) (by decide +kernel)) <|
    allC (ok_iloadN (k := 1) (by decide +kernel)) <|
    allC (ok_iloadN (k := 2) (by decide +kernel)) <|
    allC (ok_iastore hA k_1 (by decide +kernel)) <|
    allC (ok_aloadN (k := 0) (by decide +kernel)) <|
    allC (ok_get (host := "") k_9 (by decide) rfl (Or.inl (tW hw 122 rfl)) (by decide +kernel)) <|
    allC (ok_iloadN (k := 1) (by decide +kernel)) <|
    allC (ok_iconst (by decide +kernel)) <|
    allC (ok_iastore hA k_1 (by decide +kernel)) <|
    allC (ok_aloadN (k := 0) (by decide +kernel)) <|
    allC (ok_get (host := "") k_9 (by decide) rfl (Or.inl (tW hw 120 rfl)) (by decide +kernel)) <|
    allC (ok_iloadN (k := 1) (by decide +kernel)) <|
    allC (ok_aloadN (k := 0) (by decide +kernel)) <|
    allC (ok_get (host := "") k_9 (by decide) rfl (Or.inl (tW hw 114 rfl)) (by decide +kernel)) <|
    allC (ok_iloadN (k := 2) (by decide +kernel)) <|
    allC (ok_iaload k_1 (by decide +kernel)) <|
    allC (ok_iastore hA k_1 (by decide +kernel)) <|
    allC (ok_aloadN (k := 0) (by decide +kernel)) <|
    allC (ok_get (host := "") k_9 (by decide) rfl (Or.inl (tW hw 114 rfl)) (by decide +kernel)) <|
    allC (ok_iloadN (k := 2) (by decide +kernel)) <|
    allC (ok_iaload k_1 (by decide +kernel)) <|
    allC (ok_if (o := 15) hT (by decide +kernel) (by decide) (by decide)) <|
    allC (ok_aloadN (k := 0) (by decide +kernel)) <|
    allC (ok_get (host := "") k_9 (by decide) rfl (Or.inl (tW hw 122 rfl)) (by decide +kernel)) <|
    allC (ok_aloadN (k := 0) (by decide +kernel)) <|
    allC (ok_get (host := "") k_9 (by decide) rfl (Or.inl (tW hw 114 rfl)) (by decide +kernel)) <|
    allC (ok_iloadN (k := 2) (by decide +kernel)) <|
    allC (ok_iaload k_1 (by decide +kernel)) <|
    allC (ok_iloadN (k := 1) (by decide +kernel)) <|
    allC (ok_iastore hA k_1 (by decide +kernel)) <|
    allC (ok_aloadN (k := 0) (by decide +kernel)) <|
    allC (ok_get (host := "") k_9 (by decide) rfl (Or.inl (tW hw 114 rfl)) (by decide +kernel)) <|
    allC (ok_iloadN (k := 2) (by decide +kernel)) <|
    allC (ok_iloadN (k := 1) (by decide +kernel)) <|
    allC (ok_iastore hA k_1 (by decide +kernel)) <|
    allC (ok_rV rfl (by decide +kernel)) <|
    allN
set_option maxRecDepth 65536 in
set_option maxHeartbeats 4000000 in
theorem okp_14 {l : Launch} {Z : State} {a0 : Array Value} {A : Den} {bs : Nat} {tp : Tape} {tq : Tq} {call : Caller} (hw : ∀ d ∈ tables_1, d.before a0 Z = true) (hA : AdOk A 0 bs) (hT : TpOk A tp) (hU : TaOk A tp) (hQ : TqOk A tq) (hC : CallOk l KK A Z 0 bs wt (fun i => (MT i).1) (fun i => (MT i).2.1) (fun i => (MT i).2.2.1) (fun i => (MT i).2.2.2.1) (fun i => (MT i).2.2.2.2) call) : ∀ x ∈ pg_14 tp tq, OkE l KK A Z 0 bs wt "com/example/foreshock/foreshock/planning/BasisFactorization$Elimination" prog_26_method_2_code 14 ((Option.some FieldType.boolean)) "findPivot" rm_14 call x := by
  unfold pg_14
  exact
    allC (ok_aloadN (k := 0) (by decide +kernel)) <|
    allC (ok_iconst (by decide +kernel)) <|
    allC (ok_put (host := "") hA k_8 (by decide) rfl (ko_8 hw) (Or.inl (tW hw 155 rfl)) (Or.inl (tW hw 156 rfl)) pf_3 (fun _ q => okI q) (by decide +kernel)) <|
    allC (ok_ldc2J (tW hw 157 rfl) (by decide +kernel)) <|
    allC (ok_lstoreN (k := 1) (by decide +kernel)) <|
    allC (ok_iconst (by decide +kernel)) <|
    allC (ok_istoreN (k := 3) (by decide +kernel)) <|
    allC (ok_iconst (by decide +kernel)) <|
    allC (ok_istore (by decide +kernel)) <|
    allC (ok_iload (by decide +kernel)) <|
    allC (ok_aloadN (k := 0) (by decide +kernel)) <|
    allC (ok_get (host := "") k_8 (by decide) rfl (Or.inl (tW hw 84 rfl)) (by decide +kernel)) <|
    allC (ok_get k_6 (by decide) rfl (Or.inr (tW hw 87 rfl)) (by decide +kernel)) <|
    allC (ok_icmp (o := 337) (by decide +kernel) (by decide) (by decide)) <|
    allC (ok_iload (by decide +kernel)) <|
    allC (ok_iconst (by decide +kernel)) <|
    allC (ok_isub2 hQ (by decide +kernel)) <|
    allC (ok_i2l (by decide +kernel)) <|
    allC (ok_iload (by decide +kernel)) <|
    allC (ok_iconst (by decide +kernel)) <|
    allC (ok_isub2 hQ (by decide +kernel)) <|
    allC (ok_i2l (by decide +kernel)) <|
    allC (ok_lmul (by decide +kernel)) <|
    allC (ok_lstore (by decide +kernel)) <|
    allC (ok_aloadN (k := 0) (by decide +kernel)) <|
    allC (ok_get (host := "") k_8 (by decide) rfl (Or.inl (tW hw 128 rfl)) (by decide +kernel)) <|
    allC (ok_iload (by decide +kernel)) <|
    allC (cV hA hC k_9 (by decide) mt_15 (tW hw 158 rfl) (tW hw 159 rfl) (tW hw 161 rfl) (tW hw 160 rfl) (tW hw 109 rfl) (tW hw 162 rfl) (by decide) pd_1 rfl (by decide +kernel)) <|
    allC (ok_istore (by decide +kernel)) <|
    allC (ok_iload (by decide +kernel)) <|
    allC (ok_if (o := 152) hT (by decide +kernel) (by decide) (by decide)) <|
    allC (ok_aloadN (k := 0) (by decide +kernel)) <|
    allC (ok_iload (by decide +kernel)) <|
    allC (cP hA hC k_8 (by decide) mt_16 (tW hw 163 rfl) (tW hw 164 rfl) (tW hw 165 rfl) (tW hw 79 rfl) (tW hw 80 rfl) (tW hw 166 rfl) (by decide) pd_15 rfl (by decide +kernel)) <|
    allC (ok_dstore (by decide +kernel)) <|
    allC (ok_iconst (by decide +kernel)) <|
    allC (ok_istore (by decide +kernel)) <|
    allC (ok_iload (by decide +kernel)) <|
    allC (ok_aloadN (k := 0) (by decide +kernel)) <|
    allC (ok_get (host := "") k_8 (by decide) rfl (Or.inl (tW hw 98 rfl)) (by decide +kernel)) <|
    allC (ok_iload (by decide +kernel)) <|
    allC (ok_iaload k_1 (by decide +kernel)) <|
    allC (ok_icmp (o := 91) (by decide +kernel) (by decide) (by decide)) <|
    allC (ok_aloadN (k := 0) (by decide +kernel)) <|
    allC (ok_get (host := "") k_8 (by decide) rfl (Or.inl (tW hw 96 rfl)) (by decide +kernel)) <|
    allC (ok_iload (by decide +kernel)) <|
    allC (ok_aaload k_4 rfl (by decide +kernel)) <|
    allC (ok_iload (by decide +kernel)) <|
    allC (ok_iaload k_1 (by decide +kernel)) <|
    allC (ok_istore (by decide +kernel)) <|
    allC (ok_aloadN (k := 0) (by decide +kernel)) <|
    allC (ok_get (host := "") k_8 (by decide) rfl (Or.inl (tW hw 103 rfl)) (by decide +kernel)) <|
    allC (ok_iload (by decide +kernel)) <|
    allC (ok_baload k_3 (by decide +kernel)) <|
    allC (ok_if (o := 6) hT (by decide +kernel) (by decide) (by decide)) <|
    allC (ok_goto (o := 60) (by decide +kernel) (by decide) (by decide)) <|
    allC (ok_aloadN (k := 0) (by decide +kernel)) <|
    allC (ok_get (host := "") k_8 (by decide) rfl (Or.inl (tW hw 94 rfl)) (by decide +kernel)) <|
    allC (ok_iload (by decide +kernel)) <|
    allC (ok_iaload k_1 (by decide +kernel)) <|
    allC (ok_iconst (by decide +kernel)) <|
    allC (ok_isub2 hQ (by decide +kernel)) <|
    allC (ok_i2l (by decide +kernel)) <|
    allC (ok_iload (by decide +kernel)) <|
    allC (ok_iconst (by decide +kernel)) <|
    allC (ok_isub2 hQ (by decide +kernel)) <|
    allC (ok_i2l (by decide +kernel)) <|
    allC (ok_lmul (by decide +kernel)) <|
    allC (ok_lstore (by decide +kernel)) <|
    allC (ok_lload (by decide +kernel)) <|
    allC (ok_lloadN (k := 1) (by decide +kernel)) <|
    allC (ok_lcmp (by decide +kernel)) <|
    allC (ok_if (o := 35) hT (by decide +kernel) (by decide) (by decide)) <|
    allC (ok_aloadN (k := 0) (by decide +kernel)) <|
    allC (ok_aloadN (k := 0) (by decide +kernel)) <|
    allC (ok_iload (by decide +kernel)) <|
    allC (ok_iload (by decide +kernel)) <|
    allC (cP hA hC k_8 (by decide) mt_17 (tW hw 167 rfl) (tW hw 168 rfl) (tW hw 169 rfl) (tW hw 79 rfl) (tW hw 80 rfl) (tW hw 170 rfl) (by decide) pd_16 rfl (by decide +kernel)) <|
    allC (ok_dload (by decide +kernel)) <|
    allC (cP hA hC k_8 (by decide) mt_20 (tW hw 178 rfl) (tW hw 179 rfl) (tW hw 180 rfl) (tW hw 79 rfl) (tW hw 80 rfl) (tW hw 181 rfl) (by decide) pd_17 rfl (by decide +kernel)) <|
    allC (ok_if (o := 18) hT (by decide +kernel) (by decide) (by decide)) <|
    allC (ok_lload (by decide +kernel)) <|
    allC (ok_lstoreN (k := 1) (by decide +kernel)) <|
    allC (ok_aloadN (k := 0) (by decide +kernel)) <|
    allC (ok_iload (by decide +kernel)) <|
    allC (ok_put (host := "") hA k_8 (by decide) rfl (ko_8 hw) (Or.inl (tW hw 155 rfl)) (Or.inl (tW hw 156 rfl)) pf_3 (fun _ q => okI q) (by decide +kernel)) <|
    allC (ok_aloadN (k := 0) (by decide +kernel)) <|
    allC (ok_iload (by decide +kernel)) <|
    allC (ok_put (host := "") hA k_8 (by decide) rfl (ko_8 hw) (Or.inl (tW hw 184 rfl)) (Or.inl (tW hw 185 rfl)) pf_3 (fun _ q => okI q) (by decide +kernel)) <|
    allC (ok_iinc (by decide +kernel)) <|
    allC (ok_goto (o := (-97)) (by decide +kernel) (by decide) (by decide)) <|
    allC (ok_iinc (by decide +kernel)) <|
    allC (ok_aloadN (k := 0) (by decide +kernel)) <|
    allC (ok_get (host := "") k_8 (by decide) rfl (Or.inl (tW hw 155 rfl)) (by decide +kernel)) <|
    allC (ok_if (o := 17) hT (by decide +kernel) (by decide) (by decide)) <|
    allC (ok_lloadN (k := 1) (by decide +kernel)) <|
    allC (ok_lload (by decide +kernel)) <|
    allC (ok_lcmp (by decide +kernel)) <|
    allC (ok_if (o := 8) hT (by decide +kernel) (by decide) (by decide)) <|
    allC (ok_iconst (by decide +kernel)) <|
    allC (ok_rZ rfl (by decide +kernel)) <|
    allC (ok_aloadN (k := 0) (by decide +kernel)) <|
    allC (ok_get (host := "") k_8 (by decide) rfl (Or.inl (tW hw 126 rfl)) (by decide +kernel)) <|
    allC (ok_iload (by decide +kernel)) <|
    allC (cV hA hC k_9 (by decide) mt_15 (tW hw 158 rfl) (tW hw 159 rfl) (tW hw 161 rfl) (tW hw 160 rfl) (tW hw 109 rfl) (tW hw 162 rfl) (by decide) pd_1 rfl (by decide +kernel)) <|
    allC (ok_istore (by decide +kernel)) <|
    allC (ok_iload (by decide +kernel)) <|
    allC (ok_if (o := 137) hT (by decide +kernel) (by decide) (by decide)) <|
    allC (ok_iinc (by decide +kernel)) <|
    allC (ok_goto (o := (-343)) (by decide +kernel) (by decide) (by decide)) <|
    allC (ok_aloadN (k := 0) (by decide +kernel)) <|
    allC (ok_get (host := "") k_8 (by decide) rfl (Or.inl (tW hw 155 rfl)) (by decide +kernel)) <|
    allC (ok_if (o := 7) hT (by decide +kernel) (by decide) (by decide)) <|
    allC (ok_iconst (by decide +kernel)) <|
    allC (ok_rZ rfl (by decide +kernel)) <|
    allN
set_option maxRecDepth 65536 in
set_option maxHeartbeats 4000000 in
theorem okp_15 {l : Launch} {Z : State} {a0 : Array Value} {A : Den} {bs : Nat} {tp : Tape} {tq : Tq} {call : Caller} (hw : ∀ d ∈ tables_1, d.before a0 Z = true) (hA : AdOk A 0 bs) (hT : TpOk A tp) (hU : TaOk A tp) (hQ : TqOk A tq) (hC : CallOk l KK A Z 0 bs wt (fun i => (MT i).1) (fun i => (MT i).2.1) (fun i => (MT i).2.2.1) (fun i => (MT i).2.2.2.1) (fun i => (MT i).2.2.2.2) call) : ∀ x ∈ pg_15 tp tq, OkE l KK A Z 0 bs wt "com/example/foreshock/foreshock/planning/BasisFactorization$CountLists" prog_25_method_5_code 2 ((Option.some FieldType.int)) "first" rm_15 call x := by
  unfold pg_15
  exact
    allC (ok_aloadN (k := 0) (by decide +kernel)) <|
    allC (ok_get (host := "") k_9 (by decide) rfl (Or.inl (tW hw 114 rfl)) (by decide +kernel)) <|
    allC (ok_iloadN (k := 1) (by decide +kernel)) <|
    allC (ok_iaload k_1 (by decide +kernel)) <|
    allC (ok_rI rfl (by decide +kernel)) <|
    allN
set_option maxRecDepth 65536 in
set_option maxHeartbeats 4000000 in
theorem okp_16 {l : Launch} {Z : State} {a0 : Array Value} {A : Den} {bs : Nat} {tp : Tape} {tq : Tq} {call : Caller} (hw : ∀ d ∈ tables_1, d.before a0 Z = true) (hA : AdOk A 0 bs) (hT : TpOk A tp) (hU : TaOk A tp) (hQ : TqOk A tq) (hC : CallOk l KK A Z 0 bs wt (fun i => (MT i).1) (fun i => (MT i).2.1) (fun i => (MT i).2.2.1) (fun i => (MT i).2.2.2.1) (fun i => (MT i).2.2.2.2) call) : ∀ x ∈ pg_16 tp tq, OkE l KK A Z 0 bs wt "com/example/foreshock/foreshock/planning/BasisFactorization$Elimination" prog_26_method_10_code 6 ((Option.some FieldType.double)) "largestIn" rm_16 call x := by
  unfold pg_16
  exact
    allC (ok_dconst0 hT (by decide +kernel)) <|
    allC (ok_dstoreN (k := 2) (by decide +kernel)) <|
    allC (ok_iconst (by decide +kernel)) <|
    allC (ok_istore (by decide +kernel)) <|
    allC (ok_iload (by decide +kernel)) <|
    allC (ok_aloadN (k := 0) (by decide +kernel)) <|
    allC (ok_get (host := "") k_8 (by decide) rfl (Or.inl (tW hw 98 rfl)) (by decide +kernel)) <|
    allC (ok_iloadN (k := 1) (by decide +kernel)) <|
    allC (ok_iaload k_1 (by decide +kernel)) <|
    allC (ok_icmp (o := 45) (by decide +kernel) (by decide) (by decide)) <|
    allC (ok_aloadN (k := 0) (by decide +kernel)) <|
    allC (ok_get (host := "") k_8 (by decide) rfl (Or.inl (tW hw 96 rfl)) (by decide +kernel)) <|
    allC (ok_iloadN (k := 1) (by decide +kernel)) <|
    allC (ok_aaload k_4 rfl (by decide +kernel)) <|
    allC (ok_iload (by decide +kernel)) <|
    allC (ok_iaload k_1 (by decide +kernel)) <|
    allC (ok_istore (by decide +kernel)) <|
    allC (ok_aloadN (k := 0) (by decide +kernel)) <|
    allC (ok_get (host := "") k_8 (by decide) rfl (Or.inl (tW hw 103 rfl)) (by decide +kernel)) <|
    allC (ok_iload (by decide +kernel)) <|
    allC (ok_baload k_3 (by decide +kernel)) <|
    allC (ok_if (o := 18) hT (by decide +kernel) (by decide) (by decide)) <|
    allC (ok_dloadN (k := 2) (by decide +kernel)) <|
    allC (ok_aloadN (k := 0) (by decide +kernel)) <|
    allC (ok_iload (by decide +kernel)) <|
    allC (ok_iloadN (k := 1) (by decide +kernel)) <|
    allC (cP hA hC k_8 (by decide) mt_17 (tW hw 167 rfl) (tW hw 168 rfl) (tW hw 169 rfl) (tW hw 79 rfl) (tW hw 80 rfl) (tW hw 170 rfl) (by decide) pd_16 rfl (by decide +kernel)) <|
    allC (ok_abs2 hT hU (tW hw 171 rfl) (tW hw 172 rfl) (tW hw 173 rfl) (tW hw 174 rfl) pd_18 (by decide +kernel)) <|
    allC (ok_max hT (tW hw 175 rfl) (tW hw 176 rfl) (tW hw 173 rfl) (tW hw 177 rfl) pd_19 (by decide +kernel)) <|
    allC (ok_dstoreN (k := 2) (by decide +kernel)) <|
    allC (ok_iinc (by decide +kernel)) <|
    allC (ok_goto (o := (-50)) (by decide +kernel) (by decide) (by decide)) <|
    allC (ok_dloadN (k := 2) (by decide +kernel)) <|
    allC (ok_rD rfl (by decide +kernel)) <|
    allN
set_option maxRecDepth 65536 in
set_option maxHeartbeats 4000000 in
theorem okp_17 {l : Launch} {Z : State} {a0 : Array Value} {A : Den} {bs : Nat} {tp : Tape} {tq : Tq} {call : Caller} (hw : ∀ d ∈ tables_1, d.before a0 Z = true) (hA : AdOk A 0 bs) (hT : TpOk A tp) (hU : TaOk A tp) (hQ : TqOk A tq) (hC : CallOk l KK A Z 0 bs wt (fun i => (MT i).1) (fun i => (MT i).2.1) (fun i => (MT i).2.2.1) (fun i => (MT i).2.2.2.1) (fun i => (MT i).2.2.2.2) call) : ∀ x ∈ pg_17 tp tq, OkE l KK A Z 0 bs wt "com/example/foreshock/foreshock/planning/BasisFactorization$Elimination" prog_26_method_9_code 4 ((Option.some FieldType.double)) "valueAt" rm_17 call x := by
  unfold pg_17
  exact
    allC (ok_iconst (by decide +kernel)) <|
    allC (ok_istoreN (k := 3) (by decide +kernel)) <|
    allC (ok_iloadN (k := 3) (by decide +kernel)) <|
    allC (ok_aloadN (k := 0) (by decide +kernel)) <|
    allC (ok_get (host := "") k_8 (by decide) rfl (Or.inl (tW hw 94 rfl)) (by decide +kernel)) <|
    allC (ok_iloadN (k := 1) (by decide +kernel)) <|
    allC (ok_iaload k_1 (by decide +kernel)) <|
    allC (ok_icmp (o := 30) (by decide +kernel) (by decide) (by decide)) <|
    allC (ok_aloadN (k := 0) (by decide +kernel)) <|
    allC (ok_get (host := "") k_8 (by decide) rfl (Or.inl (tW hw 89 rfl)) (by decide +kernel)) <|
    allC (ok_iloadN (k := 1) (by decide +kernel)) <|
    allC (ok_aaload k_4 rfl (by decide +kernel)) <|
    allC (ok_iloadN (k := 3) (by decide +kernel)) <|
    allC (ok_iaload k_1 (by decide +kernel)) <|
    allC (ok_iloadN (k := 2) (by decide +kernel)) <|
    allC (ok_icmp (o := 12) (by decide +kernel) (by decide) (by decide)) <|
    allC (ok_aloadN (k := 0) (by decide +kernel)) <|
    allC (ok_get (host := "") k_8 (by decide) rfl (Or.inl (tW hw 92 rfl)) (by decide +kernel)) <|
    allC (ok_iloadN (k := 1) (by decide +kernel)) <|
    allC (ok_aaload k_5 rfl (by decide +kernel)) <|
    allC (ok_iloadN (k := 3) (by decide +kernel)) <|
    allC (ok_daload k_2 (by decide +kernel)) <|
    allC (ok_rD rfl (by decide +kernel)) <|
    allC (ok_iinc (by decide +kernel)) <|
    allC (ok_goto (o := (-34)) (by decide +kernel) (by decide) (by decide)) <|
    allN
set_option maxRecDepth 65536 in
set_option maxHeartbeats 4000000 in
theorem okp_20 {l : Launch} {Z : State} {a0 : Array Value} {A : Den} {bs : Nat} {tp : Tape} {tq : Tq} {call : Caller} (hw : ∀ d ∈ tables_1, d.before a0 Z = true) (hA : AdOk A 0 bs) (hT : TpOk A tp) (hU : TaOk A tp) (hQ : TqOk A tq) (hC : CallOk l KK A Z 0 bs wt (fun i => (MT i).1) (fun i => (MT i).2.1) (fun i => (MT i).2.2.1) (fun i => (MT i).2.2.2.1) (fun i => (MT i).2.2.2.2) call) : ∀ x ∈ pg_20 tp tq, OkE l KK A Z 0 bs wt "com/example/foreshock/foreshock/planning/BasisFactorization$Elimination" prog_26_method_3_code 5 ((Option.some FieldType.boolean)) "stable" rm_20 call x := by
  unfold pg_20
  exact
    allC (ok_dloadN (k := 1) (by decide +kernel)) <|
    allC (ok_abs2 hT hU (tW hw 171 rfl) (tW hw 172 rfl) (tW hw 173 rfl) (tW hw 174 rfl) pd_18 (by decide +kernel)) <|
    allC (ok_ldc2D hT (by decide) (tW hw 182 rfl) (by decide +kernel)) <|
    allC (ok_dcmp hT (by decide +kernel)) <|
    allC (ok_if (o := 20) hT (by decide +kernel) (by decide) (by decide)) <|
    allC (ok_dloadN (k := 1) (by decide +kernel)) <|
    allC (ok_abs2 hT hU (tW hw 171 rfl) (tW hw 172 rfl) (tW hw 173 rfl) (tW hw 174 rfl) pd_18 (by decide +kernel)) <|
    allC (ok_ldc2D hT (by decide) (tW hw 183 rfl) (by decide +kernel)) <|
    allC (ok_dloadN (k := 3) (by decide +kernel)) <|
    allC (ok_dmul hT (by decide +kernel)) <|
    allC (ok_dcmp hT (by decide +kernel)) <|
    allC (ok_if (o := 7) hT (by decide +kernel) (by decide) (by decide)) <|
    allC (ok_iconst (by decide +kernel)) <|
    allC (ok_goto (o := 4) (by decide +kernel) (by decide) (by decide)) <|
    allC (ok_rZ rfl (by decide +kernel)) <|
    allN
set_option maxRecDepth 65536 in
set_option maxHeartbeats 4000000 in
theorem okp_21 {l : Launch} {Z : State} {a0 : Array Value} {A : Den} {bs : Nat} {tp : Tape} {tq : Tq} {call : Caller} (hw : ∀ d ∈ tables_1, d.before a0 Z = true) (hA : AdOk A 0 bs) (hT : TpOk A tp) (hU : TaOk A tp) (hQ : TqOk A tq) (hC : CallOk l KK A Z 0 bs wt (fun i => (MT i).1) (fun i => (MT i).2.1) (fun i => (MT i).2.2.1) (fun i => (MT i).2.2.2.1) (fun i => (MT i).2.2.2.2) call) : ∀ x ∈ pg_21 tp tq, OkE l KK A Z 0 bs wt "com/example/foreshock/foreshock/planning/BasisFactorization$Elimination" prog_26_method_4_code 7 ((Option.none : Option FieldType)) "eliminate" rm_21 call x := by
  unfold pg_21
  exact
    allC (ok_aloadN (k := 0) (by decide +kernel)) <|
    allC (ok_aloadN (k := 0) (by decide +kernel)) <|
    allC (ok_get (host := "") k_8 (by decide) rfl (Or.inl (tW hw 155 rfl)) (by decide +kernel)) <|
    allC (ok_aloadN (k := 0) (by decide +kernel)) <|
    allC (ok_get (host := "") k_8 (by decide) rfl (Or.inl (tW hw 184 rfl)) (by decide +kernel)) <|
    allC (cP hA hC k_8 (by decide) mt_17 (tW hw 167 rfl) (tW hw 168 rfl) (tW hw 169 rfl) (tW hw 79 rfl) (tW hw 80 rfl) (tW hw 170 rfl) (by decide) pd_16 rfl (by decide +kernel)) <|
    allC (ok_dstoreN (k := 1) (by decide +kernel)) <|
    allC (ok_aloadN (k := 0) (by decide +kernel)) <|
    allC (ok_get (host := "") k_8 (by decide) rfl (Or.inl (tW hw 84 rfl)) (by decide +kernel)) <|
    allC (ok_get k_6 (by decide) rfl (Or.inr (tW hw 191 rfl)) (by decide +kernel)) <|
    allC (ok_aloadN (k := 0) (by decide +kernel)) <|
    allC (ok_get (host := "") k_8 (by decide) rfl (Or.inl (tW hw 84 rfl)) (by decide +kernel)) <|
    allC (ok_get k_6 (by decide) rfl (Or.inr (tW hw 192 rfl)) (by decide +kernel)) <|
    allC (ok_aloadN (k := 0) (by decide +kernel)) <|
    allC (ok_get (host := "") k_8 (by decide) rfl (Or.inl (tW hw 155 rfl)) (by decide +kernel)) <|
    allC (ok_iastore hA k_1 (by decide +kernel)) <|
    allC (ok_aloadN (k := 0) (by decide +kernel)) <|
    allC (ok_get (host := "") k_8 (by decide) rfl (Or.inl (tW hw 84 rfl)) (by decide +kernel)) <|
    allC (ok_get k_6 (by decide) rfl (Or.inr (tW hw 193 rfl)) (by decide +kernel)) <|
    allC (ok_aloadN (k := 0) (by decide +kernel)) <|
    allC (ok_get (host := "") k_8 (by decide) rfl (Or.inl (tW hw 84 rfl)) (by decide +kernel)) <|
    allC (ok_get k_6 (by decide) rfl (Or.inr (tW hw 192 rfl)) (by decide +kernel)) <|
    allC (ok_aloadN (k := 0) (by decide +kernel)) <|
    allC (ok_get (host := "") k_8 (by decide) rfl (Or.inl (tW hw 184 rfl)) (by decide +kernel)) <|
    allC (ok_iastore hA k_1 (by decide +kernel)) <|
    allC (ok_aloadN (k := 0) (by decide +kernel)) <|
    allC (ok_get (host := "") k_8 (by decide) rfl (Or.inl (tW hw 84 rfl)) (by decide +kernel)) <|
    allC (ok_get k_6 (by decide) rfl (Or.inr (tW hw 194 rfl)) (by decide +kernel)) <|
    allC (ok_aloadN (k := 0) (by decide +kernel)) <|
    allC (ok_get (host := "") k_8 (by decide) rfl (Or.inl (tW hw 84 rfl)) (by decide +kernel)) <|
    allC (ok_get k_6 (by decide) rfl (Or.inr (tW hw 192 rfl)) (by decide +kernel)) <|
    allC (ok_dloadN (k := 1) (by decide +kernel)) <|
    allC (ok_dastore hA k_2 (by decide +kernel)) <|
    allC (ok_aloadN (k := 0) (by decide +kernel)) <|
    allC (ok_get (host := "") k_8 (by decide) rfl (Or.inl (tW hw 103 rfl)) (by decide +kernel)) <|
    allC (ok_aloadN (k := 0) (by decide +kernel)) <|
    allC (ok_get (host := "") k_8 (by decide) rfl (Or.inl (tW hw 155 rfl)) (by decide +kernel)) <|
    allC (ok_iconst (by decide +kernel)) <|
    allC (ok_zastore hA k_3 (by decide +kernel)) <|
    allC (ok_aloadN (k := 0) (by decide +kernel)) <|
    allC (ok_get (host := "") k_8 (by decide) rfl (Or.inl (tW hw 105 rfl)) (by decide +kernel)) <|
    allC (ok_aloadN (k := 0) (by decide +kernel)) <|
    allC (ok_get (host := "") k_8 (by decide) rfl (Or.inl (tW hw 184 rfl)) (by decide +kernel)) <|
    allC (ok_iconst (by decide +kernel)) <|
    allC (ok_zastore hA k_3 (by decide +kernel)) <|
    allC (ok_aloadN (k := 0) (by decide +kernel)) <|
    allC (ok_get (host := "") k_8 (by decide) rfl (Or.inl (tW hw 126 rfl)) (by decide +kernel)) <|
    allC (ok_aloadN (k := 0) (by decide +kernel)) <|
    allC (ok_get (host := "") k_8 (by decide) rfl (Or.inl (tW hw 155 rfl)) (by decide +kernel)) <|
    allC (cV hA hC k_9 (by decide) mt_22 (tW hw 195 rfl) (tW hw 196 rfl) (tW hw 198 rfl) (tW hw 197 rfl) (tW hw 109 rfl) (tW hw 199 rfl) (by decide) pd_4 rfl (by decide +kernel)) <|
    allC (ok_aloadN (k := 0) (by decide +kernel)) <|
    allC (ok_get (host := "") k_8 (by decide) rfl (Or.inl (tW hw 128 rfl)) (by decide +kernel)) <|
    allC (ok_aloadN (k := 0) (by decide +kernel)) <|
    allC (ok_get (host := "") k_8 (by decide) rfl (Or.inl (tW hw 184 rfl)) (by decide +kernel)) <|
    allC (cV hA hC k_9 (by decide) mt_22 (tW hw 195 rfl) (tW hw 196 rfl) (tW hw 198 rfl) (tW hw 197 rfl) (tW hw 109 rfl) (tW hw 199 rfl) (by decide) pd_4 rfl (by decide +kernel)) <|
    allC (ok_iconst (by decide +kernel)) <|
    allC (ok_istoreN (k := 3) (by decide +kernel)) <|
    allC (ok_iloadN (k := 3) (by decide +kernel)) <|
    allC (ok_aloadN (k := 0) (by decide +kernel)) <|
    allC (ok_get (host := "") k_8 (by decide) rfl (Or.inl (tW hw 94 rfl)) (by decide +kernel)) <|
    allC (ok_aloadN (k := 0) (by decide +kernel)) <|
    allC (ok_get (host := "") k_8 (by decide) rfl (Or.inl (tW hw 155 rfl)) (by decide +kernel)) <|
    allC (ok_iaload k_1 (by decide +kernel)) <|
    allC (ok_icmp (o := 60) (by decide +kernel) (by decide) (by decide)) <|
    allC (ok_aloadN (k := 0) (by decide +kernel)) <|
    allC (ok_get (host := "") k_8 (by decide) rfl (Or.inl (tW hw 89 rfl)) (by decide +kernel)) <|
    allC (ok_aloadN (k := 0) (by decide +kernel)) <|
    allC (ok_get (host := "") k_8 (by decide) rfl (Or.inl (tW hw 155 rfl)) (by decide +kernel)) <|
    allC (ok_aaload k_4 rfl (by decide +kernel)) <|
    allC (ok_iloadN (k := 3) (by decide +kernel)) <|
    allC (ok_iaload k_1 (by decide +kernel)) <|
    allC (ok_istore (by decide +kernel)) <|
    allC (ok_iload (by decide +kernel)) <|
    allC (ok_aloadN (k := 0) (by decide +kernel)) <|
    allC (ok_get (host := "") k_8 (by decide) rfl (Or.inl (tW hw 184 rfl)) (by decide +kernel)) <|
    allC (ok_icmp (o := 32) (by decide +kernel) (by decide) (by decide)) <|
    allC (ok_aloadN (k := 0) (by decide +kernel)) <|
    allC (ok_get (host := "") k_8 (by decide) rfl (Or.inl (tW hw 84 rfl)) (by decide +kernel)) <|
    allC (ok_get k_6 (by decide) rfl (Or.inr (tW hw 200 rfl)) (by decide +kernel)) <|
    allC (ok_iload (by decide +kernel)) <|
    allC (ok_aloadN (k := 0) (by decide +kernel)) <|
    allC (ok_get (host := "") k_8 (by decide) rfl (Or.inl (tW hw 92 rfl)) (by decide +kernel)) <|
    allC (ok_aloadN (k := 0) (by decide +kernel)) <|
    allC (ok_get (host := "") k_8 (by decide) rfl (Or.inl (tW hw 155 rfl)) (by decide +kernel)) <|
    allC (ok_aaload k_5 rfl (by decide +kernel)) <|
    allC (ok_iloadN (k := 3) (by decide +kernel)) <|
    allC (ok_daload k_2 (by decide +kernel)) <|
    allC (cV hA hC k_7 (by decide) mt_23 (tW hw 201 rfl) (tW hw 202 rfl) (tW hw 204 rfl) (tW hw 203 rfl) (tW hw 29 rfl) (tW hw 205 rfl) (by decide) pd_20 rfl (by decide +kernel)) <|
    allC (ok_aloadN (k := 0) (by decide +kernel)) <|
    allC (ok_iload (by decide +kernel)) <|
    allC (cP hA hC k_8 (by decide) mt_24 (tW hw 206 rfl) (tW hw 207 rfl) (tW hw 208 rfl) (tW hw 79 rfl) (tW hw 80 rfl) (tW hw 209 rfl) (by decide) pd_4 rfl (by decide +kernel)) <|
    allC (ok_iinc (by decide +kernel)) <|
    allC (ok_goto (o := (-67)) (by decide +kernel) (by decide) (by decide)) <|
    allC (ok_aloadN (k := 0) (by decide +kernel)) <|
    allC (ok_get (host := "") k_8 (by decide) rfl (Or.inl (tW hw 84 rfl)) (by decide +kernel)) <|
    allC (ok_get k_6 (by decide) rfl (Or.inr (tW hw 200 rfl)) (by decide +kernel)) <|
    allC (cV hA hC k_7 (by decide) mt_26 (tW hw 217 rfl) (tW hw 218 rfl) (tW hw 220 rfl) (tW hw 219 rfl) (tW hw 29 rfl) (tW hw 221 rfl) (by decide) pd_8 rfl (by decide +kernel)) <|
    allC (ok_iconst (by decide +kernel)) <|
    allC (ok_istoreN (k := 3) (by decide +kernel)) <|
    allC (ok_iloadN (k := 3) (by decide +kernel)) <|
    allC (ok_aloadN (k := 0) (by decide +kernel)) <|
    allC (ok_get (host := "") k_8 (by decide) rfl (Or.inl (tW hw 98 rfl)) (by decide +kernel)) <|
    allC (ok_aloadN (k := 0) (by decide +kernel)) <|
    allC (ok_get (host := "") k_8 (by decide) rfl (Or.inl (tW hw 184 rfl)) (by decide +kernel)) <|
    allC (ok_iaload k_1 (by decide +kernel)) <|
    allC (ok_icmp (o := 68) (by decide +kernel) (by decide) (by decide)) <|
    allC (ok_aloadN (k := 0) (by decide +kernel)) <|
    allC (ok_get (host := "") k_8 (by decide) rfl (Or.inl (tW hw 96 rfl)) (by decide +kernel)) <|
    allC (ok_aloadN (k := 0) (by decide +kernel)) <|
    allC (ok_get (host := "") k_8 (by decide) rfl (Or.inl (tW hw 184 rfl)) (by decide +kernel)) <|
    allC (ok_aaload k_4 rfl (by decide +kernel)) <|
    allC (ok_iloadN (k := 3) (by decide +kernel)) <|
    allC (ok_iaload k_1 (by decide +kernel)) <|
    allC (ok_istore (by decide +kernel)) <|
    allC (ok_aloadN (k := 0) (by decide +kernel)) <|
    allC (ok_get (host := "") k_8 (by decide) rfl (Or.inl (tW hw 103 rfl)) (by decide +kernel)) <|
    allC (ok_iload (by decide +kernel)) <|
    allC (ok_baload k_3 (by decide +kernel)) <|
    allC (ok_if (o := 39) hT (by decide +kernel) (by decide) (by decide)) <|
    allC (ok_aloadN (k := 0) (by decide +kernel)) <|
    allC (ok_iload (by decide +kernel)) <|
    allC (ok_aloadN (k := 0) (by decide +kernel)) <|
    allC (ok_get (host := "") k_8 (by decide) rfl (Or.inl (tW hw 184 rfl)) (by decide +kernel)) <|
    allC (cP hA hC k_8 (by decide) mt_17 (tW hw 167 rfl) (tW hw 168 rfl) (tW hw 169 rfl) (tW hw 79 rfl) (tW hw 80 rfl) (tW hw 170 rfl) (by decide) pd_16 rfl (by decide +kernel)) <|
    allC (ok_dloadN (k := 1) (by decide +kernel)) <|
    allC (ok_ddiv hT (by decide +kernel)) <|
    allC (ok_dstore (by decide +kernel)) <|
    allC (ok_aloadN (k := 0) (by decide +kernel)) <|
    allC (ok_get (host := "") k_8 (by decide) rfl (Or.inl (tW hw 84 rfl)) (by decide +kernel)) <|
    allC (ok_get k_6 (by decide) rfl (Or.inr (tW hw 222 rfl)) (by decide +kernel)) <|
    allC (ok_iload (by decide +kernel)) <|
    allC (ok_dload (by decide +kernel)) <|
    allC (cV hA hC k_7 (by decide) mt_23 (tW hw 201 rfl) (tW hw 202 rfl) (tW hw 204 rfl) (tW hw 203 rfl) (tW hw 29 rfl) (tW hw 205 rfl) (by decide) pd_20 rfl (by decide +kernel)) <|
    allC (ok_aloadN (k := 0) (by decide +kernel)) <|
    allC (ok_iload (by decide +kernel)) <|
    allC (ok_dload (by decide +kernel)) <|
    allC (cP hA hC k_8 (by decide) mt_35 (tW hw 269 rfl) (tW hw 270 rfl) (tW hw 271 rfl) (tW hw 79 rfl) (tW hw 80 rfl) (tW hw 272 rfl) (by decide) pd_20 rfl (by decide +kernel)) <|
    allC (ok_iinc (by decide +kernel)) <|
    allC (ok_goto (o := (-75)) (by decide +kernel) (by decide) (by decide)) <|
    allC (ok_aloadN (k := 0) (by decide +kernel)) <|
    allC (ok_get (host := "") k_8 (by decide) rfl (Or.inl (tW hw 84 rfl)) (by decide +kernel)) <|
    allC (ok_get k_6 (by decide) rfl (Or.inr (tW hw 222 rfl)) (by decide +kernel)) <|
    allC (cV hA hC k_7 (by decide) mt_26 (tW hw 217 rfl) (tW hw 218 rfl) (tW hw 220 rfl) (tW hw 219 rfl) (tW hw 29 rfl) (tW hw 221 rfl) (by decide) pd_8 rfl (by decide +kernel)) <|
    allC (ok_aloadN (k := 0) (by decide +kernel)) <|
    allC (ok_get (host := "") k_8 (by decide) rfl (Or.inl (tW hw 100 rfl)) (by decide +kernel)) <|
    allC (ok_aloadN (k := 0) (by decide +kernel)) <|
    allC (ok_get (host := "") k_8 (by decide) rfl (Or.inl (tW hw 184 rfl)) (by decide +kernel)) <|
    allC (ok_iconst (by decide +kernel)) <|
    allC (ok_iastore hA k_1 (by decide +kernel)) <|
    allC (ok_rV rfl (by decide +kernel)) <|
    allN
set_option maxRecDepth 65536 in
set_option maxHeartbeats 4000000 in
theorem okp_22 {l : Launch} {Z : State} {a0 : Array Value} {A : Den} {bs : Nat} {tp : Tape} {tq : Tq} {call : Caller} (hw : ∀ d ∈ tables_1, d.before a0 Z = true) (hA : AdOk A 0 bs) (hT : TpOk A tp) (hU : TaOk A tp) (hQ : TqOk A tq) (hC : CallOk l KK A Z 0 bs wt (fun i => (MT i).1) (fun i => (MT i).2.1) (fun i => (MT i).2.2.1) (fun i => (MT i).2.2.2.1) (fun i => (MT i).2.2.2.2) call) : ∀ x ∈ pg_22 tp tq, OkE l KK A Z 0 bs wt "com/example/foreshock/foreshock/planning/BasisFactorization$CountLists" prog_25_method_3_code 2 ((Option.none : Option FieldType)) "remove" rm_22 call x := by
  unfold pg_22
  exact
    allC (ok_aloadN (k := 0) (by decide +kernel)) <|
    allC (ok_get (host := "") k_9 (by decide) rfl (Or.inl (tW hw 122 rfl)) (by decide +kernel)) <|
    allC (ok_iloadN (k := 1) (by decide +kernel)) <|
    allC (ok_iaload k_1 (by decide +kernel)) <|
    allC (ok_if (o := 23) hT (by decide +kernel) (by decide) (by decide)) <|
    allC (ok_aloadN (k := 0) (by decide +kernel)) <|
    allC (ok_get (host := "") k_9 (by decide) rfl (Or.inl (tW hw 120 rfl)) (by decide +kernel)) <|
    allC (ok_aloadN (k := 0) (by decide +kernel)) <|
    allC (ok_get (host := "") k_9 (by decide) rfl (Or.inl (tW hw 122 rfl)) (by decide +kernel)) <|
    allC (ok_iloadN (k := 1) (by decide +kernel)) <|
    allC (ok_iaload k_1 (by decide +kernel)) <|
    allC (ok_aloadN (k := 0) (by decide +kernel)) <|
    allC (ok_get (host := "") k_9 (by decide) rfl (Or.inl (tW hw 120 rfl)) (by decide +kernel)) <|
    allC (ok_iloadN (k := 1) (by decide +kernel)) <|
    allC (ok_iaload k_1 (by decide +kernel)) <|
    allC (ok_iastore hA k_1 (by decide +kernel)) <|
    allC (ok_goto (o := 20) (by decide +kernel) (by decide) (by decide)) <|
    allC (ok_aloadN (k := 0) (by decide +kernel)) <|
    allC (ok_get (host := "") k_9 (by decide) rfl (Or.inl (tW hw 114 rfl)) (by decide +kernel)) <|
    allC (ok_aloadN (k := 0) (by decide +kernel)) <|
    allC (ok_get (host := "") k_9 (by decide) rfl (Or.inl (tW hw 124 rfl)) (by decide +kernel)) <|
    allC (ok_iloadN (k := 1) (by decide +kernel)) <|
    allC (ok_iaload k_1 (by decide +kernel)) <|
    allC (ok_aloadN (k := 0) (by decide +kernel)) <|
    allC (ok_get (host := "") k_9 (by decide) rfl (Or.inl (tW hw 120 rfl)) (by decide +kernel)) <|
    allC (ok_iloadN (k := 1) (by decide +kernel)) <|
    allC (ok_iaload k_1 (by decide +kernel)) <|
    allC (ok_iastore hA k_1 (by decide +kernel)) <|
    allC (ok_aloadN (k := 0) (by decide +kernel)) <|
    allC (ok_get (host := "") k_9 (by decide) rfl (Or.inl (tW hw 120 rfl)) (by decide +kernel)) <|
    allC (ok_iloadN (k := 1) (by decide +kernel)) <|
    allC (ok_iaload k_1 (by decide +kernel)) <|
    allC (ok_if (o := 20) hT (by decide +kernel) (by decide) (by decide)) <|
    allC (ok_aloadN (k := 0) (by decide +kernel)) <|
    allC (ok_get (host := "") k_9 (by decide) rfl (Or.inl (tW hw 122 rfl)) (by decide +kernel)) <|
    allC (ok_aloadN (k := 0) (by decide +kernel)) <|
    allC (ok_get (host := "") k_9 (by decide) rfl (Or.inl (tW hw 120 rfl)) (by decide +kernel)) <|
    allC (ok_iloadN (k := 1) (by decide +kernel)) <|
    allC (ok_iaload k_1 (by decide +kernel)) <|
    allC (ok_aloadN (k := 0) (by decide +kernel)) <|
    allC (ok_get (host := "") k_9 (by decide) rfl (Or.inl (tW hw 122 rfl)) (by decide +kernel)) <|
    allC (ok_iloadN (k := 1) (by decide +kernel)) <|
    allC (ok_iaload k_1 (by decide +kernel)) <|
    allC (ok_iastore hA k_1 (by decide +kernel)) <|
    allC (ok_rV rfl (by decide +kernel)) <|
    allN
set_option maxRecDepth 65536 in
set_option maxHeartbeats 4000000 in
theorem okp_23 {l : Launch} {Z : State} {a0 : Array Value} {A : Den} {bs : Nat} {tp : Tape} {tq : Tq} {call : Caller} (hw : ∀ d ∈ tables_1, d.before a0 Z = true) (hA : AdOk A 0 bs) (hT : TpOk A tp) (hU : TaOk A tp) (hQ : TqOk A tq) (hC : CallOk l KK A Z 0 bs wt (fun i => (MT i).1) (fun i => (MT i).2.1) (fun i => (MT i).2.2.1) (fun i => (MT i).2.2.2.1) (fun i => (MT i).2.2.2.2) call) : ∀ x ∈ pg_23 tp tq, OkE l KK A Z 0 bs wt "com/example/foreshock/foreshock/planning/BasisFactorization$EntryLists" prog_27_method_3_code 4 ((Option.none : Option FieldType)) "add" rm_23 call x := by
  unfold pg_23
  exact
    allC (ok_aloadN (k := 0) (by decide +kernel)) <|
    allC (ok_get (host := "") k_7 (by decide) rfl (Or.inl (tW hw 76 rfl)) (by decide +kernel)) <|
    allC (ok_aloadN (k := 0) (by decide +kernel)) <|
    allC (ok_get (host := "") k_7 (by decide) rfl (Or.inl (tW hw 36 rfl)) (by decide +kernel)) <|
    allC (ok_len (by decide +kernel)) <|
    allC (ok_icmp (o := 37) (by decide +kernel) (by decide) (by decide)) <|
    allC (ok_aloadN (k := 0) (by decide +kernel)) <|
    allC (ok_get (host := "") k_7 (by decide) rfl (Or.inl (tW hw 36 rfl)) (by decide +kernel)) <|
    allC (ok_aloadN (k := 0) (by decide +kernel)) <|
    allC (ok_get (host := "") k_7 (by decide) rfl (Or.inl (tW hw 76 rfl)) (by decide +kernel)) <|
    allC (ok_iloadN (k := 1) (by decide +kernel)) <|
    allC (ok_iastore hA k_1 (by decide +kernel)) <|
    allC (ok_aloadN (k := 0) (by decide +kernel)) <|
    allC (ok_get (host := "") k_7 (by decide) rfl (Or.inl (tW hw 38 rfl)) (by decide +kernel)) <|
    allC (ok_aloadN (k := 0) (by decide +kernel)) <|
    allC (ok_get (host := "") k_7 (by decide) rfl (Or.inl (tW hw 76 rfl)) (by decide +kernel)) <|
    allC (ok_dloadN (k := 2) (by decide +kernel)) <|
    allC (ok_dastore hA k_2 (by decide +kernel)) <|
    allC (ok_aloadN (k := 0) (by decide +kernel)) <|
    allC (ok_dup (by decide +kernel)) <|
    allC (ok_get (host := "") k_7 (by decide) rfl (Or.inl (tW hw 76 rfl)) (by decide +kernel)) <|
    allC (ok_iconst (by decide +kernel)) <|
    allC (ok_iadd2 hQ (by decide +kernel)) <|
    allC (ok_put (host := "") hA k_7 (by decide) rfl (ko_7 hw) (Or.inl (tW hw 76 rfl)) (Or.inl (tW hw 77 rfl)) pf_3 (fun _ q => okI q) (by decide +kernel)) <|
    allC (ok_rV rfl (by decide +kernel)) <|
    allN
set_option maxRecDepth 65536 in
set_option maxHeartbeats 4000000 in
theorem okp_24 {l : Launch} {Z : State} {a0 : Array Value} {A : Den} {bs : Nat} {tp : Tape} {tq : Tq} {call : Caller} (hw : ∀ d ∈ tables_1, d.before a0 Z = true) (hA : AdOk A 0 bs) (hT : TpOk A tp) (hU : TaOk A tp) (hQ : TqOk A tq) (hC : CallOk l KK A Z 0 bs wt (fun i => (MT i).1) (fun i => (MT i).2.1) (fun i => (MT i).2.2.1) (fun i => (MT i).2.2.2.1) (fun i => (MT i).2.2.2.2) call) : ∀ x ∈ pg_24 tp tq, OkE l KK A Z 0 bs wt "com/example/foreshock/foreshock/planning/BasisFactorization$Elimination" prog_26_method_8_code 2 ((Option.none : Option FieldType)) "dropPivotedRowFrom" rm_24 call x := by
  unfold pg_24
  exact
    allC (ok_aloadN (k := 0) (by decide +kernel)) <|
    allC (ok_get (host := "") k_8 (by decide) rfl (Or.inl (tW hw 100 rfl)) (by decide +kernel)) <|
    allC (ok_iloadN (k := 1) (by decide +kernel)) <|
    allC (ok_dup2 (by decide +kernel)) <|
    allC (ok_iaload k_1 (by decide +kernel)) <|
    allC (ok_iconst (by decide +kernel)) <|
    allC (ok_isub2 hQ (by decide +kernel)) <|
    allC (ok_iastore hA k_1 (by decide +kernel)) <|
    allC (ok_aloadN (k := 0) (by decide +kernel)) <|
    allC (ok_get (host := "") k_8 (by decide) rfl (Or.inl (tW hw 128 rfl)) (by decide +kernel)) <|
    allC (ok_iloadN (k := 1) (by decide +kernel)) <|
    allC (ok_aloadN (k := 0) (by decide +kernel)) <|
    allC (ok_get (host := "") k_8 (by decide) rfl (Or.inl (tW hw 100 rfl)) (by decide +kernel)) <|
    allC (ok_iloadN (k := 1) (by decide +kernel)) <|
    allC (ok_iaload k_1 (by decide +kernel)) <|
    allC (cV hA hC k_9 (by decide) mt_25 (tW hw 210 rfl) (tW hw 211 rfl) (tW hw 213 rfl) (tW hw 212 rfl) (tW hw 109 rfl) (tW hw 214 rfl) (by decide) pd_13 rfl (by decide +kernel)) <|
    allC (ok_rV rfl (by decide +kernel)) <|
    allN
set_option maxRecDepth 65536 in
set_option maxHeartbeats 4000000 in
theorem okp_25 {l : Launch} {Z : State} {a0 : Array Value} {A : Den} {bs : Nat} {tp : Tape} {tq : Tq} {call : Caller} (hw : ∀ d ∈ tables_1, d.before a0 Z = true) (hA : AdOk A 0 bs) (hT : TpOk A tp) (hU : TaOk A tp) (hQ : TqOk A tq) (hC : CallOk l KK A Z 0 bs wt (fun i => (MT i).1) (fun i => (MT i).2.1) (fun i => (MT i).2.2.1) (fun i => (MT i).2.2.2.1) (fun i => (MT i).2.2.2.2) call) : ∀ x ∈ pg_25 tp tq, OkE l KK A Z 0 bs wt "com/example/foreshock/foreshock/planning/BasisFactorization$CountLists" prog_25_method_4_code 3 ((Option.none : Option FieldType)) "move" rm_25 call x := by
  unfold pg_25
  exact
    allC (ok_aloadN (k := 0) (by decide +kernel)) <|
    allC (ok_iloadN (k := 1) (by decide +kernel)) <|
    allC (cV hA hC k_9 (by decide) mt_22 (tW hw 215 rfl) (tW hw 196 rfl) (tW hw 198 rfl) (tW hw 197 rfl) (tW hw 109 rfl) (tW hw 199 rfl) (by decide) pd_4 rfl (by decide +kernel)) <|
    allC (ok_aloadN (k := 0) (by decide +kernel)) <|
    allC (ok_iloadN (k := 1) (by decide +kernel)) <|
    allC (ok_iloadN (k := 2) (by decide +kernel)) <|
    allC (cV hA hC k_9 (by decide) mt_13 (tW hw 216 rfl) (tW hw 144 rfl) (tW hw 146 rfl) (tW hw 145 rfl) (tW hw 109 rfl) (tW hw 147 rfl) (by decide) pd_13 rfl (by decide +kernel)) <|
    allC (ok_rV rfl (by decide +kernel)) <|
    allN
set_option maxRecDepth 65536 in
set_option maxHeartbeats 4000000 in
theorem okp_26 {l : Launch} {Z : State} {a0 : Array Value} {A : Den} {bs : Nat} {tp : Tape} {tq : Tq} {call : Caller} (hw : ∀ d ∈ tables_1, d.before a0 Z = true) (hA : AdOk A 0 bs) (hT : TpOk A tp) (hU : TaOk A tp) (hQ : TqOk A tq) (hC : CallOk l KK A Z 0 bs wt (fun i => (MT i).1) (fun i => (MT i).2.1) (fun i => (MT i).2.2.1) (fun i => (MT i).2.2.2.1) (fun i => (MT i).2.2.2.2) call) : ∀ x ∈ pg_26 tp tq, OkE l KK A Z 0 bs wt "com/example/foreshock/foreshock/planning/BasisFactorization$EntryLists" prog_27_method_4_code 1 ((Option.none : Option FieldType)) "endList" rm_26 call x := by
  unfold pg_26
  exact
    allC (ok_aloadN (k := 0) (by decide +kernel)) <|
    allC (ok_get (host := "") k_7 (by decide) rfl (Or.inl (tW hw 74 rfl)) (by decide +kernel)) <|
    allC (ok_iconst (by decide +kernel)) <|
    allC (ok_iadd2 hQ (by decide +kernel)) <|
    allC (ok_aloadN (k := 0) (by decide +kernel)) <|
    allC (ok_get (host := "") k_7 (by decide) rfl (Or.inl (tW hw 34 rfl)) (by decide +kernel)) <|
    allC (ok_len (by decide +kernel)) <|
    allC (ok_icmp (o := 22) (by decide +kernel) (by decide) (by decide)) <|
    allC (ok_aloadN (k := 0) (by decide +kernel)) <|
    allC (ok_dup (by decide +kernel)) <|
    allC (ok_get (host := "") k_7 (by decide) rfl (Or.inl (tW hw 74 rfl)) (by decide +kernel)) <|
    allC (ok_iconst (by decide +kernel)) <|
    allC (ok_iadd2 hQ (by decide +kernel)) <|
    allC (ok_put (host := "") hA k_7 (by decide) rfl (ko_7 hw) (Or.inl (tW hw 74 rfl)) (Or.inl (tW hw 75 rfl)) pf_3 (fun _ q => okI q) (by decide +kernel)) <|
    allC (ok_aloadN (k := 0) (by decide +kernel)) <|
    allC (ok_get (host := "") k_7 (by decide) rfl (Or.inl (tW hw 34 rfl)) (by decide +kernel)) <|
    allC (ok_aloadN (k := 0) (by decide +kernel)) <|
    allC (ok_get (host := "") k_7 (by decide) rfl (Or.inl (tW hw 74 rfl)) (by decide +kernel)) <|
    allC (ok_aloadN (k := 0) (by decide +kernel)) <|
    allC (ok_get (host := "") k_7 (by decide) rfl (Or.inl (tW hw 76 rfl)) (by decide +kernel)) <|
    allC (ok_iastore hA k_1 (by decide +kernel)) <|
    allC (ok_rV rfl (by decide +kernel)) <|
    allN
set_option maxRecDepth 65536 in
set_option maxHeartbeats 4000000 in
theorem okp_27 {l : Launch} {Z : State} {a0 : Array Value} {A : Den} {bs : Nat} {tp : Tape} {tq : Tq} {call : Caller} (hw : ∀ d ∈ tables_1, d.before a0 Z = true) (hA : AdOk A 0 bs) (hT : TpOk A tp) (hU : TaOk A tp) (hQ : TqOk A tq) (hC : CallOk l KK A Z 0 bs wt (fun i => (MT i).1) (fun i => (MT i).2.1) (fun i => (MT i).2.2.1) (fun i => (MT i).2.2.2.1) (fun i => (MT i).2.2.2.2) call) : ∀ x ∈ pg_27 tp tq, OkE l KK A Z 0 bs wt "com/example/foreshock/foreshock/planning/BasisFactorization" prog_24_method_9_code 10 ((Option.none : Option FieldType)) "indexUpperByColumn" rm_27 call x := by
  unfold pg_27
  exact
    allC (ok_aloadN (k := 0) (by decide +kernel)) <|
    allC (ok_get (host := "") k_6 (by decide) rfl (Or.inl (tW hw 56 rfl)) (by decide +kernel)) <|
    allC (ok_newA (aty := .int) (dv' := .int 0) hA k_1 (tW hw 9 rfl) (by decide) rfl rfl rfl (by decide +kernel)) <|
    allC (ok_astoreN (k := 1) (by decide +kernel)) <|
    allC (ok_iconst (by decide +kernel)) <|
    allC (ok_istoreN (k := 2) (by decide +kernel)) <|
    allC (ok_iloadN (k := 2) (by decide +kernel)) <|
    allC (ok_aloadN (k := 0) (by decide +kernel)) <|
    allC (ok_get (host := "") k_6 (by decide) rfl (Or.inl (tW hw 148 rfl)) (by decide +kernel)) <|
    allC (ok_icmp (o := 18) (by decide +kernel) (by decide) (by decide)) <|
    allC (ok_aloadN (k := 1) (by decide +kernel)) <|
    allC (ok_aloadN (k := 0) (by decide +kernel)) <|
    allC (ok_get (host := "") k_6 (by decide) rfl (Or.inl (tW hw 60 rfl)) (by decide +kernel)) <|
    allC (ok_iloadN (k := 2) (by decide +kernel)) <|
    allC (ok_iaload k_1 (by decide +kernel)) <|
    allC (ok_iloadN (k := 2) (by decide +kernel)) <|
    allC (ok_iastore hA k_1 (by decide +kernel)) <|
    allC (ok_iinc (by decide +kernel)) <|
    allC (ok_goto (o := (-20)) (by decide +kernel) (by decide) (by decide)) <|
    allC (ok_aloadN (k := 0) (by decide +kernel)) <|
    allC (ok_get (host := "") k_6 (by decide) rfl (Or.inl (tW hw 42 rfl)) (by decide +kernel)) <|
    allC (ok_getR k_7 (by decide) rfl (tW hw 227 rfl) (by decide +kernel)) <|
    allC (ok_istoreN (k := 2) (by decide +kernel)) <|
    allC (ok_aloadN (k := 0) (by decide +kernel)) <|
    allC (ok_get (host := "") k_6 (by decide) rfl (Or.inl (tW hw 148 rfl)) (by decide +kernel)) <|
    allC (ok_iconst (by decide +kernel)) <|
    allC (ok_iadd2 hQ (by decide +kernel)) <|
    allC (ok_newA (aty := .int) (dv' := .int 0) hA k_1 (tW hw 9 rfl) (by decide) rfl rfl rfl (by decide +kernel)) <|
    allC (ok_astoreN (k := 3) (by decide +kernel)) <|
    allC (ok_iconst (by decide +kernel)) <|
    allC (ok_istore (by decide +kernel)) <|
    allC (ok_iload (by decide +kernel)) <|
    allC (ok_iloadN (k := 2) (by decide +kernel)) <|
    allC (ok_icmp (o := 29) (by decide +kernel) (by decide) (by decide)) <|
    allC (ok_aloadN (k := 3) (by decide +kernel)) <|
    allC (ok_aloadN (k := 1) (by decide +kernel)) <|
    allC (ok_aloadN (k := 0) (by decide +kernel)) <|
    allC (ok_get (host := "") k_6 (by decide) rfl (Or.inl (tW hw 42 rfl)) (by decide +kernel)) <|
    allC (ok_getR k_7 (by decide) rfl (tW hw 228 rfl) (by decide +kernel)) <|
    allC (ok_iload (by decide +kernel)) <|
    allC (ok_iaload k_1 (by decide +kernel)) <|
    allC (ok_iaload k_1 (by decide +kernel)) <|
    allC (ok_iconst (by decide +kernel)) <|
    allC (ok_iadd2 hQ (by decide +kernel)) <|
    allC (ok_dup2 (by decide +kernel)) <|
    allC (ok_iaload k_1 (by decide +kernel)) <|
    allC (ok_iconst (by decide +kernel)) <|
    allC (ok_iadd2 hQ (by decide +kernel)) <|
    allC (ok_iastore hA k_1 (by decide +kernel)) <|
    allC (ok_iinc (by decide +kernel)) <|
    allC (ok_goto (o := (-29)) (by decide +kernel) (by decide) (by decide)) <|
    allC (ok_iconst (by decide +kernel)) <|
    allC (ok_istore (by decide +kernel)) <|
    allC (ok_iload (by decide +kernel)) <|
    allC (ok_aloadN (k := 0) (by decide +kernel)) <|
    allC (ok_get (host := "") k_6 (by decide) rfl (Or.inl (tW hw 148 rfl)) (by decide +kernel)) <|
    allC (ok_icmp (o := 22) (by decide +kernel) (by decide) (by decide)) <|
    allC (ok_aloadN (k := 3) (by decide +kernel)) <|
    allC (ok_iload (by decide +kernel)) <|
    allC (ok_iconst (by decide +kernel)) <|
    allC (ok_iadd2 hQ (by decide +kernel)) <|
    allC (ok_dup2 (by decide +kernel)) <|
    allC (ok_iaload k_1 (by decide +kernel)) <|
    allC (ok_aloadN (k := 3) (by decide +kernel)) <|
    allC (ok_iload (by decide +kernel)) <|
    allC (ok_iaload k_1 (by decide +kernel)) <|
    allC (ok_iadd2 hQ (by decide +kernel)) <|
    allC (ok_iastore hA k_1 (by decide +kernel)) <|
    allC (ok_iinc (by decide +kernel)) <|
    allC (ok_goto (o := (-25)) (by decide +kernel) (by decide) (by decide)) <|
    allC (ok_iloadN (k := 2) (by decide +kernel)) <|
    allC (ok_newA (aty := .int) (dv' := .int 0) hA k_1 (tW hw 9 rfl) (by decide) rfl rfl rfl (by decide +kernel)) <|
    allC (ok_astore (by decide +kernel)) <|
    allC (ok_iloadN (k := 2) (by decide +kernel)) <|
    allC (ok_newA (aty := .double) (dv' := .double 0) hA k_2 (tW hw 16 rfl) (by decide) rfl rfl (congrArg Value.double (hT.1 0 rfl).symm) (by decide +kernel)) <|
    allC (ok_astore (by decide +kernel)) <|
    allC (ok_aloadN (k := 3) (by decide +kernel)) <|
    allC (ok_aloadN (k := 0) (by decide +kernel)) <|
    allC (ok_get (host := "") k_6 (by decide) rfl (Or.inl (tW hw 148 rfl)) (by decide +kernel)) <|
    allC (ok_copy hA k_1 (own_copy hw) (tW hw 229 rfl) (tW hw 230 rfl) (tW hw 118 rfl) (tW hw 231 rfl) (by decide) pd_21 rfl (by decide +kernel)) <|
    allC (ok_astore (by decide +kernel)) <|
    allC (ok_iconst (by decide +kernel)) <|
    allC (ok_istore (by decide +kernel)) <|
    allC (ok_iload (by decide +kernel)) <|
    allC (ok_aloadN (k := 0) (by decide +kernel)) <|
    allC (ok_get (host := "") k_6 (by decide) rfl (Or.inl (tW hw 148 rfl)) (by decide +kernel)) <|
    allC (ok_icmp (o := 100) (by decide +kernel) (by decide) (by decide)) <|
    allC (ok_aloadN (k := 0) (by decide +kernel)) <|
    allC (ok_get (host := "") k_6 (by decide) rfl (Or.inl (tW hw 42 rfl)) (by decide +kernel)) <|
    allC (ok_getR k_7 (by decide) rfl (tW hw 239 rfl) (by decide +kernel)) <|
    allC (ok_iload (by decide +kernel)) <|
    allC (ok_iaload k_1 (by decide +kernel)) <|
    allC (ok_istore (by decide +kernel)) <|
    allC (ok_iload (by decide +kernel)) <|
    allC (ok_aloadN (k := 0) (by decide +kernel)) <|
    allC (ok_get (host := "") k_6 (by decide) rfl (Or.inl (tW hw 42 rfl)) (by decide +kernel)) <|
    allC (ok_getR k_7 (by decide) rfl (tW hw 239 rfl) (by decide +kernel)) <|
    allC (ok_iload (by decide +kernel)) <|
    allC (ok_iconst (by decide +kernel)) <|
    allC (ok_iadd2 hQ (by decide +kernel)) <|
    allC (ok_iaload k_1 (by decide +kernel)) <|
    allC (ok_icmp (o := 65) (by decide +kernel) (by decide) (by decide)) <|
    allC (ok_aloadN (k := 1) (by decide +kernel)) <|
    allC (ok_aloadN (k := 0) (by decide +kernel)) <|
    allC (ok_get (host := "") k_6 (by decide) rfl (Or.inl (tW hw 42 rfl)) (by decide +kernel)) <|
    allC (ok_getR k_7 (by decide) rfl (tW hw 228 rfl) (by decide +kernel)) <|
    allC (ok_iload (by decide +kernel)) <|
    allC (ok_iaload k_1 (by decide +kernel)) <|
    allC (ok_iaload k_1 (by decide +kernel)) <|
    allC (ok_istore (by decide +kernel)) <|
    allC (ok_aload (by decide +kernel)) <|
    allC (ok_aload (by decide +kernel)) <|
    allC (ok_iload (by decide +kernel)) <|
    allC (ok_iaload k_1 (by decide +kernel)) <|
    allC (ok_aloadN (k := 0) (by decide +kernel)) <|
    allC (ok_get (host := "") k_6 (by decide) rfl (Or.inl (tW hw 58 rfl)) (by decide +kernel)) <|
    allC (ok_iload (by decide +kernel)) <|
    allC (ok_iaload k_1 (by decide +kernel)) <|
    allC (ok_iastore hA k_1 (by decide +kernel)) <|
    allC (ok_aload (by decide +kernel)) <|
    allC (ok_aload (by decide +kernel)) <|
    allC (ok_iload (by decide +kernel)) <|
    allC (ok_iaload k_1 (by decide +kernel)) <|
    allC (ok_aloadN (k := 0) (by decide +kernel)) <|
    allC (ok_get (host := "") k_6 (by decide) rfl (Or.inl (tW hw 42 rfl)) (by decide +kernel)) <|
    allC (ok_getR k_7 (by decide) rfl (tW hw 240 rfl) (by decide +kernel)) <|
    allC (ok_iload (by decide +kernel)) <|
    allC (ok_daload k_2 (by decide +kernel)) <|
    allC (ok_dastore hA k_2 (by decide +kernel)) <|
    allC (ok_aload (by decide +kernel)) <|
    allC (ok_iload (by decide +kernel)) <|
    allC (ok_dup2 (by decide +kernel)) <|
    allC (ok_iaload k_1 (by decide +kernel)) <|
    allC (ok_iconst (by decide +kernel)) <|
    allC (ok_iadd2 hQ (by decide +kernel)) <|
    allC (ok_iastore hA k_1 (by decide +kernel)) <|
    allC (ok_iinc (by decide +kernel)) <|
    allC (ok_goto (o := (-76)) (by decide +kernel) (by decide) (by decide)) <|
    allC (ok_iinc (by decide +kernel)) <|
    allC (ok_goto (o := (-103)) (by decide +kernel) (by decide) (by decide)) <|
    allC (ok_aloadN (k := 0) (by decide +kernel)) <|
    allC (ok_get (host := "") k_6 (by decide) rfl (Or.inl (tW hw 44 rfl)) (by decide +kernel)) <|
    allC (cV hA hC k_7 (by decide) mt_8 (tW hw 69 rfl) (tW hw 70 rfl) (tW hw 72 rfl) (tW hw 71 rfl) (tW hw 29 rfl) (tW hw 73 rfl) (by decide) pd_8 rfl (by decide +kernel)) <|
    allC (ok_iconst (by decide +kernel)) <|
    allC (ok_istore (by decide +kernel)) <|
    allC (ok_iload (by decide +kernel)) <|
    allC (ok_aloadN (k := 0) (by decide +kernel)) <|
    allC (ok_get (host := "") k_6 (by decide) rfl (Or.inl (tW hw 148 rfl)) (by decide +kernel)) <|
    allC (ok_icmp (o := 56) (by decide +kernel) (by decide) (by decide)) <|
    allC (ok_aloadN (k := 3) (by decide +kernel)) <|
    allC (ok_iload (by decide +kernel)) <|
    allC (ok_iaload k_1 (by decide +kernel)) <|
    allC (ok_istore (by decide +kernel)) <|
    allC (ok_iload (by decide +kernel)) <|
    allC (ok_aloadN (k := 3) (by decide +kernel)) <|
    allC (ok_iload (by decide +kernel)) <|
    allC (ok_iconst (by decide +kernel)) <|
    allC (ok_iadd2 hQ (by decide +kernel)) <|
    allC (ok_iaload k_1 (by decide +kernel)) <|
    allC (ok_icmp (o := 26) (by decide +kernel) (by decide) (by decide)) <|
    allC (ok_aloadN (k := 0) (by decide +kernel)) <|
    allC (ok_get (host := "") k_6 (by decide) rfl (Or.inl (tW hw 44 rfl)) (by decide +kernel)) <|
    allC (ok_aload (by decide +kernel)) <|
    allC (ok_iload (by decide +kernel)) <|
    allC (ok_iaload k_1 (by decide +kernel)) <|
    allC (ok_aload (by decide +kernel)) <|
    allC (ok_iload (by decide +kernel)) <|
    allC (ok_daload k_2 (by decide +kernel)) <|
    allC (cV hA hC k_7 (by decide) mt_23 (tW hw 242 rfl) (tW hw 202 rfl) (tW hw 204 rfl) (tW hw 203 rfl) (tW hw 29 rfl) (tW hw 205 rfl) (by decide) pd_20 rfl (by decide +kernel)) <|
    allC (ok_iinc (by decide +kernel)) <|
    allC (ok_goto (o := (-31)) (by decide +kernel) (by decide) (by decide)) <|
    allC (ok_aloadN (k := 0) (by decide +kernel)) <|
    allC (ok_get (host := "") k_6 (by decide) rfl (Or.inl (tW hw 44 rfl)) (by decide +kernel)) <|
    allC (cV hA hC k_7 (by decide) mt_26 (tW hw 241 rfl) (tW hw 218 rfl) (tW hw 220 rfl) (tW hw 219 rfl) (tW hw 29 rfl) (tW hw 221 rfl) (by decide) pd_8 rfl (by decide +kernel)) <|
    allC (ok_iinc (by decide +kernel)) <|
    allC (ok_goto (o := (-59)) (by decide +kernel) (by decide) (by decide)) <|
    allC (ok_rV rfl (by decide +kernel)) <|
    allN
set_option maxRecDepth 65536 in
set_option maxHeartbeats 4000000 in
theorem okp_30 {l : Launch} {Z : State} {a0 : Array Value} {A : Den} {bs : Nat} {tp : Tape} {tq : Tq} {call : Caller} (hw : ∀ d ∈ tables_1, d.before a0 Z = true) (hA : AdOk A 0 bs) (hT : TpOk A tp) (hU : TaOk A tp) (hQ : TqOk A tq) (hC : CallOk l KK A Z 0 bs wt (fun i => (MT i).1) (fun i => (MT i).2.1) (fun i => (MT i).2.2.1) (fun i => (MT i).2.2.2.1) (fun i => (MT i).2.2.2.2) call) : ∀ x ∈ pg_30 tp tq, OkE l KK A Z 0 bs wt "com/example/foreshock/foreshock/planning/BasisFactorization$Elimination" prog_26_method_11_code 5 ((Option.some (FieldType.array FieldType.int))) "unpivoted" rm_30 call x := by
  unfold pg_30
  exact
    allC (ok_aloadN (k := 0) (by decide +kernel)) <|
    allC (ok_get (host := "") k_8 (by decide) rfl (Or.inl (tW hw 84 rfl)) (by decide +kernel)) <|
    allC (ok_get k_6 (by decide) rfl (Or.inr (tW hw 87 rfl)) (by decide +kernel)) <|
    allC (ok_aloadN (k := 0) (by decide +kernel)) <|
    allC (ok_get (host := "") k_8 (by decide) rfl (Or.inl (tW hw 84 rfl)) (by decide +kernel)) <|
    allC (ok_get k_6 (by decide) rfl (Or.inr (tW hw 192 rfl)) (by decide +kernel)) <|
    allC (ok_isub2 hQ (by decide +kernel)) <|
    allC (ok_newA (aty := .int) (dv' := .int 0) hA k_1 (tW hw 9 rfl) (by decide) rfl rfl rfl (by decide +kernel)) <|
    allC (ok_astoreN (k := 2) (by decide +kernel)) <|
    allC (ok_iconst (by decide +kernel)) <|
    allC (ok_istoreN (k := 3) (by decide +kernel)) <|
    allC (ok_iconst (by decide +kernel)) <|
    allC (ok_istore (by decide +kernel)) <|
    allC (ok_iload (by decide +kernel)) <|
    allC (ok_aloadN (k := 0) (by decide +kernel)) <|
    allC (ok_get (host := "") k_8 (by decide) rfl (Or.inl (tW hw 84 rfl)) (by decide +kernel)) <|
    allC (ok_get k_6 (by decide) rfl (Or.inr (tW hw 87 rfl)) (by decide +kernel)) <|
    allC (ok_icmp (o := 24) (by decide +kernel) (by decide) (by decide)) <|
    allC (ok_aloadN (k := 1) (by decide +kernel)) <|
    allC (ok_iload (by decide +kernel)) <|
    allC (ok_baload k_3 (by decide +kernel)) <|
    allC (ok_if (o := 11) hT (by decide +kernel) (by decide) (by decide)) <|
    allC (ok_iinc (by decide +kernel)) <|
    allC (ok_goto (o := (-30)) (by decide +kernel) (by decide) (by decide)) <|
    allC (ok_aloadN (k := 2) (by decide +kernel)) <|
    allC (ok_rA rfl rfl (by decide +kernel)) <|
    allN
set_option maxRecDepth 65536 in
set_option maxHeartbeats 4000000 in
theorem okp_31 {l : Launch} {Z : State} {a0 : Array Value} {A : Den} {bs : Nat} {tp : Tape} {tq : Tq} {call : Caller} (hw : ∀ d ∈ tables_1, d.before a0 Z = true) (hA : AdOk A 0 bs) (hT : TpOk A tp) (hU : TaOk A tp) (hQ : TqOk A tq) (hC : CallOk l KK A Z 0 bs wt (fun i => (MT i).1) (fun i => (MT i).2.1) (fun i => (MT i).2.2.1) (fun i => (MT i).2.2.2.1) (fun i => (MT i).2.2.2.2) call) : ∀ x ∈ pg_31 tp tq, OkE l KK A Z 0 bs wt "com/example/foreshock/foreshock/planning/BasisFactorizationSolveTransposedPinLaw" method_5_code 11 ((Option.none : Option FieldType)) "change" rm_31 call x := by
  unfold pg_31
  exact
    allC (ok_iloadN (k := 2) (by decide +kernel)) <|
    allC (ok_iconst (by decide +kernel)) <|
    allC (ok_iand2 hQ (by decide +kernel)) <|
    allC (ok_istore (by decide +kernel)) <|
    allC (ok_iloadN (k := 2) (by decide +kernel)) <|
    allC (ok_iconst (by decide +kernel)) <|
    allC (ok_iushr2 hQ (by decide +kernel)) <|
    allC (ok_iconst (by decide +kernel)) <|
    allC (ok_iand2 hQ (by decide +kernel)) <|
    allC (ok_if (o := 7) hT (by decide +kernel) (by decide) (by decide)) <|
    allC (ok_iconst (by decide +kernel)) <|
    allC (ok_goto (o := 4) (by decide +kernel) (by decide) (by decide)) <|
    allC (ok_iconst (by decide +kernel)) <|
    allC (ok_istore (by decide +kernel)) <|
    allC (ok_iloadN (k := 2) (by decide +kernel)) <|
    allC (ok_iconst (by decide +kernel)) <|
    allC (ok_iushr2 hQ (by decide +kernel)) <|
    allC (ok_ent hA hQ (own_entM hw) (tW hw 0 rfl) (tW hw 1 rfl) (tW hw 2 rfl) (tW hw 3 rfl) (by decide) pd_1 rfl (by decide +kernel)) <|
    allC (ok_istore (by decide +kernel)) <|
    allC (ok_iload (by decide +kernel)) <|
    allC (ok_if (o := 8) hT (by decide +kernel) (by decide) (by decide)) <|
    allC (ok_iload (by decide +kernel)) <|
    allC (ok_goto (o := 5) (by decide +kernel) (by decide) (by decide)) <|
    allC (ok_iload (by decide +kernel)) <|
    allC (ok_istore (by decide +kernel)) <|
    allC (ok_iload (by decide +kernel)) <|
    allC (ok_if (o := 8) hT (by decide +kernel) (by decide) (by decide)) <|
    allC (ok_iload (by decide +kernel)) <|
    allC (ok_goto (o := 5) (by decide +kernel) (by decide) (by decide)) <|
    allC (ok_iload (by decide +kernel)) <|
    allC (ok_istore (by decide +kernel)) <|
    allC (ok_aloadN (k := 1) (by decide +kernel)) <|
    allC (ok_iconst (by decide +kernel)) <|
    allC (ok_iaload k_1 (by decide +kernel)) <|
    allC (ok_iload (by decide +kernel)) <|
    allC (ok_imul2 hQ (by decide +kernel)) <|
    allC (ok_aloadN (k := 1) (by decide +kernel)) <|
    allC (ok_iconst (by decide +kernel)) <|
    allC (ok_iaload k_1 (by decide +kernel)) <|
    allC (ok_iload (by decide +kernel)) <|
    allC (ok_imul2 hQ (by decide +kernel)) <|
    allC (ok_iadd2 hQ (by decide +kernel)) <|
    allC (ok_istore (by decide +kernel)) <|
    allC (ok_aloadN (k := 1) (by decide +kernel)) <|
    allC (ok_iconst (by decide +kernel)) <|
    allC (ok_iaload k_1 (by decide +kernel)) <|
    allC (ok_iload (by decide +kernel)) <|
    allC (ok_imul2 hQ (by decide +kernel)) <|
    allC (ok_aloadN (k := 1) (by decide +kernel)) <|
    allC (ok_iconst (by decide +kernel)) <|
    allC (ok_iaload k_1 (by decide +kernel)) <|
    allC (ok_iload (by decide +kernel)) <|
    allC (ok_imul2 hQ (by decide +kernel)) <|
    allC (ok_iadd2 hQ (by decide +kernel)) <|
    allC (ok_istore (by decide +kernel)) <|
    allC (ok_aloadN (k := 3) (by decide +kernel)) <|
    allC (ok_iconst (by decide +kernel)) <|
    allC (ok_iload (by decide +kernel)) <|
    allC (ok_i2d hT (by decide +kernel)) <|
    allC (ok_dastore hA k_2 (by decide +kernel)) <|
    allC (ok_aloadN (k := 3) (by decide +kernel)) <|
    allC (ok_iconst (by decide +kernel)) <|
    allC (ok_iload (by decide +kernel)) <|
    allC (ok_i2d hT (by decide +kernel)) <|
    allC (ok_dastore hA k_2 (by decide +kernel)) <|
    allC (ok_aloadN (k := 0) (by decide +kernel)) <|
    allC (ok_iload (by decide +kernel)) <|
    allC (ok_aloadN (k := 3) (by decide +kernel)) <|
    allC (cV hA hC k_6 (by decide) mt_32 (tW hw 253 rfl) (tW hw 254 rfl) (tW hw 256 rfl) (tW hw 255 rfl) (tW hw 20 rfl) (tW hw 257 rfl) (by decide) pd_22 rfl (by decide +kernel)) <|
    allC (ok_iload (by decide +kernel)) <|
    allC (ok_if (o := 16) hT (by decide +kernel) (by decide) (by decide)) <|
    allC (ok_aloadN (k := 1) (by decide +kernel)) <|
    allC (ok_iconst (by decide +kernel)) <|
    allC (ok_iload (by decide +kernel)) <|
    allC (ok_iastore hA k_1 (by decide +kernel)) <|
    allC (ok_aloadN (k := 1) (by decide +kernel)) <|
    allC (ok_iconst (by decide +kernel)) <|
    allC (ok_iload (by decide +kernel)) <|
    allC (ok_iastore hA k_1 (by decide +kernel)) <|
    allC (ok_goto (o := 13) (by decide +kernel) (by decide) (by decide)) <|
    allC (ok_aloadN (k := 1) (by decide +kernel)) <|
    allC (ok_iconst (by decide +kernel)) <|
    allC (ok_iload (by decide +kernel)) <|
    allC (ok_iastore hA k_1 (by decide +kernel)) <|
    allC (ok_aloadN (k := 1) (by decide +kernel)) <|
    allC (ok_iconst (by decide +kernel)) <|
    allC (ok_iload (by decide +kernel)) <|
    allC (ok_iastore hA k_1 (by decide +kernel)) <|
    allC (ok_rV rfl (by decide +kernel)) <|
    allN
set_option maxRecDepth 65536 in
set_option maxHeartbeats 4000000 in
theorem okp_32 {l : Launch} {Z : State} {a0 : Array Value} {A : Den} {bs : Nat} {tp : Tape} {tq : Tq} {call : Caller} (hw : ∀ d ∈ tables_1, d.before a0 Z = true) (hA : AdOk A 0 bs) (hT : TpOk A tp) (hU : TaOk A tp) (hQ : TqOk A tq) (hC : CallOk l KK A Z 0 bs wt (fun i => (MT i).1) (fun i => (MT i).2.1) (fun i => (MT i).2.2.1) (fun i => (MT i).2.2.2.1) (fun i => (MT i).2.2.2.2) call) : ∀ x ∈ pg_32 tp tq, OkE l KK A Z 0 bs wt "com/example/foreshock/foreshock/planning/BasisFactorization" prog_24_method_6_code 4 ((Option.none : Option FieldType)) "replace" rm_32 call x := by
  unfold pg_32
  exact
    allC (ok_aloadN (k := 0) (by decide +kernel)) <|
    allC (ok_get (host := "") k_6 (by decide) rfl (Or.inl (tW hw 46 rfl)) (by decide +kernel)) <|
    allC (ok_getR k_7 (by decide) rfl (tW hw 258 rfl) (by decide +kernel)) <|
    allC (ok_aloadN (k := 0) (by decide +kernel)) <|
    allC (ok_get (host := "") k_6 (by decide) rfl (Or.inl (tW hw 48 rfl)) (by decide +kernel)) <|
    allC (ok_len (by decide +kernel)) <|
    allC (ok_icmp (o := 43) (by decide +kernel) (by decide) (by decide)) <|
    allC (ok_aloadN (k := 0) (by decide +kernel)) <|
    allC (ok_get (host := "") k_6 (by decide) rfl (Or.inl (tW hw 48 rfl)) (by decide +kernel)) <|
    allC (ok_aloadN (k := 0) (by decide +kernel)) <|
    allC (ok_get (host := "") k_6 (by decide) rfl (Or.inl (tW hw 46 rfl)) (by decide +kernel)) <|
    allC (ok_getR k_7 (by decide) rfl (tW hw 258 rfl) (by decide +kernel)) <|
    allC (ok_iloadN (k := 1) (by decide +kernel)) <|
    allC (ok_iastore hA k_1 (by decide +kernel)) <|
    allC (ok_aloadN (k := 0) (by decide +kernel)) <|
    allC (ok_get (host := "") k_6 (by decide) rfl (Or.inl (tW hw 50 rfl)) (by decide +kernel)) <|
    allC (ok_aloadN (k := 0) (by decide +kernel)) <|
    allC (ok_get (host := "") k_6 (by decide) rfl (Or.inl (tW hw 46 rfl)) (by decide +kernel)) <|
    allC (ok_getR k_7 (by decide) rfl (tW hw 258 rfl) (by decide +kernel)) <|
    allC (ok_aloadN (k := 2) (by decide +kernel)) <|
    allC (ok_iloadN (k := 1) (by decide +kernel)) <|
    allC (ok_daload k_2 (by decide +kernel)) <|
    allC (ok_dastore hA k_2 (by decide +kernel)) <|
    allC (ok_iconst (by decide +kernel)) <|
    allC (ok_istoreN (k := 3) (by decide +kernel)) <|
    allC (ok_iloadN (k := 3) (by decide +kernel)) <|
    allC (ok_aloadN (k := 0) (by decide +kernel)) <|
    allC (ok_get (host := "") k_6 (by decide) rfl (Or.inl (tW hw 56 rfl)) (by decide +kernel)) <|
    allC (ok_icmp (o := 38) (by decide +kernel) (by decide) (by decide)) <|
    allC (ok_iloadN (k := 3) (by decide +kernel)) <|
    allC (ok_iloadN (k := 1) (by decide +kernel)) <|
    allC (ok_icmp (o := 27) (by decide +kernel) (by decide) (by decide)) <|
    allC (ok_aloadN (k := 2) (by decide +kernel)) <|
    allC (ok_iloadN (k := 3) (by decide +kernel)) <|
    allC (ok_daload k_2 (by decide +kernel)) <|
    allC (ok_abs2 hT hU (tW hw 259 rfl) (tW hw 172 rfl) (tW hw 173 rfl) (tW hw 174 rfl) pd_18 (by decide +kernel)) <|
    allC (ok_ldc2D hT (by decide) (tW hw 260 rfl) (by decide +kernel)) <|
    allC (ok_dcmp hT (by decide +kernel)) <|
    allC (ok_if (o := 14) hT (by decide +kernel) (by decide) (by decide)) <|
    allC (ok_aloadN (k := 0) (by decide +kernel)) <|
    allC (ok_get (host := "") k_6 (by decide) rfl (Or.inl (tW hw 46 rfl)) (by decide +kernel)) <|
    allC (ok_iloadN (k := 3) (by decide +kernel)) <|
    allC (ok_aloadN (k := 2) (by decide +kernel)) <|
    allC (ok_iloadN (k := 3) (by decide +kernel)) <|
    allC (ok_daload k_2 (by decide +kernel)) <|
    allC (cV hA hC k_7 (by decide) mt_23 (tW hw 242 rfl) (tW hw 202 rfl) (tW hw 204 rfl) (tW hw 203 rfl) (tW hw 29 rfl) (tW hw 205 rfl) (by decide) pd_20 rfl (by decide +kernel)) <|
    allC (ok_iinc (by decide +kernel)) <|
    allC (ok_goto (o := (-40)) (by decide +kernel) (by decide) (by decide)) <|
    allC (ok_aloadN (k := 0) (by decide +kernel)) <|
    allC (ok_get (host := "") k_6 (by decide) rfl (Or.inl (tW hw 46 rfl)) (by decide +kernel)) <|
    allC (cV hA hC k_7 (by decide) mt_26 (tW hw 241 rfl) (tW hw 218 rfl) (tW hw 220 rfl) (tW hw 219 rfl) (tW hw 29 rfl) (tW hw 221 rfl) (by decide) pd_8 rfl (by decide +kernel)) <|
    allC (ok_rV rfl (by decide +kernel)) <|
    allN
set_option maxRecDepth 65536 in
set_option maxHeartbeats 4000000 in
theorem okp_33 {l : Launch} {Z : State} {a0 : Array Value} {A : Den} {bs : Nat} {tp : Tape} {tq : Tq} {call : Caller} (hw : ∀ d ∈ tables_1, d.before a0 Z = true) (hA : AdOk A 0 bs) (hT : TpOk A tp) (hU : TaOk A tp) (hQ : TqOk A tq) (hC : CallOk l KK A Z 0 bs wt (fun i => (MT i).1) (fun i => (MT i).2.1) (fun i => (MT i).2.2.1) (fun i => (MT i).2.2.2.1) (fun i => (MT i).2.2.2.2) call) : ∀ x ∈ pg_33 tp tq, OkE l KK A Z 0 bs wt "com/example/foreshock/foreshock/planning/BasisFactorization" prog_24_method_8_code 8 ((Option.none : Option FieldType)) "solveTransposed" rm_33 call x := by
  unfold pg_33
  exact
    allC (ok_aloadN (k := 0) (by decide +kernel)) <|
    allC (ok_get (host := "") k_6 (by decide) rfl (Or.inl (tW hw 46 rfl)) (by decide +kernel)) <|
    allC (ok_getR k_7 (by decide) rfl (tW hw 258 rfl) (by decide +kernel)) <|
    allC (ok_iconst (by decide +kernel)) <|
    allC (ok_isub2 hQ (by decide +kernel)) <|
    allC (ok_istoreN (k := 3) (by decide +kernel)) <|
    allC (ok_iloadN (k := 3) (by decide +kernel)) <|
    allC (ok_if (o := 97) hT (by decide +kernel) (by decide) (by decide)) <|
    allC (ok_aloadN (k := 0) (by decide +kernel)) <|
    allC (ok_get (host := "") k_6 (by decide) rfl (Or.inl (tW hw 48 rfl)) (by decide +kernel)) <|
    allC (ok_iloadN (k := 3) (by decide +kernel)) <|
    allC (ok_iaload k_1 (by decide +kernel)) <|
    allC (ok_istore (by decide +kernel)) <|
    allC (ok_aloadN (k := 1) (by decide +kernel)) <|
    allC (ok_iload (by decide +kernel)) <|
    allC (ok_daload k_2 (by decide +kernel)) <|
    allC (ok_dstore (by decide +kernel)) <|
    allC (ok_aloadN (k := 0) (by decide +kernel)) <|
    allC (ok_get (host := "") k_6 (by decide) rfl (Or.inl (tW hw 46 rfl)) (by decide +kernel)) <|
    allC (ok_getR k_7 (by decide) rfl (tW hw 239 rfl) (by decide +kernel)) <|
    allC (ok_iloadN (k := 3) (by decide +kernel)) <|
    allC (ok_iaload k_1 (by decide +kernel)) <|
    allC (ok_istore (by decide +kernel)) <|
    allC (ok_iload (by decide +kernel)) <|
    allC (ok_aloadN (k := 0) (by decide +kernel)) <|
    allC (ok_get (host := "") k_6 (by decide) rfl (Or.inl (tW hw 46 rfl)) (by decide +kernel)) <|
    allC (ok_getR k_7 (by decide) rfl (tW hw 239 rfl) (by decide +kernel)) <|
    allC (ok_iloadN (k := 3) (by decide +kernel)) <|
    allC (ok_iconst (by decide +kernel)) <|
    allC (ok_iadd2 hQ (by decide +kernel)) <|
    allC (ok_iaload k_1 (by decide +kernel)) <|
    allC (ok_icmp (o := 37) (by decide +kernel) (by decide) (by decide)) <|
    allC (ok_dload (by decide +kernel)) <|
    allC (ok_aloadN (k := 0) (by decide +kernel)) <|
    allC (ok_get (host := "") k_6 (by decide) rfl (Or.inl (tW hw 46 rfl)) (by decide +kernel)) <|
    allC (ok_getR k_7 (by decide) rfl (tW hw 240 rfl) (by decide +kernel)) <|
    allC (ok_iload (by decide +kernel)) <|
    allC (ok_daload k_2 (by decide +kernel)) <|
    allC (ok_aloadN (k := 1) (by decide +kernel)) <|
    allC (ok_aloadN (k := 0) (by decide +kernel)) <|
    allC (ok_get (host := "") k_6 (by decide) rfl (Or.inl (tW hw 46 rfl)) (by decide +kernel)) <|
    allC (ok_getR k_7 (by decide) rfl (tW hw 228 rfl) (by decide +kernel)) <|
    allC (ok_iload (by decide +kernel)) <|
    allC (ok_iaload k_1 (by decide +kernel)) <|
    allC (ok_daload k_2 (by decide +kernel)) <|
    allC (ok_dmul hT (by decide +kernel)) <|
    allC (ok_dsub hT (by decide +kernel)) <|
    allC (ok_dstore (by decide +kernel)) <|
    allC (ok_iinc (by decide +kernel)) <|
    allC (ok_goto (o := (-47)) (by decide +kernel) (by decide) (by decide)) <|
    allC (ok_aloadN (k := 1) (by decide +kernel)) <|
    allC (ok_iload (by decide +kernel)) <|
    allC (ok_dload (by decide +kernel)) <|
    allC (ok_aloadN (k := 0) (by decide +kernel)) <|
    allC (ok_get (host := "") k_6 (by decide) rfl (Or.inl (tW hw 50 rfl)) (by decide +kernel)) <|
    allC (ok_iloadN (k := 3) (by decide +kernel)) <|
    allC (ok_daload k_2 (by decide +kernel)) <|
    allC (ok_ddiv hT (by decide +kernel)) <|
    allC (ok_dastore hA k_2 (by decide +kernel)) <|
    allC (ok_iinc (by decide +kernel)) <|
    allC (ok_goto (o := (-95)) (by decide +kernel) (by decide) (by decide)) <|
    allC (ok_aloadN (k := 2) (by decide +kernel)) <|
    allC (ok_dconst0 hT (by decide +kernel)) <|
    allC (cS hA hC mt_34 (tW hw 266 rfl) (tW hw 267 rfl) (tW hw 118 rfl) (tW hw 268 rfl) (by decide) pd_23 rfl (by decide +kernel)) <|
    allC (ok_iconst (by decide +kernel)) <|
    allC (ok_istoreN (k := 3) (by decide +kernel)) <|
    allC (ok_iloadN (k := 3) (by decide +kernel)) <|
    allC (ok_aloadN (k := 0) (by decide +kernel)) <|
    allC (ok_get (host := "") k_6 (by decide) rfl (Or.inl (tW hw 148 rfl)) (by decide +kernel)) <|
    allC (ok_icmp (o := 104) (by decide +kernel) (by decide) (by decide)) <|
    allC (ok_aloadN (k := 1) (by decide +kernel)) <|
    allC (ok_aloadN (k := 0) (by decide +kernel)) <|
    allC (ok_get (host := "") k_6 (by decide) rfl (Or.inl (tW hw 60 rfl)) (by decide +kernel)) <|
    allC (ok_iloadN (k := 3) (by decide +kernel)) <|
    allC (ok_iaload k_1 (by decide +kernel)) <|
    allC (ok_daload k_2 (by decide +kernel)) <|
    allC (ok_aloadN (k := 0) (by decide +kernel)) <|
    allC (ok_get (host := "") k_6 (by decide) rfl (Or.inl (tW hw 62 rfl)) (by decide +kernel)) <|
    allC (ok_iloadN (k := 3) (by decide +kernel)) <|
    allC (ok_daload k_2 (by decide +kernel)) <|
    allC (ok_ddiv hT (by decide +kernel)) <|
    allC (ok_dstore (by decide +kernel)) <|
    allC (ok_aloadN (k := 2) (by decide +kernel)) <|
    allC (ok_aloadN (k := 0) (by decide +kernel)) <|
    allC (ok_get (host := "") k_6 (by decide) rfl (Or.inl (tW hw 58 rfl)) (by decide +kernel)) <|
    allC (ok_iloadN (k := 3) (by decide +kernel)) <|
    allC (ok_iaload k_1 (by decide +kernel)) <|
    allC (ok_dload (by decide +kernel)) <|
    allC (ok_dastore hA k_2 (by decide +kernel)) <|
    allC (ok_dload (by decide +kernel)) <|
    allC (ok_dconst0 hT (by decide +kernel)) <|
    allC (ok_dcmp hT (by decide +kernel)) <|
    allC (ok_if (o := 64) hT (by decide +kernel) (by decide) (by decide)) <|
    allC (ok_aloadN (k := 0) (by decide +kernel)) <|
    allC (ok_get (host := "") k_6 (by decide) rfl (Or.inl (tW hw 42 rfl)) (by decide +kernel)) <|
    allC (ok_getR k_7 (by decide) rfl (tW hw 239 rfl) (by decide +kernel)) <|
    allC (ok_iloadN (k := 3) (by decide +kernel)) <|
    allC (ok_iaload k_1 (by decide +kernel)) <|
    allC (ok_istore (by decide +kernel)) <|
    allC (ok_iload (by decide +kernel)) <|
    allC (ok_aloadN (k := 0) (by decide +kernel)) <|
    allC (ok_get (host := "") k_6 (by decide) rfl (Or.inl (tW hw 42 rfl)) (by decide +kernel)) <|
    allC (ok_getR k_7 (by decide) rfl (tW hw 239 rfl) (by decide +kernel)) <|
    allC (ok_iloadN (k := 3) (by decide +kernel)) <|
    allC (ok_iconst (by decide +kernel)) <|
    allC (ok_iadd2 hQ (by decide +kernel)) <|
    allC (ok_iaload k_1 (by decide +kernel)) <|
    allC (ok_icmp (o := 37) (by decide +kernel) (by decide) (by decide)) <|
    allC (ok_aloadN (k := 1) (by decide +kernel)) <|
    allC (ok_aloadN (k := 0) (by decide +kernel)) <|
    allC (ok_get (host := "") k_6 (by decide) rfl (Or.inl (tW hw 42 rfl)) (by decide +kernel)) <|
    allC (ok_getR k_7 (by decide) rfl (tW hw 228 rfl) (by decide +kernel)) <|
    allC (ok_iload (by decide +kernel)) <|
    allC (ok_iaload k_1 (by decide +kernel)) <|
    allC (ok_dup2 (by decide +kernel)) <|
    allC (ok_daload k_2 (by decide +kernel)) <|
    allC (ok_aloadN (k := 0) (by decide +kernel)) <|
    allC (ok_get (host := "") k_6 (by decide) rfl (Or.inl (tW hw 42 rfl)) (by decide +kernel)) <|
    allC (ok_getR k_7 (by decide) rfl (tW hw 240 rfl) (by decide +kernel)) <|
    allC (ok_iload (by decide +kernel)) <|
    allC (ok_daload k_2 (by decide +kernel)) <|
    allC (ok_dload (by decide +kernel)) <|
    allC (ok_dmul hT (by decide +kernel)) <|
    allC (ok_dsub hT (by decide +kernel)) <|
    allC (ok_dastore hA k_2 (by decide +kernel)) <|
    allC (ok_iinc (by decide +kernel)) <|
    allC (ok_goto (o := (-47)) (by decide +kernel) (by decide) (by decide)) <|
    allC (ok_iinc (by decide +kernel)) <|
    allC (ok_goto (o := (-106)) (by decide +kernel) (by decide) (by decide)) <|
    allC (ok_aloadN (k := 0) (by decide +kernel)) <|
    allC (ok_get (host := "") k_6 (by decide) rfl (Or.inl (tW hw 148 rfl)) (by decide +kernel)) <|
    allC (ok_iconst (by decide +kernel)) <|
    allC (ok_isub2 hQ (by decide +kernel)) <|
    allC (ok_istoreN (k := 3) (by decide +kernel)) <|
    allC (ok_iloadN (k := 3) (by decide +kernel)) <|
    allC (ok_if (o := 86) hT (by decide +kernel) (by decide) (by decide)) <|
    allC (ok_dconst0 hT (by decide +kernel)) <|
    allC (ok_dstore (by decide +kernel)) <|
    allC (ok_aloadN (k := 0) (by decide +kernel)) <|
    allC (ok_get (host := "") k_6 (by decide) rfl (Or.inl (tW hw 40 rfl)) (by decide +kernel)) <|
    allC (ok_getR k_7 (by decide) rfl (tW hw 239 rfl) (by decide +kernel)) <|
    allC (ok_iloadN (k := 3) (by decide +kernel)) <|
    allC (ok_iaload k_1 (by decide +kernel)) <|
    allC (ok_istore (by decide +kernel)) <|
    allC (ok_iload (by decide +kernel)) <|
    allC (ok_aloadN (k := 0) (by decide +kernel)) <|
    allC (ok_get (host := "") k_6 (by decide) rfl (Or.inl (tW hw 40 rfl)) (by decide +kernel)) <|
    allC (ok_getR k_7 (by decide) rfl (tW hw 239 rfl) (by decide +kernel)) <|
    allC (ok_iloadN (k := 3) (by decide +kernel)) <|
    allC (ok_iconst (by decide +kernel)) <|
    allC (ok_iadd2 hQ (by decide +kernel)) <|
    allC (ok_iaload k_1 (by decide +kernel)) <|
    allC (ok_icmp (o := 37) (by decide +kernel) (by decide) (by decide)) <|
    allC (ok_dload (by decide +kernel)) <|
    allC (ok_aloadN (k := 0) (by decide +kernel)) <|
    allC (ok_get (host := "") k_6 (by decide) rfl (Or.inl (tW hw 40 rfl)) (by decide +kernel)) <|
    allC (ok_getR k_7 (by decide) rfl (tW hw 240 rfl) (by decide +kernel)) <|
    allC (ok_iload (by decide +kernel)) <|
    allC (ok_daload k_2 (by decide +kernel)) <|
    allC (ok_aloadN (k := 2) (by decide +kernel)) <|
    allC (ok_aloadN (k := 0) (by decide +kernel)) <|
    allC (ok_get (host := "") k_6 (by decide) rfl (Or.inl (tW hw 40 rfl)) (by decide +kernel)) <|
    allC (ok_getR k_7 (by decide) rfl (tW hw 228 rfl) (by decide +kernel)) <|
    allC (ok_iload (by decide +kernel)) <|
    allC (ok_iaload k_1 (by decide +kernel)) <|
    allC (ok_daload k_2 (by decide +kernel)) <|
    allC (ok_dmul hT (by decide +kernel)) <|
    allC (ok_dadd hT (by decide +kernel)) <|
    allC (ok_dstore (by decide +kernel)) <|
    allC (ok_iinc (by decide +kernel)) <|
    allC (ok_goto (o := (-47)) (by decide +kernel) (by decide) (by decide)) <|
    allC (ok_aloadN (k := 2) (by decide +kernel)) <|
    allC (ok_aloadN (k := 0) (by decide +kernel)) <|
    allC (ok_get (host := "") k_6 (by decide) rfl (Or.inl (tW hw 58 rfl)) (by decide +kernel)) <|
    allC (ok_iloadN (k := 3) (by decide +kernel)) <|
    allC (ok_iaload k_1 (by decide +kernel)) <|
    allC (ok_dup2 (by decide +kernel)) <|
    allC (ok_daload k_2 (by decide +kernel)) <|
    allC (ok_dload (by decide +kernel)) <|
    allC (ok_dsub hT (by decide +kernel)) <|
    allC (ok_dastore hA k_2 (by decide +kernel)) <|
    allC (ok_iinc (by decide +kernel)) <|
    allC (ok_goto (o := (-84)) (by decide +kernel) (by decide) (by decide)) <|
    allC (ok_rV rfl (by decide +kernel)) <|
    allN
set_option maxRecDepth 65536 in
set_option maxHeartbeats 4000000 in
theorem okp_34 {l : Launch} {Z : State} {a0 : Array Value} {A : Den} {bs : Nat} {tp : Tape} {tq : Tq} {call : Caller} (hw : ∀ d ∈ tables_1, d.before a0 Z = true) (hA : AdOk A 0 bs) (hT : TpOk A tp) (hU : TaOk A tp) (hQ : TqOk A tq) (hC : CallOk l KK A Z 0 bs wt (fun i => (MT i).1) (fun i => (MT i).2.1) (fun i => (MT i).2.2.1) (fun i => (MT i).2.2.2.1) (fun i => (MT i).2.2.2.2) call) : ∀ x ∈ pg_34 tp tq, OkE l KK A Z 0 bs wt "java/util/Arrays" jdk_65_method_113_code 5 ((Option.none : Option FieldType)) "fill" rm_34 call x := by
  unfold pg_34
  exact
    allC (ok_iconst (by decide +kernel)) <|
    allC (ok_istoreN (k := 3) (by decide +kernel)) <|
    allC (ok_aloadN (k := 0) (by decide +kernel)) <|
    allC (ok_len (by decide +kernel)) <|
    allC (ok_istore (by decide +kernel)) <|
    allC (ok_iloadN (k := 3) (by decide +kernel)) <|
    allC (ok_iload (by decide +kernel)) <|
    allC (ok_icmp (o := 13) (by decide +kernel) (by decide) (by decide)) <|
    allC (ok_aloadN (k := 0) (by decide +kernel)) <|
    allC (ok_iloadN (k := 3) (by decide +kernel)) <|
    allC (ok_dloadN (k := 1) (by decide +kernel)) <|
    allC (ok_dastore hA k_2 (by decide +kernel)) <|
    allC (ok_iinc (by decide +kernel)) <|
    allC (ok_goto (o := (-13)) (by decide +kernel) (by decide) (by decide)) <|
    allC (ok_rV rfl (by decide +kernel)) <|
    allN
set_option maxRecDepth 65536 in
set_option maxHeartbeats 4000000 in
theorem okp_35 {l : Launch} {Z : State} {a0 : Array Value} {A : Den} {bs : Nat} {tp : Tape} {tq : Tq} {call : Caller} (hw : ∀ d ∈ tables_1, d.before a0 Z = true) (hA : AdOk A 0 bs) (hT : TpOk A tp) (hU : TaOk A tp) (hQ : TqOk A tq) (hC : CallOk l KK A Z 0 bs wt (fun i => (MT i).1) (fun i => (MT i).2.1) (fun i => (MT i).2.2.1) (fun i => (MT i).2.2.2.1) (fun i => (MT i).2.2.2.2) call) : ∀ x ∈ pg_35 tp tq, OkE l KK A Z 0 bs wt "com/example/foreshock/foreshock/planning/BasisFactorization$Elimination" prog_26_method_5_code 8 ((Option.none : Option FieldType)) "subtract" rm_35 call x := by
  unfold pg_35
  exact
    allC (ok_iconst (by decide +kernel)) <|
    allC (ok_istore (by decide +kernel)) <|
    allC (ok_iload (by decide +kernel)) <|
    allC (ok_aloadN (k := 0) (by decide +kernel)) <|
    allC (ok_get (host := "") k_8 (by decide) rfl (Or.inl (tW hw 94 rfl)) (by decide +kernel)) <|
    allC (ok_iloadN (k := 1) (by decide +kernel)) <|
    allC (ok_iaload k_1 (by decide +kernel)) <|
    allC (ok_icmp (o := 27) (by decide +kernel) (by decide) (by decide)) <|
    allC (ok_aloadN (k := 0) (by decide +kernel)) <|
    allC (ok_get (host := "") k_8 (by decide) rfl (Or.inl (tW hw 130 rfl)) (by decide +kernel)) <|
    allC (ok_aloadN (k := 0) (by decide +kernel)) <|
    allC (ok_get (host := "") k_8 (by decide) rfl (Or.inl (tW hw 89 rfl)) (by decide +kernel)) <|
    allC (ok_iloadN (k := 1) (by decide +kernel)) <|
    allC (ok_aaload k_4 rfl (by decide +kernel)) <|
    allC (ok_iload (by decide +kernel)) <|
    allC (ok_iaload k_1 (by decide +kernel)) <|
    allC (ok_iload (by decide +kernel)) <|
    allC (ok_iconst (by decide +kernel)) <|
    allC (ok_iadd2 hQ (by decide +kernel)) <|
    allC (ok_iastore hA k_1 (by decide +kernel)) <|
    allC (ok_iinc (by decide +kernel)) <|
    allC (ok_goto (o := (-32)) (by decide +kernel) (by decide) (by decide)) <|
    allC (ok_iconst (by decide +kernel)) <|
    allC (ok_istore (by decide +kernel)) <|
    allC (ok_iload (by decide +kernel)) <|
    allC (ok_aloadN (k := 0) (by decide +kernel)) <|
    allC (ok_get (host := "") k_8 (by decide) rfl (Or.inl (tW hw 94 rfl)) (by decide +kernel)) <|
    allC (ok_aloadN (k := 0) (by decide +kernel)) <|
    allC (ok_get (host := "") k_8 (by decide) rfl (Or.inl (tW hw 155 rfl)) (by decide +kernel)) <|
    allC (ok_iaload k_1 (by decide +kernel)) <|
    allC (ok_icmp (o := 115) (by decide +kernel) (by decide) (by decide)) <|
    allC (ok_aloadN (k := 0) (by decide +kernel)) <|
    allC (ok_get (host := "") k_8 (by decide) rfl (Or.inl (tW hw 89 rfl)) (by decide +kernel)) <|
    allC (ok_aloadN (k := 0) (by decide +kernel)) <|
    allC (ok_get (host := "") k_8 (by decide) rfl (Or.inl (tW hw 155 rfl)) (by decide +kernel)) <|
    allC (ok_aaload k_4 rfl (by decide +kernel)) <|
    allC (ok_iload (by decide +kernel)) <|
    allC (ok_iaload k_1 (by decide +kernel)) <|
    allC (ok_istore (by decide +kernel)) <|
    allC (ok_iload (by decide +kernel)) <|
    allC (ok_aloadN (k := 0) (by decide +kernel)) <|
    allC (ok_get (host := "") k_8 (by decide) rfl (Or.inl (tW hw 184 rfl)) (by decide +kernel)) <|
    allC (ok_icmp (o := 6) (by decide +kernel) (by decide) (by decide)) <|
    allC (ok_goto (o := 83) (by decide +kernel) (by decide) (by decide)) <|
    allC (ok_dloadN (k := 2) (by decide +kernel)) <|
    allC (ok_dneg2 hT (by decide +kernel)) <|
    allC (ok_aloadN (k := 0) (by decide +kernel)) <|
    allC (ok_get (host := "") k_8 (by decide) rfl (Or.inl (tW hw 92 rfl)) (by decide +kernel)) <|
    allC (ok_aloadN (k := 0) (by decide +kernel)) <|
    allC (ok_get (host := "") k_8 (by decide) rfl (Or.inl (tW hw 155 rfl)) (by decide +kernel)) <|
    allC (ok_aaload k_5 rfl (by decide +kernel)) <|
    allC (ok_iload (by decide +kernel)) <|
    allC (ok_daload k_2 (by decide +kernel)) <|
    allC (ok_dmul hT (by decide +kernel)) <|
    allC (ok_dstore (by decide +kernel)) <|
    allC (ok_aloadN (k := 0) (by decide +kernel)) <|
    allC (ok_get (host := "") k_8 (by decide) rfl (Or.inl (tW hw 130 rfl)) (by decide +kernel)) <|
    allC (ok_iload (by decide +kernel)) <|
    allC (ok_iaload k_1 (by decide +kernel)) <|
    allC (ok_if (o := 27) hT (by decide +kernel) (by decide) (by decide)) <|
    allC (ok_aloadN (k := 0) (by decide +kernel)) <|
    allC (ok_get (host := "") k_8 (by decide) rfl (Or.inl (tW hw 92 rfl)) (by decide +kernel)) <|
    allC (ok_iloadN (k := 1) (by decide +kernel)) <|
    allC (ok_aaload k_5 rfl (by decide +kernel)) <|
    allC (ok_aloadN (k := 0) (by decide +kernel)) <|
    allC (ok_get (host := "") k_8 (by decide) rfl (Or.inl (tW hw 130 rfl)) (by decide +kernel)) <|
    allC (ok_iload (by decide +kernel)) <|
    allC (ok_iaload k_1 (by decide +kernel)) <|
    allC (ok_iconst (by decide +kernel)) <|
    allC (ok_isub2 hQ (by decide +kernel)) <|
    allC (ok_dup2 (by decide +kernel)) <|
    allC (ok_daload k_2 (by decide +kernel)) <|
    allC (ok_dload (by decide +kernel)) <|
    allC (ok_dadd hT (by decide +kernel)) <|
    allC (ok_dastore hA k_2 (by decide +kernel)) <|
    allC (ok_goto (o := 32) (by decide +kernel) (by decide) (by decide)) <|
    allC (ok_iinc (by decide +kernel)) <|
    allC (ok_goto (o := (-123)) (by decide +kernel) (by decide) (by decide)) <|
    allC (ok_aloadN (k := 0) (by decide +kernel)) <|
    allC (ok_get (host := "") k_8 (by decide) rfl (Or.inl (tW hw 130 rfl)) (by decide +kernel)) <|
    allC (ok_aloadN (k := 0) (by decide +kernel)) <|
    allC (ok_get (host := "") k_8 (by decide) rfl (Or.inl (tW hw 184 rfl)) (by decide +kernel)) <|
    allC (ok_iaload k_1 (by decide +kernel)) <|
    allC (ok_iconst (by decide +kernel)) <|
    allC (ok_isub2 hQ (by decide +kernel)) <|
    allC (ok_istore (by decide +kernel)) <|
    allC (ok_iconst (by decide +kernel)) <|
    allC (ok_istore (by decide +kernel)) <|
    allC (ok_iload (by decide +kernel)) <|
    allC (ok_aloadN (k := 0) (by decide +kernel)) <|
    allC (ok_get (host := "") k_8 (by decide) rfl (Or.inl (tW hw 94 rfl)) (by decide +kernel)) <|
    allC (ok_iloadN (k := 1) (by decide +kernel)) <|
    allC (ok_iaload k_1 (by decide +kernel)) <|
    allC (ok_icmp (o := 24) (by decide +kernel) (by decide) (by decide)) <|
    allC (ok_aloadN (k := 0) (by decide +kernel)) <|
    allC (ok_get (host := "") k_8 (by decide) rfl (Or.inl (tW hw 130 rfl)) (by decide +kernel)) <|
    allC (ok_aloadN (k := 0) (by decide +kernel)) <|
    allC (ok_get (host := "") k_8 (by decide) rfl (Or.inl (tW hw 89 rfl)) (by decide +kernel)) <|
    allC (ok_iloadN (k := 1) (by decide +kernel)) <|
    allC (ok_aaload k_4 rfl (by decide +kernel)) <|
    allC (ok_iload (by decide +kernel)) <|
    allC (ok_iaload k_1 (by decide +kernel)) <|
    allC (ok_iconst (by decide +kernel)) <|
    allC (ok_iastore hA k_1 (by decide +kernel)) <|
    allC (ok_iinc (by decide +kernel)) <|
    allC (ok_goto (o := (-29)) (by decide +kernel) (by decide) (by decide)) <|
    allC (ok_aloadN (k := 0) (by decide +kernel)) <|
    allC (ok_get (host := "") k_8 (by decide) rfl (Or.inl (tW hw 94 rfl)) (by decide +kernel)) <|
    allC (ok_iloadN (k := 1) (by decide +kernel)) <|
    allC (ok_iaload k_1 (by decide +kernel)) <|
    allC (ok_iconst (by decide +kernel)) <|
    allC (ok_isub2 hQ (by decide +kernel)) <|
    allC (ok_istore (by decide +kernel)) <|
    allC (ok_aloadN (k := 0) (by decide +kernel)) <|
    allC (ok_get (host := "") k_8 (by decide) rfl (Or.inl (tW hw 89 rfl)) (by decide +kernel)) <|
    allC (ok_iloadN (k := 1) (by decide +kernel)) <|
    allC (ok_aaload k_4 rfl (by decide +kernel)) <|
    allC (ok_iload (by decide +kernel)) <|
    allC (ok_aloadN (k := 0) (by decide +kernel)) <|
    allC (ok_get (host := "") k_8 (by decide) rfl (Or.inl (tW hw 89 rfl)) (by decide +kernel)) <|
    allC (ok_iloadN (k := 1) (by decide +kernel)) <|
    allC (ok_aaload k_4 rfl (by decide +kernel)) <|
    allC (ok_iload (by decide +kernel)) <|
    allC (ok_iaload k_1 (by decide +kernel)) <|
    allC (ok_iastore hA k_1 (by decide +kernel)) <|
    allC (ok_aloadN (k := 0) (by decide +kernel)) <|
    allC (ok_get (host := "") k_8 (by decide) rfl (Or.inl (tW hw 92 rfl)) (by decide +kernel)) <|
    allC (ok_iloadN (k := 1) (by decide +kernel)) <|
    allC (ok_aaload k_5 rfl (by decide +kernel)) <|
    allC (ok_iload (by decide +kernel)) <|
    allC (ok_aloadN (k := 0) (by decide +kernel)) <|
    allC (ok_get (host := "") k_8 (by decide) rfl (Or.inl (tW hw 92 rfl)) (by decide +kernel)) <|
    allC (ok_iloadN (k := 1) (by decide +kernel)) <|
    allC (ok_aaload k_5 rfl (by decide +kernel)) <|
    allC (ok_iload (by decide +kernel)) <|
    allC (ok_daload k_2 (by decide +kernel)) <|
    allC (ok_dastore hA k_2 (by decide +kernel)) <|
    allC (ok_aloadN (k := 0) (by decide +kernel)) <|
    allC (ok_get (host := "") k_8 (by decide) rfl (Or.inl (tW hw 94 rfl)) (by decide +kernel)) <|
    allC (ok_iloadN (k := 1) (by decide +kernel)) <|
    allC (ok_iload (by decide +kernel)) <|
    allC (ok_iastore hA k_1 (by decide +kernel)) <|
    allC (ok_aloadN (k := 0) (by decide +kernel)) <|
    allC (ok_get (host := "") k_8 (by decide) rfl (Or.inl (tW hw 126 rfl)) (by decide +kernel)) <|
    allC (ok_iloadN (k := 1) (by decide +kernel)) <|
    allC (ok_iload (by decide +kernel)) <|
    allC (cV hA hC k_9 (by decide) mt_25 (tW hw 210 rfl) (tW hw 211 rfl) (tW hw 213 rfl) (tW hw 212 rfl) (tW hw 109 rfl) (tW hw 214 rfl) (by decide) pd_13 rfl (by decide +kernel)) <|
    allC (ok_rV rfl (by decide +kernel)) <|
    allN
set_option maxRecDepth 65536 in
theorem cal_ok {l : Launch} {Z : State} {a0 : Array Value} {A : Den} {bs : Nat} {tp : Tape} {tq : Tq} (hw : ∀ d ∈ tables_1, d.before a0 Z = true) (hA : AdOk A 0 bs) (hT : TpOk A tp) (hU : TaOk A tp) (hQ : TqOk A tq) : CallOk l KK A Z 0 bs wt (fun i => (MT i).1) (fun i => (MT i).2.1) (fun i => (MT i).2.2.1) (fun i => (MT i).2.2.2.1) (fun i => (MT i).2.2.2.2) (cal tp tq) := by
  refine runM_ok (MY := fun i => (MT i).1) (MC := fun i => (MT i).2.1) (MR := fun i => (MT i).2.2.2.1) (fun call hC id hne => ?_) 8
  unfold prg at hne
  split at hne
  · exact ⟨(plainFor_of_name pn_0), okp_2 hw hA hT hU hQ hC⟩
  · exact ⟨(plainFor_of_name pn_0), okp_3 hw hA hT hU hQ hC⟩
  · exact ⟨(plainFor_of_name pn_2), okp_4 hw hA hT hU hQ hC⟩
  · exact ⟨(plainFor_of_name pn_3), okp_6 hw hA hT hU hQ hC⟩
  · exact ⟨(plainFor_of_name pn_2), okp_7 hw hA hT hU hQ hC⟩
  · exact ⟨(plainFor_of_name pn_3), okp_8 hw hA hT hU hQ hC⟩
  · exact ⟨(plainFor_of_name pn_4), okp_9 hw hA hT hU hQ hC⟩
  · exact ⟨(plainFor_of_name pn_5), okp_10 hw hA hT hU hQ hC⟩
  · exact ⟨(plainFor_of_name pn_1), okp_11 hw hA hT hU hQ hC⟩
  · exact ⟨(plainFor_of_name pn_4), okp_12 hw hA hT hU hQ hC⟩
  · exact ⟨(plainFor_of_name pn_5), okp_13 hw hA hT hU hQ hC⟩
  · exact ⟨(plainFor_of_name pn_4), okp_14 hw hA hT hU hQ hC⟩
  · exact ⟨(plainFor_of_name pn_5), okp_15 hw hA hT hU hQ hC⟩
  · exact ⟨(plainFor_of_name pn_4), okp_16 hw hA hT hU hQ hC⟩
  · exact ⟨(plainFor_of_name pn_4), okp_17 hw hA hT hU hQ hC⟩
  · exact ⟨(plainFor_of_name pn_4), okp_20 hw hA hT hU hQ hC⟩
  · exact ⟨(plainFor_of_name pn_4), okp_21 hw hA hT hU hQ hC⟩
  · exact ⟨(plainFor_of_name pn_5), okp_22 hw hA hT hU hQ hC⟩
  · exact ⟨(plainFor_of_name pn_3), okp_23 hw hA hT hU hQ hC⟩
  · exact ⟨(plainFor_of_name pn_4), okp_24 hw hA hT hU hQ hC⟩
  · exact ⟨(plainFor_of_name pn_5), okp_25 hw hA hT hU hQ hC⟩
  · exact ⟨(plainFor_of_name pn_3), okp_26 hw hA hT hU hQ hC⟩
  · exact ⟨(plainFor_of_name pn_2), okp_27 hw hA hT hU hQ hC⟩
  · exact ⟨(plainFor_of_name pn_4), okp_30 hw hA hT hU hQ hC⟩
  · exact ⟨(plainFor_of_name pn_0), okp_31 hw hA hT hU hQ hC⟩
  · exact ⟨(plainFor_of_name pn_2), okp_32 hw hA hT hU hQ hC⟩
  · exact ⟨(plainFor_of_name pn_2), okp_33 hw hA hT hU hQ hC⟩
  · exact ⟨(plainFor_of_name pn_1), okp_34 hw hA hT hU hQ hC⟩
  · exact ⟨(plainFor_of_name pn_4), okp_35 hw hA hT hU hQ hC⟩
  · exact absurd rfl hne
def oo : Nat × List Value := (0, [])
def pd (n : Nat) (d : Value) (xs : List Value) : List Value := xs ++ List.replicate n d
def la_0 : Array Slot := #[.val (.float 0), .val (.float 3), .val (.float 1), .val (.float 2), .unset, .unset, .unset, .unset, .unset, .unset, .unset, .unset, .unset, .unset, .unset, .unset, .unset, .unset, .unset, .unset, .unset]
def la_1 : Array Slot := #[.val (.float 0), .val (.float 3), .val (.float 1), .val (.float 2), .val (.float 4), .val (.float 5), .val (.float 6), .val (.float 7), .unset, .unset, .unset, .unset, .unset, .unset, .unset, .unset, .unset, .unset, .unset, .unset, .unset]
def la_2 : Array Slot := #[.val (.float 0), .val (.float 3), .val (.float 1), .val (.float 2), .val (.float 4), .val (.float 5), .val (.float 6), .val (.float 7), .val (.float 18), .val (.float 19), .unset, .unset, .unset, .unset, .unset, .unset, .unset, .unset, .unset, .unset, .unset]
def la_3 : Array Slot := #[.val (.float 0), .val (.float 3), .val (.float 1), .val (.float 2), .val (.float 4), .val (.float 5), .val (.float 6), .val (.float 7), .val (.float 18), .val (.float 19), .val (.ref 0), .val (.ref 3), .val (.ref 6), .val (.ref 7), .val (.ref 8), .val (.ref 9), .val (.ref 10), .val (.ref 11), .unset, .unset, .unset]
def hp_0 : AH := [oo, oo, oo, oo, oo, oo, (1, [.float 4, .float 5, .float 6, .float 7]), (2, [.double 0, .double 0]), (2, [.double 0, .double 0]), (2, [.double 1, .double 2]), (2, [.double 0, .double 0]), (6, [.ref 12, .ref 16, .ref 20, .ref 24, .ref 28, .ref 29, .ref 66, .ref 67, .int 2, .ref 32, .ref 33, .ref 34, .int 2]), (7, [.ref 13, .ref 14, .ref 15, .int 2, .float 31]), (1, pd 14 (.int 0) [.int 0, .float 28, .float 29]), (1, pd 63 (.int 0) [.float 30]), (2, pd 63 (.double 0) [.double 13]), (7, [.ref 17, .ref 18, .ref 19, .int 2, .float 20]), (1, pd 14 (.int 0) [.int 0, .float 25, .float 26]), (1, pd 63 (.int 0) [.float 27]), (2, pd 63 (.double 0) [.double 12]), oo, oo, oo, oo, (7, [.ref 25, .ref 26, .ref 27, .int 0, .int 0]), (1, pd 17 (.int 0) []), (1, pd 64 (.int 0) []), (2, pd 64 (.double 0) []), (1, pd 16 (.int 0) []), (2, pd 16 (.double 0) []), oo, oo, (1, [.float 21, .float 22]), (1, [.float 23, .float 24]), (2, [.double 10, .double 11])] ++ List.replicate 33 oo
def la_4 : Array Slot := #[.val (.float 0), .val (.float 3), .val (.float 1), .val (.float 2), .val (.float 4), .val (.float 5), .val (.float 6), .val (.float 7), .val (.float 18), .val (.int 0), .unset, .unset, .unset, .unset, .unset, .unset, .unset, .unset, .unset, .unset, .unset]
def la_5 : Array Slot := #[.val (.float 0), .val (.float 3), .val (.float 1), .val (.float 2), .val (.float 4), .val (.float 5), .val (.float 6), .val (.float 7), .val (.float 18), .val (.int 1), .unset, .unset, .unset, .unset, .unset, .unset, .unset, .unset, .unset, .unset, .unset]
def la_6 : Array Slot := #[.val (.float 0), .val (.float 3), .val (.float 1), .val (.float 2), .val (.float 4), .val (.float 5), .val (.float 6), .val (.float 7), .val (.int 0), .val (.float 19), .unset, .unset, .unset, .unset, .unset, .unset, .unset, .unset, .unset, .unset, .unset]
def la_7 : Array Slot := #[.val (.float 0), .val (.float 3), .val (.float 1), .val (.float 2), .val (.float 4), .val (.float 5), .val (.float 6), .val (.float 7), .val (.int 1), .val (.float 19), .unset, .unset, .unset, .unset, .unset, .unset, .unset, .unset, .unset, .unset, .unset]
def la_8 : Array Slot := #[.val (.float 0), .val (.float 3), .val (.float 1), .val (.float 2), .val (.float 4), .val (.float 5), .val (.float 6), .val (.float 7), .val (.int 0), .val (.int 0), .unset, .unset, .unset, .unset, .unset, .unset, .unset, .unset, .unset, .unset, .unset]
def la_9 : Array Slot := #[.val (.float 0), .val (.float 3), .val (.float 1), .val (.float 2), .val (.float 4), .val (.float 5), .val (.float 6), .val (.float 7), .val (.int 0), .val (.int 1), .unset, .unset, .unset, .unset, .unset, .unset, .unset, .unset, .unset, .unset, .unset]
def la_10 : Array Slot := #[.val (.float 0), .val (.float 3), .val (.float 1), .val (.float 2), .val (.float 4), .val (.float 5), .val (.float 6), .val (.float 7), .val (.int 1), .val (.int 0), .unset, .unset, .unset, .unset, .unset, .unset, .unset, .unset, .unset, .unset, .unset]
def la_11 : Array Slot := #[.val (.float 0), .val (.float 3), .val (.float 1), .val (.float 2), .val (.float 4), .val (.float 5), .val (.float 6), .val (.float 7), .val (.int 1), .val (.int 1), .unset, .unset, .unset, .unset, .unset, .unset, .unset, .unset, .unset, .unset, .unset]
def la_12 : Array Slot := #[.val (.float 0), .val (.float 3), .val (.float 1), .val (.float 2), .val (.float 4), .val (.float 5), .val (.float 6), .val (.float 7), .val (.float 18), .val (.float 19), .val (.ref 0), .val (.ref 3), .val (.ref 6), .val (.ref 7), .val (.ref 8), .val (.ref 9), .val (.ref 10), .val (.ref 11), .val (.float 32), .unset, .unset]
def la_13 : Array Slot := #[.val (.float 0), .val (.float 3), .val (.float 1), .val (.float 2), .val (.float 4), .val (.float 5), .val (.float 6), .val (.float 7), .val (.float 18), .val (.float 19), .val (.ref 0), .val (.ref 3), .val (.ref 6), .val (.ref 7), .val (.ref 8), .val (.ref 9), .val (.ref 10), .val (.ref 11), .val (.int 0), .unset, .unset]
def hp_1 : AH := [oo, oo, oo, oo, oo, oo, (1, [.float 70, .float 71, .float 72, .float 73]), oo, oo, (2, [.double 1, .double 2]), (2, [.double 0, .double 0]), (6, [.ref 12, .ref 16, .ref 20, .ref 24, .ref 28, .ref 29, .ref 66, .ref 67, .int 2, .ref 32, .ref 33, .ref 34, .int 2]), (7, [.ref 13, .ref 14, .ref 15, .int 2, .float 31]), (1, pd 14 (.int 0) [.int 0, .float 28, .float 29]), (1, pd 63 (.int 0) [.float 30]), (2, pd 63 (.double 0) [.double 13]), (7, [.ref 17, .ref 18, .ref 19, .int 2, .float 20]), (1, pd 14 (.int 0) [.int 0, .float 25, .float 26]), (1, pd 63 (.int 0) [.float 27]), (2, pd 63 (.double 0) [.double 12]), oo, oo, oo, oo, (7, [.ref 25, .ref 26, .ref 27, .int 0, .int 0]), (1, pd 17 (.int 0) []), (1, pd 64 (.int 0) []), (2, pd 64 (.double 0) []), (1, pd 16 (.int 0) []), (2, pd 16 (.double 0) []), oo, oo, (1, [.float 21, .float 22]), (1, [.float 23, .float 24]), (2, [.double 10, .double 11])] ++ List.replicate 33 oo
def la_14 : Array Slot := #[.val (.float 0), .val (.float 3), .val (.float 1), .val (.float 2), .val (.float 4), .val (.float 5), .val (.float 6), .val (.float 7), .val (.float 18), .val (.float 19), .val (.ref 0), .val (.ref 3), .val (.ref 6), .val (.ref 7), .val (.ref 8), .val (.ref 9), .val (.ref 10), .val (.ref 11), .val (.int 1), .unset, .unset]
def hp_2 : AH := [oo, oo, oo, oo, oo, oo, (1, [.float 44, .float 45, .float 46, .float 47]), oo, (2, [.double 0, .double 0]), (2, [.double 1, .double 2]), (2, [.double 0, .double 0]), (6, [.ref 12, .ref 16, .ref 20, .ref 24, .ref 28, .ref 29, .ref 66, .ref 67, .int 2, .ref 32, .ref 33, .ref 34, .int 2]), (7, [.ref 13, .ref 14, .ref 15, .int 2, .float 31]), (1, pd 14 (.int 0) [.int 0, .float 28, .float 29]), (1, pd 63 (.int 0) [.float 30]), (2, pd 63 (.double 0) [.double 13]), (7, [.ref 17, .ref 18, .ref 19, .int 2, .float 20]), (1, pd 14 (.int 0) [.int 0, .float 25, .float 26]), (1, pd 63 (.int 0) [.float 27]), (2, pd 63 (.double 0) [.double 12]), oo, oo, oo, oo, (7, [.ref 25, .ref 26, .ref 27, .int 1, .int 1]), (1, pd 15 (.int 0) [.int 0, .int 1]), (1, pd 63 (.int 0) [.float 49]), (2, pd 63 (.double 0) [.double 32]), (1, pd 15 (.int 0) [.float 48]), (2, pd 15 (.double 0) [.double 33]), oo, oo, (1, [.float 21, .float 22]), (1, [.float 23, .float 24]), (2, [.double 10, .double 11])] ++ List.replicate 33 oo
def hp_3 : AH := [oo, oo, oo, oo, oo, oo, (1, [.float 70, .float 71, .float 72, .float 73]), oo, oo, (2, [.double 1, .double 2]), (2, [.double 0, .double 0]), (6, [.ref 12, .ref 16, .ref 20, .ref 24, .ref 28, .ref 29, .ref 66, .ref 67, .int 2, .ref 32, .ref 33, .ref 34, .int 2]), (7, [.ref 13, .ref 14, .ref 15, .int 2, .float 31]), (1, pd 14 (.int 0) [.int 0, .float 28, .float 29]), (1, pd 63 (.int 0) [.float 30]), (2, pd 63 (.double 0) [.double 13]), (7, [.ref 17, .ref 18, .ref 19, .int 2, .float 20]), (1, pd 14 (.int 0) [.int 0, .float 25, .float 26]), (1, pd 63 (.int 0) [.float 27]), (2, pd 63 (.double 0) [.double 12]), oo, oo, oo, oo, (7, [.ref 25, .ref 26, .ref 27, .int 1, .int 1]), (1, pd 15 (.int 0) [.int 0, .int 1]), (1, pd 63 (.int 0) [.float 49]), (2, pd 63 (.double 0) [.double 32]), (1, pd 15 (.int 0) [.float 48]), (2, pd 15 (.double 0) [.double 33]), oo, oo, (1, [.float 21, .float 22]), (1, [.float 23, .float 24]), (2, [.double 10, .double 11])] ++ List.replicate 33 oo
def hp_4 : AH := [oo, oo, oo, oo, oo, oo, (1, [.float 44, .float 45, .float 46, .float 47]), oo, (2, [.double 0, .double 0]), (2, [.double 1, .double 2]), (2, [.double 0, .double 0]), (6, [.ref 12, .ref 16, .ref 20, .ref 24, .ref 28, .ref 29, .ref 66, .ref 67, .int 2, .ref 32, .ref 33, .ref 34, .int 2]), (7, [.ref 13, .ref 14, .ref 15, .int 2, .float 31]), (1, pd 14 (.int 0) [.int 0, .float 28, .float 29]), (1, pd 63 (.int 0) [.float 30]), (2, pd 63 (.double 0) [.double 13]), (7, [.ref 17, .ref 18, .ref 19, .int 2, .float 20]), (1, pd 14 (.int 0) [.int 0, .float 25, .float 26]), (1, pd 63 (.int 0) [.float 27]), (2, pd 63 (.double 0) [.double 12]), oo, oo, oo, oo, (7, [.ref 25, .ref 26, .ref 27, .int 1, .int 0]), (1, pd 17 (.int 0) []), (1, pd 64 (.int 0) []), (2, pd 64 (.double 0) []), (1, pd 15 (.int 0) [.float 48]), (2, pd 15 (.double 0) [.double 33]), oo, oo, (1, [.float 21, .float 22]), (1, [.float 23, .float 24]), (2, [.double 10, .double 11])] ++ List.replicate 33 oo
def hp_5 : AH := [oo, oo, oo, oo, oo, oo, (1, [.float 70, .float 71, .float 72, .float 73]), oo, oo, (2, [.double 1, .double 2]), (2, [.double 0, .double 0]), (6, [.ref 12, .ref 16, .ref 20, .ref 24, .ref 28, .ref 29, .ref 66, .ref 67, .int 2, .ref 32, .ref 33, .ref 34, .int 2]), (7, [.ref 13, .ref 14, .ref 15, .int 2, .float 31]), (1, pd 14 (.int 0) [.int 0, .float 28, .float 29]), (1, pd 63 (.int 0) [.float 30]), (2, pd 63 (.double 0) [.double 13]), (7, [.ref 17, .ref 18, .ref 19, .int 2, .float 20]), (1, pd 14 (.int 0) [.int 0, .float 25, .float 26]), (1, pd 63 (.int 0) [.float 27]), (2, pd 63 (.double 0) [.double 12]), oo, oo, oo, oo, (7, [.ref 25, .ref 26, .ref 27, .int 1, .int 0]), (1, pd 17 (.int 0) []), (1, pd 64 (.int 0) []), (2, pd 64 (.double 0) []), (1, pd 15 (.int 0) [.float 48]), (2, pd 15 (.double 0) [.double 33]), oo, oo, (1, [.float 21, .float 22]), (1, [.float 23, .float 24]), (2, [.double 10, .double 11])] ++ List.replicate 33 oo
def la_15 : Array Slot := #[.val (.float 0), .val (.float 3), .val (.float 1), .val (.float 2), .val (.float 4), .val (.float 5), .val (.float 6), .val (.float 7), .val (.float 18), .val (.float 19), .val (.ref 0), .val (.ref 3), .val (.ref 6), .val (.ref 7), .val (.ref 8), .val (.ref 9), .val (.ref 10), .val (.ref 11), .val (.int 2), .unset, .unset]
def la_16 : Array Slot := #[.val (.float 0), .val (.float 3), .val (.float 1), .val (.float 2), .val (.float 4), .val (.float 5), .val (.float 6), .val (.float 7), .val (.float 18), .val (.float 19), .val (.ref 0), .val (.ref 3), .val (.ref 6), .val (.ref 7), .val (.ref 8), .val (.ref 9), .val (.ref 10), .val (.ref 11), .val (.int 3), .unset, .unset]
def hp_6 : AH := [oo, oo, oo, oo, oo, oo, (1, [.float 70, .float 71, .float 72, .float 73]), oo, oo, (2, [.double 1, .double 2]), (2, [.double 0, .double 0]), (6, [.ref 12, .ref 16, .ref 20, .ref 24, .ref 28, .ref 29, .ref 66, .ref 67, .int 2, .ref 32, .ref 33, .ref 34, .int 2]), (7, [.ref 13, .ref 14, .ref 15, .int 2, .float 31]), (1, pd 14 (.int 0) [.int 0, .float 28, .float 29]), (1, pd 63 (.int 0) [.float 30]), (2, pd 63 (.double 0) [.double 13]), (7, [.ref 17, .ref 18, .ref 19, .int 2, .float 20]), (1, pd 14 (.int 0) [.int 0, .float 25, .float 26]), (1, pd 63 (.int 0) [.float 27]), (2, pd 63 (.double 0) [.double 12]), oo, oo, oo, oo, (7, [.ref 25, .ref 26, .ref 27, .int 2, .int 2]), (1, pd 14 (.int 0) [.int 0, .int 1, .int 2]), (1, pd 62 (.int 0) [.float 49, .float 62]), (2, pd 62 (.double 0) [.double 32, .double 50]), (1, pd 14 (.int 0) [.float 48, .float 61]), (2, pd 14 (.double 0) [.double 33, .double 51]), oo, oo, (1, [.float 21, .float 22]), (1, [.float 23, .float 24]), (2, [.double 10, .double 11])] ++ List.replicate 33 oo
def hp_7 : AH := [oo, oo, oo, oo, oo, oo, (1, [.float 70, .float 71, .float 72, .float 73]), oo, oo, (2, [.double 1, .double 2]), (2, [.double 0, .double 0]), (6, [.ref 12, .ref 16, .ref 20, .ref 24, .ref 28, .ref 29, .ref 66, .ref 67, .int 2, .ref 32, .ref 33, .ref 34, .int 2]), (7, [.ref 13, .ref 14, .ref 15, .int 2, .float 31]), (1, pd 14 (.int 0) [.int 0, .float 28, .float 29]), (1, pd 63 (.int 0) [.float 30]), (2, pd 63 (.double 0) [.double 13]), (7, [.ref 17, .ref 18, .ref 19, .int 2, .float 20]), (1, pd 14 (.int 0) [.int 0, .float 25, .float 26]), (1, pd 63 (.int 0) [.float 27]), (2, pd 63 (.double 0) [.double 12]), oo, oo, oo, oo, (7, [.ref 25, .ref 26, .ref 27, .int 2, .int 1]), (1, pd 14 (.int 0) [.int 0, .int 0, .int 1]), (1, pd 63 (.int 0) [.float 62]), (2, pd 63 (.double 0) [.double 50]), (1, pd 14 (.int 0) [.float 48, .float 61]), (2, pd 14 (.double 0) [.double 33, .double 51]), oo, oo, (1, [.float 21, .float 22]), (1, [.float 23, .float 24]), (2, [.double 10, .double 11])] ++ List.replicate 33 oo
def hp_8 : AH := [oo, oo, oo, oo, oo, oo, (1, [.float 70, .float 71, .float 72, .float 73]), oo, oo, (2, [.double 1, .double 2]), (2, [.double 0, .double 0]), (6, [.ref 12, .ref 16, .ref 20, .ref 24, .ref 28, .ref 29, .ref 66, .ref 67, .int 2, .ref 32, .ref 33, .ref 34, .int 2]), (7, [.ref 13, .ref 14, .ref 15, .int 2, .float 31]), (1, pd 14 (.int 0) [.int 0, .float 28, .float 29]), (1, pd 63 (.int 0) [.float 30]), (2, pd 63 (.double 0) [.double 13]), (7, [.ref 17, .ref 18, .ref 19, .int 2, .float 20]), (1, pd 14 (.int 0) [.int 0, .float 25, .float 26]), (1, pd 63 (.int 0) [.float 27]), (2, pd 63 (.double 0) [.double 12]), oo, oo, oo, oo, (7, [.ref 25, .ref 26, .ref 27, .int 2, .int 1]), (1, pd 14 (.int 0) [.int 0, .int 1, .int 1]), (1, pd 63 (.int 0) [.float 49]), (2, pd 63 (.double 0) [.double 32]), (1, pd 14 (.int 0) [.float 48, .float 61]), (2, pd 14 (.double 0) [.double 33, .double 51]), oo, oo, (1, [.float 21, .float 22]), (1, [.float 23, .float 24]), (2, [.double 10, .double 11])] ++ List.replicate 33 oo
def hp_9 : AH := [oo, oo, oo, oo, oo, oo, (1, [.float 70, .float 71, .float 72, .float 73]), oo, oo, (2, [.double 1, .double 2]), (2, [.double 0, .double 0]), (6, [.ref 12, .ref 16, .ref 20, .ref 24, .ref 28, .ref 29, .ref 66, .ref 67, .int 2, .ref 32, .ref 33, .ref 34, .int 2]), (7, [.ref 13, .ref 14, .ref 15, .int 2, .float 31]), (1, pd 14 (.int 0) [.int 0, .float 28, .float 29]), (1, pd 63 (.int 0) [.float 30]), (2, pd 63 (.double 0) [.double 13]), (7, [.ref 17, .ref 18, .ref 19, .int 2, .float 20]), (1, pd 14 (.int 0) [.int 0, .float 25, .float 26]), (1, pd 63 (.int 0) [.float 27]), (2, pd 63 (.double 0) [.double 12]), oo, oo, oo, oo, (7, [.ref 25, .ref 26, .ref 27, .int 2, .int 0]), (1, pd 17 (.int 0) []), (1, pd 64 (.int 0) []), (2, pd 64 (.double 0) []), (1, pd 14 (.int 0) [.float 48, .float 61]), (2, pd 14 (.double 0) [.double 33, .double 51]), oo, oo, (1, [.float 21, .float 22]), (1, [.float 23, .float 24]), (2, [.double 10, .double 11])] ++ List.replicate 33 oo
def la_17 : Array Slot := #[.val (.ref 11), .val (.ref 9), .val (.ref 10), .unset, .unset, .unset, .unset, .unset]
def la_18 : Array Slot := #[.val (.ref 11), .val (.ref 9), .val (.ref 10), .val (.int (-1)), .unset, .unset, .unset, .unset]
def hp_10 : AH := [oo, oo, oo, oo, oo, oo, (1, [.float 70, .float 71, .float 72, .float 73]), oo, oo, (2, [.double 76, .double 77]), (2, [.double 0, .double 0]), (6, [.ref 12, .ref 16, .ref 20, .ref 24, .ref 28, .ref 29, .ref 66, .ref 67, .int 2, .ref 32, .ref 33, .ref 34, .int 2]), (7, [.ref 13, .ref 14, .ref 15, .int 2, .float 31]), (1, pd 14 (.int 0) [.int 0, .float 28, .float 29]), (1, pd 63 (.int 0) [.float 30]), (2, pd 63 (.double 0) [.double 13]), (7, [.ref 17, .ref 18, .ref 19, .int 2, .float 20]), (1, pd 14 (.int 0) [.int 0, .float 25, .float 26]), (1, pd 63 (.int 0) [.float 27]), (2, pd 63 (.double 0) [.double 12]), oo, oo, oo, oo, oo, oo, oo, oo, oo, oo, oo, oo, (1, [.float 21, .float 22]), (1, [.float 23, .float 24]), (2, [.double 10, .double 11])] ++ List.replicate 33 oo
def hp_11 : AH := [oo, oo, oo, oo, oo, oo, (1, [.float 70, .float 71, .float 72, .float 73]), oo, oo, (2, [.double 1, .double 2]), (2, [.double 0, .double 0]), (6, [.ref 12, .ref 16, .ref 20, .ref 24, .ref 28, .ref 29, .ref 66, .ref 67, .int 2, .ref 32, .ref 33, .ref 34, .int 2]), (7, [.ref 13, .ref 14, .ref 15, .int 2, .float 31]), (1, pd 14 (.int 0) [.int 0, .float 28, .float 29]), (1, pd 63 (.int 0) [.float 30]), (2, pd 63 (.double 0) [.double 13]), (7, [.ref 17, .ref 18, .ref 19, .int 2, .float 20]), (1, pd 14 (.int 0) [.int 0, .float 25, .float 26]), (1, pd 63 (.int 0) [.float 27]), (2, pd 63 (.double 0) [.double 12]), oo, oo, oo, oo, (7, [.ref 25, .ref 26, .ref 27, .int 1, .int 1]), (1, pd 15 (.int 0) [.int 0, .int 1]), (1, pd 63 (.int 0) [.int 1]), (2, pd 63 (.double 0) [.double 32]), (1, pd 16 (.int 0) []), (2, pd 15 (.double 0) [.double 33]), oo, oo, (1, [.float 21, .float 22]), (1, [.float 23, .float 24]), (2, [.double 10, .double 11])] ++ List.replicate 33 oo
def la_19 : Array Slot := #[.val (.ref 11), .val (.ref 9), .val (.ref 10), .val (.int (-1)), .val (.float 74), .val (.double 78), .second, .val (.float 75)]
def hp_12 : AH := [oo, oo, oo, oo, oo, oo, (1, [.float 70, .float 71, .float 72, .float 73]), oo, oo, (2, [.double 1, .double 2]), (2, [.double 0, .double 0]), (6, [.ref 12, .ref 16, .ref 20, .ref 24, .ref 28, .ref 29, .ref 66, .ref 67, .int 2, .ref 32, .ref 33, .ref 34, .int 2]), (7, [.ref 13, .ref 14, .ref 15, .int 2, .float 31]), (1, pd 14 (.int 0) [.int 0, .float 28, .float 29]), (1, pd 63 (.int 0) [.float 30]), (2, pd 63 (.double 0) [.double 13]), (7, [.ref 17, .ref 18, .ref 19, .int 2, .float 20]), (1, pd 14 (.int 0) [.int 0, .float 25, .float 26]), (1, pd 63 (.int 0) [.float 27]), (2, pd 63 (.double 0) [.double 12]), oo, oo, oo, oo, (7, [.ref 25, .ref 26, .ref 27, .int 1, .int 1]), (1, pd 15 (.int 0) [.int 0, .int 1]), (1, pd 64 (.int 0) []), (2, pd 63 (.double 0) [.double 32]), (1, pd 15 (.int 0) [.int 1]), (2, pd 15 (.double 0) [.double 33]), oo, oo, (1, [.float 21, .float 22]), (1, [.float 23, .float 24]), (2, [.double 10, .double 11])] ++ List.replicate 33 oo
def hp_13 : AH := [oo, oo, oo, oo, oo, oo, (1, [.float 70, .float 71, .float 72, .float 73]), oo, oo, (2, [.double 1, .double 2]), (2, [.double 0, .double 0]), (6, [.ref 12, .ref 16, .ref 20, .ref 24, .ref 28, .ref 29, .ref 66, .ref 67, .int 2, .ref 32, .ref 33, .ref 34, .int 2]), (7, [.ref 13, .ref 14, .ref 15, .int 2, .float 31]), (1, pd 14 (.int 0) [.int 0, .float 28, .float 29]), (1, pd 63 (.int 0) [.float 30]), (2, pd 63 (.double 0) [.double 13]), (7, [.ref 17, .ref 18, .ref 19, .int 2, .float 20]), (1, pd 14 (.int 0) [.int 0, .float 25, .float 26]), (1, pd 63 (.int 0) [.float 27]), (2, pd 63 (.double 0) [.double 12]), oo, oo, oo, oo, (7, [.ref 25, .ref 26, .ref 27, .int 1, .int 0]), (1, pd 17 (.int 0) []), (1, pd 64 (.int 0) []), (2, pd 64 (.double 0) []), (1, pd 16 (.int 0) []), (2, pd 15 (.double 0) [.double 33]), oo, oo, (1, [.float 21, .float 22]), (1, [.float 23, .float 24]), (2, [.double 10, .double 11])] ++ List.replicate 33 oo
def hp_14 : AH := [oo, oo, oo, oo, oo, oo, (1, [.float 70, .float 71, .float 72, .float 73]), oo, oo, (2, [.double 1, .double 2]), (2, [.double 0, .double 0]), (6, [.ref 12, .ref 16, .ref 20, .ref 24, .ref 28, .ref 29, .ref 66, .ref 67, .int 2, .ref 32, .ref 33, .ref 34, .int 2]), (7, [.ref 13, .ref 14, .ref 15, .int 2, .float 31]), (1, pd 14 (.int 0) [.int 0, .float 28, .float 29]), (1, pd 63 (.int 0) [.float 30]), (2, pd 63 (.double 0) [.double 13]), (7, [.ref 17, .ref 18, .ref 19, .int 2, .float 20]), (1, pd 14 (.int 0) [.int 0, .float 25, .float 26]), (1, pd 63 (.int 0) [.float 27]), (2, pd 63 (.double 0) [.double 12]), oo, oo, oo, oo, (7, [.ref 25, .ref 26, .ref 27, .int 1, .int 0]), (1, pd 17 (.int 0) []), (1, pd 64 (.int 0) []), (2, pd 64 (.double 0) []), (1, pd 15 (.int 0) [.int 1]), (2, pd 15 (.double 0) [.double 33]), oo, oo, (1, [.float 21, .float 22]), (1, [.float 23, .float 24]), (2, [.double 10, .double 11])] ++ List.replicate 33 oo
def hp_15 : AH := [oo, oo, oo, oo, oo, oo, (1, [.float 70, .float 71, .float 72, .float 73]), oo, oo, (2, [.double 1, .double 2]), (2, [.double 0, .double 0]), (6, [.ref 12, .ref 16, .ref 20, .ref 24, .ref 28, .ref 29, .ref 66, .ref 67, .int 2, .ref 32, .ref 33, .ref 34, .int 2]), (7, [.ref 13, .ref 14, .ref 15, .int 2, .float 31]), (1, pd 14 (.int 0) [.int 0, .float 28, .float 29]), (1, pd 63 (.int 0) [.float 30]), (2, pd 63 (.double 0) [.double 13]), (7, [.ref 17, .ref 18, .ref 19, .int 2, .float 20]), (1, pd 14 (.int 0) [.int 0, .float 25, .float 26]), (1, pd 63 (.int 0) [.float 27]), (2, pd 63 (.double 0) [.double 12]), oo, oo, oo, oo, (7, [.ref 25, .ref 26, .ref 27, .int 2, .int 2]), (1, pd 14 (.int 0) [.int 0, .int 1, .int 2]), (1, pd 62 (.int 0) [.int 1, .int 1]), (2, pd 62 (.double 0) [.double 32, .double 50]), (1, pd 16 (.int 0) []), (2, pd 14 (.double 0) [.double 33, .double 51]), oo, oo, (1, [.float 21, .float 22]), (1, [.float 23, .float 24]), (2, [.double 10, .double 11])] ++ List.replicate 33 oo
def hp_16 : AH := [oo, oo, oo, oo, oo, oo, (1, [.float 70, .float 71, .float 72, .float 73]), oo, oo, (2, [.double 1, .double 2]), (2, [.double 0, .double 0]), (6, [.ref 12, .ref 16, .ref 20, .ref 24, .ref 28, .ref 29, .ref 66, .ref 67, .int 2, .ref 32, .ref 33, .ref 34, .int 2]), (7, [.ref 13, .ref 14, .ref 15, .int 2, .float 31]), (1, pd 14 (.int 0) [.int 0, .float 28, .float 29]), (1, pd 63 (.int 0) [.float 30]), (2, pd 63 (.double 0) [.double 13]), (7, [.ref 17, .ref 18, .ref 19, .int 2, .float 20]), (1, pd 14 (.int 0) [.int 0, .float 25, .float 26]), (1, pd 63 (.int 0) [.float 27]), (2, pd 63 (.double 0) [.double 12]), oo, oo, oo, oo, (7, [.ref 25, .ref 26, .ref 27, .int 2, .int 2]), (1, pd 14 (.int 0) [.int 0, .int 1, .int 2]), (1, pd 63 (.int 0) [.int 1]), (2, pd 62 (.double 0) [.double 32, .double 50]), (1, pd 14 (.int 0) [.int 0, .int 1]), (2, pd 14 (.double 0) [.double 33, .double 51]), oo, oo, (1, [.float 21, .float 22]), (1, [.float 23, .float 24]), (2, [.double 10, .double 11])] ++ List.replicate 33 oo
def hp_17 : AH := [oo, oo, oo, oo, oo, oo, (1, [.float 70, .float 71, .float 72, .float 73]), oo, oo, (2, [.double 1, .double 2]), (2, [.double 0, .double 0]), (6, [.ref 12, .ref 16, .ref 20, .ref 24, .ref 28, .ref 29, .ref 66, .ref 67, .int 2, .ref 32, .ref 33, .ref 34, .int 2]), (7, [.ref 13, .ref 14, .ref 15, .int 2, .float 31]), (1, pd 14 (.int 0) [.int 0, .float 28, .float 29]), (1, pd 63 (.int 0) [.float 30]), (2, pd 63 (.double 0) [.double 13]), (7, [.ref 17, .ref 18, .ref 19, .int 2, .float 20]), (1, pd 14 (.int 0) [.int 0, .float 25, .float 26]), (1, pd 63 (.int 0) [.float 27]), (2, pd 63 (.double 0) [.double 12]), oo, oo, oo, oo, (7, [.ref 25, .ref 26, .ref 27, .int 2, .int 1]), (1, pd 14 (.int 0) [.int 0, .int 1, .int 1]), (1, pd 63 (.int 0) [.int 1]), (2, pd 63 (.double 0) [.double 32]), (1, pd 16 (.int 0) []), (2, pd 14 (.double 0) [.double 33, .double 51]), oo, oo, (1, [.float 21, .float 22]), (1, [.float 23, .float 24]), (2, [.double 10, .double 11])] ++ List.replicate 33 oo
def hp_18 : AH := [oo, oo, oo, oo, oo, oo, (1, [.float 70, .float 71, .float 72, .float 73]), oo, oo, (2, [.double 1, .double 2]), (2, [.double 0, .double 0]), (6, [.ref 12, .ref 16, .ref 20, .ref 24, .ref 28, .ref 29, .ref 66, .ref 67, .int 2, .ref 32, .ref 33, .ref 34, .int 2]), (7, [.ref 13, .ref 14, .ref 15, .int 2, .float 31]), (1, pd 14 (.int 0) [.int 0, .float 28, .float 29]), (1, pd 63 (.int 0) [.float 30]), (2, pd 63 (.double 0) [.double 13]), (7, [.ref 17, .ref 18, .ref 19, .int 2, .float 20]), (1, pd 14 (.int 0) [.int 0, .float 25, .float 26]), (1, pd 63 (.int 0) [.float 27]), (2, pd 63 (.double 0) [.double 12]), oo, oo, oo, oo, (7, [.ref 25, .ref 26, .ref 27, .int 2, .int 1]), (1, pd 14 (.int 0) [.int 0, .int 1, .int 1]), (1, pd 63 (.int 0) [.int 1]), (2, pd 63 (.double 0) [.double 32]), (1, pd 14 (.int 0) [.int 0, .int 1]), (2, pd 14 (.double 0) [.double 33, .double 51]), oo, oo, (1, [.float 21, .float 22]), (1, [.float 23, .float 24]), (2, [.double 10, .double 11])] ++ List.replicate 33 oo
def hp_19 : AH := [oo, oo, oo, oo, oo, oo, (1, [.float 70, .float 71, .float 72, .float 73]), oo, oo, (2, [.double 1, .double 2]), (2, [.double 0, .double 0]), (6, [.ref 12, .ref 16, .ref 20, .ref 24, .ref 28, .ref 29, .ref 66, .ref 67, .int 2, .ref 32, .ref 33, .ref 34, .int 2]), (7, [.ref 13, .ref 14, .ref 15, .int 2, .float 31]), (1, pd 14 (.int 0) [.int 0, .float 28, .float 29]), (1, pd 63 (.int 0) [.float 30]), (2, pd 63 (.double 0) [.double 13]), (7, [.ref 17, .ref 18, .ref 19, .int 2, .float 20]), (1, pd 14 (.int 0) [.int 0, .float 25, .float 26]), (1, pd 63 (.int 0) [.float 27]), (2, pd 63 (.double 0) [.double 12]), oo, oo, oo, oo, (7, [.ref 25, .ref 26, .ref 27, .int 2, .int 2]), (1, pd 14 (.int 0) [.int 0, .int 1, .int 2]), (1, pd 62 (.int 0) [.int 0, .int 1]), (2, pd 62 (.double 0) [.double 32, .double 50]), (1, pd 15 (.int 0) [.int 1]), (2, pd 14 (.double 0) [.double 33, .double 51]), oo, oo, (1, [.float 21, .float 22]), (1, [.float 23, .float 24]), (2, [.double 10, .double 11])] ++ List.replicate 33 oo
def hp_20 : AH := [oo, oo, oo, oo, oo, oo, (1, [.float 70, .float 71, .float 72, .float 73]), oo, oo, (2, [.double 1, .double 2]), (2, [.double 0, .double 0]), (6, [.ref 12, .ref 16, .ref 20, .ref 24, .ref 28, .ref 29, .ref 66, .ref 67, .int 2, .ref 32, .ref 33, .ref 34, .int 2]), (7, [.ref 13, .ref 14, .ref 15, .int 2, .float 31]), (1, pd 14 (.int 0) [.int 0, .float 28, .float 29]), (1, pd 63 (.int 0) [.float 30]), (2, pd 63 (.double 0) [.double 13]), (7, [.ref 17, .ref 18, .ref 19, .int 2, .float 20]), (1, pd 14 (.int 0) [.int 0, .float 25, .float 26]), (1, pd 63 (.int 0) [.float 27]), (2, pd 63 (.double 0) [.double 12]), oo, oo, oo, oo, (7, [.ref 25, .ref 26, .ref 27, .int 2, .int 2]), (1, pd 14 (.int 0) [.int 0, .int 1, .int 2]), (1, pd 64 (.int 0) []), (2, pd 62 (.double 0) [.double 32, .double 50]), (1, pd 14 (.int 0) [.int 1, .int 1]), (2, pd 14 (.double 0) [.double 33, .double 51]), oo, oo, (1, [.float 21, .float 22]), (1, [.float 23, .float 24]), (2, [.double 10, .double 11])] ++ List.replicate 33 oo
def hp_21 : AH := [oo, oo, oo, oo, oo, oo, (1, [.float 70, .float 71, .float 72, .float 73]), oo, oo, (2, [.double 1, .double 2]), (2, [.double 0, .double 0]), (6, [.ref 12, .ref 16, .ref 20, .ref 24, .ref 28, .ref 29, .ref 66, .ref 67, .int 2, .ref 32, .ref 33, .ref 34, .int 2]), (7, [.ref 13, .ref 14, .ref 15, .int 2, .float 31]), (1, pd 14 (.int 0) [.int 0, .float 28, .float 29]), (1, pd 63 (.int 0) [.float 30]), (2, pd 63 (.double 0) [.double 13]), (7, [.ref 17, .ref 18, .ref 19, .int 2, .float 20]), (1, pd 14 (.int 0) [.int 0, .float 25, .float 26]), (1, pd 63 (.int 0) [.float 27]), (2, pd 63 (.double 0) [.double 12]), oo, oo, oo, oo, (7, [.ref 25, .ref 26, .ref 27, .int 2, .int 1]), (1, pd 14 (.int 0) [.int 0, .int 1, .int 1]), (1, pd 64 (.int 0) []), (2, pd 63 (.double 0) [.double 32]), (1, pd 15 (.int 0) [.int 1]), (2, pd 14 (.double 0) [.double 33, .double 51]), oo, oo, (1, [.float 21, .float 22]), (1, [.float 23, .float 24]), (2, [.double 10, .double 11])] ++ List.replicate 33 oo
def hp_22 : AH := [oo, oo, oo, oo, oo, oo, (1, [.float 70, .float 71, .float 72, .float 73]), oo, oo, (2, [.double 1, .double 2]), (2, [.double 0, .double 0]), (6, [.ref 12, .ref 16, .ref 20, .ref 24, .ref 28, .ref 29, .ref 66, .ref 67, .int 2, .ref 32, .ref 33, .ref 34, .int 2]), (7, [.ref 13, .ref 14, .ref 15, .int 2, .float 31]), (1, pd 14 (.int 0) [.int 0, .float 28, .float 29]), (1, pd 63 (.int 0) [.float 30]), (2, pd 63 (.double 0) [.double 13]), (7, [.ref 17, .ref 18, .ref 19, .int 2, .float 20]), (1, pd 14 (.int 0) [.int 0, .float 25, .float 26]), (1, pd 63 (.int 0) [.float 27]), (2, pd 63 (.double 0) [.double 12]), oo, oo, oo, oo, (7, [.ref 25, .ref 26, .ref 27, .int 2, .int 1]), (1, pd 14 (.int 0) [.int 0, .int 1, .int 1]), (1, pd 64 (.int 0) []), (2, pd 63 (.double 0) [.double 32]), (1, pd 14 (.int 0) [.int 1, .int 1]), (2, pd 14 (.double 0) [.double 33, .double 51]), oo, oo, (1, [.float 21, .float 22]), (1, [.float 23, .float 24]), (2, [.double 10, .double 11])] ++ List.replicate 33 oo
def hp_23 : AH := [oo, oo, oo, oo, oo, oo, (1, [.float 70, .float 71, .float 72, .float 73]), oo, oo, (2, [.double 1, .double 2]), (2, [.double 0, .double 0]), (6, [.ref 12, .ref 16, .ref 20, .ref 24, .ref 28, .ref 29, .ref 66, .ref 67, .int 2, .ref 32, .ref 33, .ref 34, .int 2]), (7, [.ref 13, .ref 14, .ref 15, .int 2, .float 31]), (1, pd 14 (.int 0) [.int 0, .float 28, .float 29]), (1, pd 63 (.int 0) [.float 30]), (2, pd 63 (.double 0) [.double 13]), (7, [.ref 17, .ref 18, .ref 19, .int 2, .float 20]), (1, pd 14 (.int 0) [.int 0, .float 25, .float 26]), (1, pd 63 (.int 0) [.float 27]), (2, pd 63 (.double 0) [.double 12]), oo, oo, oo, oo, (7, [.ref 25, .ref 26, .ref 27, .int 2, .int 1]), (1, pd 14 (.int 0) [.int 0, .int 0, .int 1]), (1, pd 63 (.int 0) [.int 1]), (2, pd 63 (.double 0) [.double 50]), (1, pd 16 (.int 0) []), (2, pd 14 (.double 0) [.double 33, .double 51]), oo, oo, (1, [.float 21, .float 22]), (1, [.float 23, .float 24]), (2, [.double 10, .double 11])] ++ List.replicate 33 oo
def hp_24 : AH := [oo, oo, oo, oo, oo, oo, (1, [.float 70, .float 71, .float 72, .float 73]), oo, oo, (2, [.double 1, .double 2]), (2, [.double 0, .double 0]), (6, [.ref 12, .ref 16, .ref 20, .ref 24, .ref 28, .ref 29, .ref 66, .ref 67, .int 2, .ref 32, .ref 33, .ref 34, .int 2]), (7, [.ref 13, .ref 14, .ref 15, .int 2, .float 31]), (1, pd 14 (.int 0) [.int 0, .float 28, .float 29]), (1, pd 63 (.int 0) [.float 30]), (2, pd 63 (.double 0) [.double 13]), (7, [.ref 17, .ref 18, .ref 19, .int 2, .float 20]), (1, pd 14 (.int 0) [.int 0, .float 25, .float 26]), (1, pd 63 (.int 0) [.float 27]), (2, pd 63 (.double 0) [.double 12]), oo, oo, oo, oo, (7, [.ref 25, .ref 26, .ref 27, .int 2, .int 1]), (1, pd 14 (.int 0) [.int 0, .int 0, .int 1]), (1, pd 64 (.int 0) []), (2, pd 63 (.double 0) [.double 50]), (1, pd 14 (.int 0) [.int 0, .int 1]), (2, pd 14 (.double 0) [.double 33, .double 51]), oo, oo, (1, [.float 21, .float 22]), (1, [.float 23, .float 24]), (2, [.double 10, .double 11])] ++ List.replicate 33 oo
def hp_25 : AH := [oo, oo, oo, oo, oo, oo, (1, [.float 70, .float 71, .float 72, .float 73]), oo, oo, (2, [.double 1, .double 2]), (2, [.double 0, .double 0]), (6, [.ref 12, .ref 16, .ref 20, .ref 24, .ref 28, .ref 29, .ref 66, .ref 67, .int 2, .ref 32, .ref 33, .ref 34, .int 2]), (7, [.ref 13, .ref 14, .ref 15, .int 2, .float 31]), (1, pd 14 (.int 0) [.int 0, .float 28, .float 29]), (1, pd 63 (.int 0) [.float 30]), (2, pd 63 (.double 0) [.double 13]), (7, [.ref 17, .ref 18, .ref 19, .int 2, .float 20]), (1, pd 14 (.int 0) [.int 0, .float 25, .float 26]), (1, pd 63 (.int 0) [.float 27]), (2, pd 63 (.double 0) [.double 12]), oo, oo, oo, oo, (7, [.ref 25, .ref 26, .ref 27, .int 2, .int 0]), (1, pd 17 (.int 0) []), (1, pd 64 (.int 0) []), (2, pd 64 (.double 0) []), (1, pd 16 (.int 0) []), (2, pd 14 (.double 0) [.double 33, .double 51]), oo, oo, (1, [.float 21, .float 22]), (1, [.float 23, .float 24]), (2, [.double 10, .double 11])] ++ List.replicate 33 oo
def hp_26 : AH := [oo, oo, oo, oo, oo, oo, (1, [.float 70, .float 71, .float 72, .float 73]), oo, oo, (2, [.double 1, .double 2]), (2, [.double 0, .double 0]), (6, [.ref 12, .ref 16, .ref 20, .ref 24, .ref 28, .ref 29, .ref 66, .ref 67, .int 2, .ref 32, .ref 33, .ref 34, .int 2]), (7, [.ref 13, .ref 14, .ref 15, .int 2, .float 31]), (1, pd 14 (.int 0) [.int 0, .float 28, .float 29]), (1, pd 63 (.int 0) [.float 30]), (2, pd 63 (.double 0) [.double 13]), (7, [.ref 17, .ref 18, .ref 19, .int 2, .float 20]), (1, pd 14 (.int 0) [.int 0, .float 25, .float 26]), (1, pd 63 (.int 0) [.float 27]), (2, pd 63 (.double 0) [.double 12]), oo, oo, oo, oo, (7, [.ref 25, .ref 26, .ref 27, .int 2, .int 0]), (1, pd 17 (.int 0) []), (1, pd 64 (.int 0) []), (2, pd 64 (.double 0) []), (1, pd 14 (.int 0) [.int 0, .int 1]), (2, pd 14 (.double 0) [.double 33, .double 51]), oo, oo, (1, [.float 21, .float 22]), (1, [.float 23, .float 24]), (2, [.double 10, .double 11])] ++ List.replicate 33 oo
def hp_27 : AH := [oo, oo, oo, oo, oo, oo, (1, [.float 70, .float 71, .float 72, .float 73]), oo, oo, (2, [.double 1, .double 2]), (2, [.double 0, .double 0]), (6, [.ref 12, .ref 16, .ref 20, .ref 24, .ref 28, .ref 29, .ref 66, .ref 67, .int 2, .ref 32, .ref 33, .ref 34, .int 2]), (7, [.ref 13, .ref 14, .ref 15, .int 2, .float 31]), (1, pd 14 (.int 0) [.int 0, .float 28, .float 29]), (1, pd 63 (.int 0) [.float 30]), (2, pd 63 (.double 0) [.double 13]), (7, [.ref 17, .ref 18, .ref 19, .int 2, .float 20]), (1, pd 14 (.int 0) [.int 0, .float 25, .float 26]), (1, pd 63 (.int 0) [.float 27]), (2, pd 63 (.double 0) [.double 12]), oo, oo, oo, oo, (7, [.ref 25, .ref 26, .ref 27, .int 2, .int 1]), (1, pd 14 (.int 0) [.int 0, .int 0, .int 1]), (1, pd 63 (.int 0) [.int 1]), (2, pd 63 (.double 0) [.double 50]), (1, pd 15 (.int 0) [.int 1]), (2, pd 14 (.double 0) [.double 33, .double 51]), oo, oo, (1, [.float 21, .float 22]), (1, [.float 23, .float 24]), (2, [.double 10, .double 11])] ++ List.replicate 33 oo
def hp_28 : AH := [oo, oo, oo, oo, oo, oo, (1, [.float 70, .float 71, .float 72, .float 73]), oo, oo, (2, [.double 1, .double 2]), (2, [.double 0, .double 0]), (6, [.ref 12, .ref 16, .ref 20, .ref 24, .ref 28, .ref 29, .ref 66, .ref 67, .int 2, .ref 32, .ref 33, .ref 34, .int 2]), (7, [.ref 13, .ref 14, .ref 15, .int 2, .float 31]), (1, pd 14 (.int 0) [.int 0, .float 28, .float 29]), (1, pd 63 (.int 0) [.float 30]), (2, pd 63 (.double 0) [.double 13]), (7, [.ref 17, .ref 18, .ref 19, .int 2, .float 20]), (1, pd 14 (.int 0) [.int 0, .float 25, .float 26]), (1, pd 63 (.int 0) [.float 27]), (2, pd 63 (.double 0) [.double 12]), oo, oo, oo, oo, (7, [.ref 25, .ref 26, .ref 27, .int 2, .int 1]), (1, pd 14 (.int 0) [.int 0, .int 0, .int 1]), (1, pd 64 (.int 0) []), (2, pd 63 (.double 0) [.double 50]), (1, pd 14 (.int 0) [.int 1, .int 1]), (2, pd 14 (.double 0) [.double 33, .double 51]), oo, oo, (1, [.float 21, .float 22]), (1, [.float 23, .float 24]), (2, [.double 10, .double 11])] ++ List.replicate 33 oo
def hp_29 : AH := [oo, oo, oo, oo, oo, oo, (1, [.float 70, .float 71, .float 72, .float 73]), oo, oo, (2, [.double 1, .double 2]), (2, [.double 0, .double 0]), (6, [.ref 12, .ref 16, .ref 20, .ref 24, .ref 28, .ref 29, .ref 66, .ref 67, .int 2, .ref 32, .ref 33, .ref 34, .int 2]), (7, [.ref 13, .ref 14, .ref 15, .int 2, .float 31]), (1, pd 14 (.int 0) [.int 0, .float 28, .float 29]), (1, pd 63 (.int 0) [.float 30]), (2, pd 63 (.double 0) [.double 13]), (7, [.ref 17, .ref 18, .ref 19, .int 2, .float 20]), (1, pd 14 (.int 0) [.int 0, .float 25, .float 26]), (1, pd 63 (.int 0) [.float 27]), (2, pd 63 (.double 0) [.double 12]), oo, oo, oo, oo, (7, [.ref 25, .ref 26, .ref 27, .int 2, .int 0]), (1, pd 17 (.int 0) []), (1, pd 64 (.int 0) []), (2, pd 64 (.double 0) []), (1, pd 15 (.int 0) [.int 1]), (2, pd 14 (.double 0) [.double 33, .double 51]), oo, oo, (1, [.float 21, .float 22]), (1, [.float 23, .float 24]), (2, [.double 10, .double 11])] ++ List.replicate 33 oo
def hp_30 : AH := [oo, oo, oo, oo, oo, oo, (1, [.float 70, .float 71, .float 72, .float 73]), oo, oo, (2, [.double 1, .double 2]), (2, [.double 0, .double 0]), (6, [.ref 12, .ref 16, .ref 20, .ref 24, .ref 28, .ref 29, .ref 66, .ref 67, .int 2, .ref 32, .ref 33, .ref 34, .int 2]), (7, [.ref 13, .ref 14, .ref 15, .int 2, .float 31]), (1, pd 14 (.int 0) [.int 0, .float 28, .float 29]), (1, pd 63 (.int 0) [.float 30]), (2, pd 63 (.double 0) [.double 13]), (7, [.ref 17, .ref 18, .ref 19, .int 2, .float 20]), (1, pd 14 (.int 0) [.int 0, .float 25, .float 26]), (1, pd 63 (.int 0) [.float 27]), (2, pd 63 (.double 0) [.double 12]), oo, oo, oo, oo, (7, [.ref 25, .ref 26, .ref 27, .int 2, .int 0]), (1, pd 17 (.int 0) []), (1, pd 64 (.int 0) []), (2, pd 64 (.double 0) []), (1, pd 14 (.int 0) [.int 1, .int 1]), (2, pd 14 (.double 0) [.double 33, .double 51]), oo, oo, (1, [.float 21, .float 22]), (1, [.float 23, .float 24]), (2, [.double 10, .double 11])] ++ List.replicate 33 oo
def hp_31 : AH := [oo, oo, oo, oo, oo, oo, (1, [.float 70, .float 71, .float 72, .float 73]), oo, oo, (2, [.double 76, .double 77]), (2, [.double 0, .double 0]), (6, [.ref 12, .ref 16, .ref 20, .ref 24, .ref 28, .ref 29, .ref 66, .ref 67, .int 2, .ref 32, .ref 33, .ref 34, .int 2]), (7, [.ref 13, .ref 14, .ref 15, .int 2, .int 0]), (1, pd 17 (.int 0) []), (1, pd 64 (.int 0) []), (2, pd 64 (.double 0) []), (7, [.ref 17, .ref 18, .ref 19, .int 2, .int 0]), (1, pd 17 (.int 0) []), (1, pd 64 (.int 0) []), (2, pd 64 (.double 0) []), oo, oo, oo, oo, oo, oo, oo, oo, oo, oo, oo, oo, (1, [.int 0, .int 1]), (1, [.int 1, .int 0]), (2, [.double 10, .double 11])] ++ List.replicate 33 oo
def la_20 : Array Slot := #[.val (.ref 11), .val (.ref 9), .val (.ref 10), .val (.int (-1)), .val (.double 0), .second, .val (.int 0), .unset]
def hp_32 : AH := [oo, oo, oo, oo, oo, oo, (1, [.float 70, .float 71, .float 72, .float 73]), oo, oo, oo, (2, [.double 80, .double 81])] ++ List.replicate 57 oo
def hp_33 : AH := [oo, oo, oo, oo, oo, oo, (1, [.float 70, .float 71, .float 72, .float 73]), oo, oo, (2, [.double 76, .double 77]), (2, [.double 0, .double 0]), (6, [.ref 12, .ref 16, .ref 20, .ref 24, .ref 28, .ref 29, .ref 66, .ref 67, .int 2, .ref 32, .ref 33, .ref 34, .int 2]), (7, [.ref 13, .ref 14, .ref 15, .int 2, .int 0]), (1, pd 17 (.int 0) []), (1, pd 64 (.int 0) []), (2, pd 64 (.double 0) []), (7, [.ref 17, .ref 18, .ref 19, .int 2, .int 1]), (1, pd 14 (.int 0) [.int 0, .int 1, .int 1]), (1, pd 63 (.int 0) [.int 1]), (2, pd 63 (.double 0) [.double 12]), oo, oo, oo, oo, oo, oo, oo, oo, oo, oo, oo, oo, (1, [.int 1, .int 0]), (1, [.int 0, .int 1]), (2, [.double 10, .double 11])] ++ List.replicate 33 oo
def hp_34 : AH := [oo, oo, oo, oo, oo, oo, (1, [.float 70, .float 71, .float 72, .float 73]), oo, oo, (2, [.double 76, .double 77]), (2, [.double 0, .double 0]), (6, [.ref 12, .ref 16, .ref 20, .ref 24, .ref 28, .ref 29, .ref 66, .ref 67, .int 2, .ref 32, .ref 33, .ref 34, .int 2]), (7, [.ref 13, .ref 14, .ref 15, .int 2, .int 0]), (1, pd 17 (.int 0) []), (1, pd 64 (.int 0) []), (2, pd 64 (.double 0) []), (7, [.ref 17, .ref 18, .ref 19, .int 2, .int 0]), (1, pd 17 (.int 0) []), (1, pd 64 (.int 0) []), (2, pd 64 (.double 0) []), oo, oo, oo, oo, oo, oo, oo, oo, oo, oo, oo, oo, (1, [.int 1, .int 0]), (1, [.int 1, .int 0]), (2, [.double 10, .double 11])] ++ List.replicate 33 oo
def hp_35 : AH := [oo, oo, oo, oo, oo, oo, (1, [.float 70, .float 71, .float 72, .float 73]), oo, oo, (2, [.double 76, .double 77]), (2, [.double 0, .double 0]), (6, [.ref 12, .ref 16, .ref 20, .ref 24, .ref 28, .ref 29, .ref 66, .ref 67, .int 2, .ref 32, .ref 33, .ref 34, .int 2]), (7, [.ref 13, .ref 14, .ref 15, .int 2, .int 0]), (1, pd 17 (.int 0) []), (1, pd 64 (.int 0) []), (2, pd 64 (.double 0) []), (7, [.ref 17, .ref 18, .ref 19, .int 2, .int 1]), (1, pd 14 (.int 0) [.int 0, .int 1, .int 1]), (1, pd 64 (.int 0) []), (2, pd 63 (.double 0) [.double 12]), oo, oo, oo, oo, oo, oo, oo, oo, oo, oo, oo, oo, (1, [.int 1, .int 0]), (1, [.int 1, .int 0]), (2, [.double 10, .double 11])] ++ List.replicate 33 oo
def hp_36 : AH := [oo, oo, oo, oo, oo, oo, (1, [.float 70, .float 71, .float 72, .float 73]), oo, oo, (2, [.double 76, .double 77]), (2, [.double 0, .double 0]), (6, [.ref 12, .ref 16, .ref 20, .ref 24, .ref 28, .ref 29, .ref 66, .ref 67, .int 2, .ref 32, .ref 33, .ref 34, .int 2]), (7, [.ref 13, .ref 14, .ref 15, .int 2, .int 0]), (1, pd 17 (.int 0) []), (1, pd 64 (.int 0) []), (2, pd 64 (.double 0) []), (7, [.ref 17, .ref 18, .ref 19, .int 2, .int 1]), (1, pd 14 (.int 0) [.int 0, .int 1, .int 1]), (1, pd 63 (.int 0) [.int 1]), (2, pd 63 (.double 0) [.double 12]), oo, oo, oo, oo, oo, oo, oo, oo, oo, oo, oo, oo, (1, [.int 0, .int 1]), (1, [.int 0, .int 1]), (2, [.double 10, .double 11])] ++ List.replicate 33 oo
def hp_37 : AH := [oo, oo, oo, oo, oo, oo, (1, [.float 70, .float 71, .float 72, .float 73]), oo, oo, (2, [.double 76, .double 77]), (2, [.double 0, .double 0]), (6, [.ref 12, .ref 16, .ref 20, .ref 24, .ref 28, .ref 29, .ref 66, .ref 67, .int 2, .ref 32, .ref 33, .ref 34, .int 2]), (7, [.ref 13, .ref 14, .ref 15, .int 2, .int 0]), (1, pd 17 (.int 0) []), (1, pd 64 (.int 0) []), (2, pd 64 (.double 0) []), (7, [.ref 17, .ref 18, .ref 19, .int 2, .int 1]), (1, pd 14 (.int 0) [.int 0, .int 1, .int 1]), (1, pd 64 (.int 0) []), (2, pd 63 (.double 0) [.double 12]), oo, oo, oo, oo, oo, oo, oo, oo, oo, oo, oo, oo, (1, [.int 0, .int 1]), (1, [.int 1, .int 0]), (2, [.double 10, .double 11])] ++ List.replicate 33 oo
def hp_38 : AH := [oo, oo, oo, oo, oo, oo, (1, [.float 70, .float 71, .float 72, .float 73]), oo, oo, (2, [.double 76, .double 77]), (2, [.double 0, .double 0]), (6, [.ref 12, .ref 16, .ref 20, .ref 24, .ref 28, .ref 29, .ref 66, .ref 67, .int 2, .ref 32, .ref 33, .ref 34, .int 2]), (7, [.ref 13, .ref 14, .ref 15, .int 2, .int 1]), (1, pd 14 (.int 0) [.int 0, .int 1, .int 1]), (1, pd 63 (.int 0) [.int 1]), (2, pd 63 (.double 0) [.double 13]), (7, [.ref 17, .ref 18, .ref 19, .int 2, .int 1]), (1, pd 14 (.int 0) [.int 0, .int 1, .int 1]), (1, pd 64 (.int 0) []), (2, pd 63 (.double 0) [.double 12]), oo, oo, oo, oo, oo, oo, oo, oo, oo, oo, oo, oo, (1, [.int 0, .int 1]), (1, [.int 1, .int 0]), (2, [.double 10, .double 11])] ++ List.replicate 33 oo
def la_21 : Array Slot := #[.val (.ref 11), .val (.ref 9), .val (.ref 10), .val (.int (-1)), .val (.double 88), .second, .val (.int 1), .unset]
def hp_39 : AH := [oo, oo, oo, oo, oo, oo, (1, [.float 70, .float 71, .float 72, .float 73]), oo, oo, (2, [.double 76, .double 77]), (2, [.double 0, .double 0]), (6, [.ref 12, .ref 16, .ref 20, .ref 24, .ref 28, .ref 29, .ref 66, .ref 67, .int 2, .ref 32, .ref 33, .ref 34, .int 2]), (7, [.ref 13, .ref 14, .ref 15, .int 2, .int 1]), (1, pd 14 (.int 0) [.int 0, .int 1, .int 1]), (1, pd 64 (.int 0) []), (2, pd 63 (.double 0) [.double 13]), (7, [.ref 17, .ref 18, .ref 19, .int 2, .int 1]), (1, pd 14 (.int 0) [.int 0, .int 1, .int 1]), (1, pd 64 (.int 0) []), (2, pd 63 (.double 0) [.double 12]), oo, oo, oo, oo, oo, oo, oo, oo, oo, oo, oo, oo, (1, [.int 1, .int 0]), (1, [.int 1, .int 0]), (2, [.double 10, .double 11])] ++ List.replicate 33 oo
def la_22 : Array Slot := #[.val (.ref 11), .val (.ref 9), .val (.ref 10), .val (.int (-1)), .val (.double 0), .second, .val (.int 0), .val (.float 75)]
def la_23 : Array Slot := #[.val (.ref 11), .val (.ref 9), .val (.ref 10), .val (.int (-1)), .val (.double 88), .second, .val (.int 1), .val (.float 75)]
def la_24 : Array Slot := #[.val (.float 0), .val (.float 3), .val (.float 1), .val (.float 2), .val (.float 4), .val (.float 5), .val (.float 6), .val (.float 7), .val (.float 18), .val (.float 19), .val (.ref 0), .val (.ref 3), .val (.ref 6), .val (.ref 7), .val (.ref 8), .val (.ref 9), .val (.ref 10), .val (.ref 11), .val (.float 32), .val (.int 1), .val (.int 1)]
def tp_s0z : Tape := [(13, 8, 0, 1)]
def tq_s0z : Tq := [(25, .float 0, .int 0, .float 4), (24, .float 0, .int 2, .float 9), (25, .float 9, .int 0, .float 5), (24, .float 0, .int 4, .float 10), (25, .float 10, .int 0, .float 6), (24, .float 0, .int 6, .float 11), (25, .float 11, .int 0, .float 7), (22, .float 4, .float 7, .float 12), (22, .float 5, .float 6, .float 13), (21, .float 12, .float 13, .float 8)]
def tb_s0z : Tab := []
set_option maxRecDepth 1000000 in
theorem sg_s0z : seg (cal tp_s0z tq_s0z) (pg_0 tp_s0z tq_s0z) 3000 0 la_0 [] [] 0 0 tb_s0z 46 la_1 [.int 1] [] 0 0 room_1.slots = true := by decide +kernel
def tp_s0_00 : Tape := [(13, 8, 0, 0), (13, 15, 0, 1), (13, 17, 0, 1)]
def tq_s0_00 : Tq := [(25, .float 0, .int 0, .float 4), (24, .float 0, .int 2, .float 9), (25, .float 9, .int 0, .float 5), (24, .float 0, .int 4, .float 10), (25, .float 10, .int 0, .float 6), (24, .float 0, .int 6, .float 11), (25, .float 11, .int 0, .float 7), (22, .float 4, .float 7, .float 12), (22, .float 5, .float 6, .float 13), (21, .float 12, .float 13, .float 8), (24, .float 0, .int 8, .float 14), (23, .float 14, .int 1, .float 15), (24, .float 0, .int 9, .float 16), (23, .float 16, .int 1, .float 17)]
def tb_s0_00 : Tab := [(.float 18, .int 0), (.float 19, .int 0)]
set_option maxRecDepth 1000000 in
theorem sg_s0_00 : seg (cal tp_s0_00 tq_s0_00) (pg_0 tp_s0_00 tq_s0_00) 3000 0 la_0 [] [] 0 0 tb_s0_00 79 la_2 [] [] 0 0 room_1.slots = true := by decide +kernel
def tp_s0_01 : Tape := [(13, 8, 0, 0), (13, 15, 0, 1), (13, 17, 0, 0)]
def tq_s0_01 : Tq := [(25, .float 0, .int 0, .float 4), (24, .float 0, .int 2, .float 9), (25, .float 9, .int 0, .float 5), (24, .float 0, .int 4, .float 10), (25, .float 10, .int 0, .float 6), (24, .float 0, .int 6, .float 11), (25, .float 11, .int 0, .float 7), (22, .float 4, .float 7, .float 12), (22, .float 5, .float 6, .float 13), (21, .float 12, .float 13, .float 8), (24, .float 0, .int 8, .float 14), (23, .float 14, .int 1, .float 15), (24, .float 0, .int 9, .float 16), (23, .float 16, .int 1, .float 17)]
def tb_s0_01 : Tab := [(.float 18, .int 0), (.float 19, .int 1)]
set_option maxRecDepth 1000000 in
theorem sg_s0_01 : seg (cal tp_s0_01 tq_s0_01) (pg_0 tp_s0_01 tq_s0_01) 3000 0 la_0 [] [] 0 0 tb_s0_01 79 la_2 [] [] 0 0 room_1.slots = true := by decide +kernel
def tp_s0_10 : Tape := [(13, 8, 0, 0), (13, 15, 0, 0), (13, 17, 0, 1)]
def tq_s0_10 : Tq := [(25, .float 0, .int 0, .float 4), (24, .float 0, .int 2, .float 9), (25, .float 9, .int 0, .float 5), (24, .float 0, .int 4, .float 10), (25, .float 10, .int 0, .float 6), (24, .float 0, .int 6, .float 11), (25, .float 11, .int 0, .float 7), (22, .float 4, .float 7, .float 12), (22, .float 5, .float 6, .float 13), (21, .float 12, .float 13, .float 8), (24, .float 0, .int 8, .float 14), (23, .float 14, .int 1, .float 15), (24, .float 0, .int 9, .float 16), (23, .float 16, .int 1, .float 17)]
def tb_s0_10 : Tab := [(.float 18, .int 1), (.float 19, .int 0)]
set_option maxRecDepth 1000000 in
theorem sg_s0_10 : seg (cal tp_s0_10 tq_s0_10) (pg_0 tp_s0_10 tq_s0_10) 3000 0 la_0 [] [] 0 0 tb_s0_10 79 la_2 [] [] 0 0 room_1.slots = true := by decide +kernel
def tp_s0_11 : Tape := [(13, 8, 0, 0), (13, 15, 0, 0), (13, 17, 0, 0)]
def tq_s0_11 : Tq := [(25, .float 0, .int 0, .float 4), (24, .float 0, .int 2, .float 9), (25, .float 9, .int 0, .float 5), (24, .float 0, .int 4, .float 10), (25, .float 10, .int 0, .float 6), (24, .float 0, .int 6, .float 11), (25, .float 11, .int 0, .float 7), (22, .float 4, .float 7, .float 12), (22, .float 5, .float 6, .float 13), (21, .float 12, .float 13, .float 8), (24, .float 0, .int 8, .float 14), (23, .float 14, .int 1, .float 15), (24, .float 0, .int 9, .float 16), (23, .float 16, .int 1, .float 17)]
def tb_s0_11 : Tab := [(.float 18, .int 1), (.float 19, .int 1)]
set_option maxRecDepth 1000000 in
theorem sg_s0_11 : seg (cal tp_s0_11 tq_s0_11) (pg_0 tp_s0_11 tq_s0_11) 3000 0 la_0 [] [] 0 0 tb_s0_11 79 la_2 [] [] 0 0 room_1.slots = true := by decide +kernel
def tp_s1_0110_00 : Tape := [(13, 4, 0, 1), (13, 6, 0, 0), (13, 5, 0, 0), (13, 7, 0, 1), (10, 6, 0, 11), (10, 5, 0, 10), (10, 1, 0, 1), (10, 2, 0, 2), (14, 10, 0, 4607182418800017408), (14, 11, 0, 4607182418800017408)]
def tq_s1_0110_00 : Tq := []
def tb_s1_0110_00 : Tab := [(.double 12, .double 0), (.double 13, .double 0), (.float 20, .int 0), (.float 21, .int 0), (.float 22, .int 1), (.float 23, .int 1), (.float 24, .int 0), (.float 25, .int 0), (.float 26, .int 0), (.float 27, .int 0), (.float 28, .int 0), (.float 29, .int 0), (.float 30, .int 0), (.float 31, .int 0)]
set_option maxRecDepth 1000000 in
theorem sg_s1_0110_00 : seg (cal tp_s1_0110_00 tq_s1_0110_00) (pg_0 tp_s1_0110_00 tq_s1_0110_00) 3000 79 la_2 [] [] 0 0 tb_s1_0110_00 214 la_3 [] hp_0 68 762 room_1.slots = true := by decide +kernel
def tp_s1_0111_00 : Tape := [(13, 4, 0, 1), (13, 6, 0, 0), (13, 5, 0, 0), (13, 7, 0, 0), (10, 6, 0, 10), (10, 5, 0, 11), (10, 7, 0, 12), (10, 1, 0, 1), (10, 2, 0, 2), (14, 10, 0, 4607182418800017408), (14, 11, 0, 4607182418800017408)]
def tq_s1_0111_00 : Tq := []
def tb_s1_0111_00 : Tab := [(.double 13, .double 0), (.float 19, .int 0), (.float 20, .int 1), (.float 21, .int 1), (.float 22, .int 0), (.float 23, .int 0), (.float 24, .int 1), (.float 25, .int 1), (.float 26, .int 1), (.float 27, .int 1), (.float 28, .int 0), (.float 29, .int 0), (.float 30, .int 0), (.float 31, .int 0)]
set_option maxRecDepth 1000000 in
theorem sg_s1_0111_00 : seg (cal tp_s1_0111_00 tq_s1_0111_00) (pg_0 tp_s1_0111_00 tq_s1_0111_00) 3000 79 la_4 [] [] 0 0 tb_s1_0111_00 214 la_3 [] hp_0 68 762 room_1.slots = true := by decide +kernel
def tp_s1_0111_01 : Tape := [(13, 4, 0, 1), (13, 6, 0, 0), (13, 5, 0, 0), (13, 7, 0, 0), (10, 6, 0, 10), (10, 7, 0, 12), (10, 5, 0, 11), (10, 1, 0, 1), (10, 2, 0, 2), (14, 10, 0, 4607182418800017408), (14, 11, 0, 4607182418800017408)]
def tq_s1_0111_01 : Tq := []
def tb_s1_0111_01 : Tab := [(.double 13, .double 0), (.float 19, .int 1), (.float 20, .int 1), (.float 21, .int 1), (.float 22, .int 0), (.float 23, .int 0), (.float 24, .int 1), (.float 25, .int 1), (.float 26, .int 1), (.float 27, .int 1), (.float 28, .int 0), (.float 29, .int 0), (.float 30, .int 0), (.float 31, .int 0)]
set_option maxRecDepth 1000000 in
theorem sg_s1_0111_01 : seg (cal tp_s1_0111_01 tq_s1_0111_01) (pg_0 tp_s1_0111_01 tq_s1_0111_01) 3000 79 la_5 [] [] 0 0 tb_s1_0111_01 214 la_3 [] hp_0 68 762 room_1.slots = true := by decide +kernel
def tp_s1_1001_00 : Tape := [(13, 4, 0, 0), (13, 6, 0, 1), (13, 5, 0, 1), (13, 7, 0, 0), (10, 4, 0, 11), (10, 7, 0, 10), (10, 1, 0, 1), (10, 2, 0, 2), (14, 10, 0, 4607182418800017408), (14, 11, 0, 4607182418800017408)]
def tq_s1_1001_00 : Tq := []
def tb_s1_1001_00 : Tab := [(.double 12, .double 0), (.double 13, .double 0), (.float 20, .int 0), (.float 21, .int 1), (.float 22, .int 0), (.float 23, .int 1), (.float 24, .int 0), (.float 25, .int 0), (.float 26, .int 0), (.float 27, .int 0), (.float 28, .int 0), (.float 29, .int 0), (.float 30, .int 0), (.float 31, .int 0)]
set_option maxRecDepth 1000000 in
theorem sg_s1_1001_00 : seg (cal tp_s1_1001_00 tq_s1_1001_00) (pg_0 tp_s1_1001_00 tq_s1_1001_00) 3000 79 la_2 [] [] 0 0 tb_s1_1001_00 214 la_3 [] hp_0 68 762 room_1.slots = true := by decide +kernel
def tp_s1_1011_00 : Tape := [(13, 4, 0, 0), (13, 6, 0, 0), (13, 5, 0, 1), (13, 7, 0, 0), (10, 4, 0, 11), (10, 6, 0, 12), (10, 7, 0, 10), (10, 1, 0, 1), (10, 2, 0, 2), (14, 10, 0, 4607182418800017408), (14, 11, 0, 4607182418800017408)]
def tq_s1_1011_00 : Tq := []
def tb_s1_1011_00 : Tab := [(.double 13, .double 0), (.float 18, .int 0), (.float 20, .int 1), (.float 21, .int 1), (.float 22, .int 0), (.float 23, .int 1), (.float 24, .int 0), (.float 25, .int 1), (.float 26, .int 1), (.float 27, .int 0), (.float 28, .int 0), (.float 29, .int 0), (.float 30, .int 0), (.float 31, .int 0)]
set_option maxRecDepth 1000000 in
theorem sg_s1_1011_00 : seg (cal tp_s1_1011_00 tq_s1_1011_00) (pg_0 tp_s1_1011_00 tq_s1_1011_00) 3000 79 la_6 [] [] 0 0 tb_s1_1011_00 214 la_3 [] hp_0 68 762 room_1.slots = true := by decide +kernel
def tp_s1_1011_10 : Tape := [(13, 4, 0, 0), (13, 6, 0, 0), (13, 5, 0, 1), (13, 7, 0, 0), (10, 6, 0, 12), (10, 4, 0, 11), (10, 7, 0, 10), (10, 1, 0, 1), (10, 2, 0, 2), (14, 10, 0, 4607182418800017408), (14, 11, 0, 4607182418800017408)]
def tq_s1_1011_10 : Tq := []
def tb_s1_1011_10 : Tab := [(.double 13, .double 0), (.float 18, .int 1), (.float 20, .int 1), (.float 21, .int 1), (.float 22, .int 0), (.float 23, .int 1), (.float 24, .int 0), (.float 25, .int 1), (.float 26, .int 1), (.float 27, .int 0), (.float 28, .int 0), (.float 29, .int 0), (.float 30, .int 0), (.float 31, .int 0)]
set_option maxRecDepth 1000000 in
theorem sg_s1_1011_10 : seg (cal tp_s1_1011_10 tq_s1_1011_10) (pg_0 tp_s1_1011_10 tq_s1_1011_10) 3000 79 la_7 [] [] 0 0 tb_s1_1011_10 214 la_3 [] hp_0 68 762 room_1.slots = true := by decide +kernel
def tp_s1_1101_00 : Tape := [(13, 4, 0, 0), (13, 6, 0, 1), (13, 5, 0, 0), (13, 7, 0, 0), (10, 4, 0, 10), (10, 5, 0, 12), (10, 7, 0, 11), (10, 1, 0, 1), (10, 2, 0, 2), (14, 10, 0, 4607182418800017408), (14, 11, 0, 4607182418800017408)]
def tq_s1_1101_00 : Tq := []
def tb_s1_1101_00 : Tab := [(.double 13, .double 0), (.float 19, .int 0), (.float 20, .int 1), (.float 21, .int 0), (.float 22, .int 1), (.float 23, .int 0), (.float 24, .int 1), (.float 25, .int 1), (.float 26, .int 1), (.float 27, .int 1), (.float 28, .int 0), (.float 29, .int 0), (.float 30, .int 0), (.float 31, .int 0)]
set_option maxRecDepth 1000000 in
theorem sg_s1_1101_00 : seg (cal tp_s1_1101_00 tq_s1_1101_00) (pg_0 tp_s1_1101_00 tq_s1_1101_00) 3000 79 la_4 [] [] 0 0 tb_s1_1101_00 214 la_3 [] hp_0 68 762 room_1.slots = true := by decide +kernel
def tp_s1_1101_01 : Tape := [(13, 4, 0, 0), (13, 6, 0, 1), (13, 5, 0, 0), (13, 7, 0, 0), (10, 4, 0, 10), (10, 7, 0, 11), (10, 5, 0, 12), (10, 1, 0, 1), (10, 2, 0, 2), (14, 10, 0, 4607182418800017408), (14, 11, 0, 4607182418800017408)]
def tq_s1_1101_01 : Tq := []
def tb_s1_1101_01 : Tab := [(.double 13, .double 0), (.float 19, .int 1), (.float 20, .int 1), (.float 21, .int 0), (.float 22, .int 1), (.float 23, .int 0), (.float 24, .int 1), (.float 25, .int 1), (.float 26, .int 1), (.float 27, .int 1), (.float 28, .int 0), (.float 29, .int 0), (.float 30, .int 0), (.float 31, .int 0)]
set_option maxRecDepth 1000000 in
theorem sg_s1_1101_01 : seg (cal tp_s1_1101_01 tq_s1_1101_01) (pg_0 tp_s1_1101_01 tq_s1_1101_01) 3000 79 la_5 [] [] 0 0 tb_s1_1101_01 214 la_3 [] hp_0 68 762 room_1.slots = true := by decide +kernel
def tp_s1_1110_00 : Tape := [(13, 4, 0, 0), (13, 6, 0, 0), (13, 5, 0, 0), (13, 7, 0, 1), (10, 4, 0, 12), (10, 6, 0, 11), (10, 5, 0, 10), (10, 1, 0, 1), (10, 2, 0, 2), (14, 10, 0, 4607182418800017408), (14, 11, 0, 4607182418800017408)]
def tq_s1_1110_00 : Tq := []
def tb_s1_1110_00 : Tab := [(.double 13, .double 0), (.float 18, .int 0), (.float 20, .int 1), (.float 21, .int 0), (.float 22, .int 1), (.float 23, .int 1), (.float 24, .int 0), (.float 25, .int 1), (.float 26, .int 1), (.float 27, .int 0), (.float 28, .int 0), (.float 29, .int 0), (.float 30, .int 0), (.float 31, .int 0)]
set_option maxRecDepth 1000000 in
theorem sg_s1_1110_00 : seg (cal tp_s1_1110_00 tq_s1_1110_00) (pg_0 tp_s1_1110_00 tq_s1_1110_00) 3000 79 la_6 [] [] 0 0 tb_s1_1110_00 214 la_3 [] hp_0 68 762 room_1.slots = true := by decide +kernel
def tp_s1_1110_10 : Tape := [(13, 4, 0, 0), (13, 6, 0, 0), (13, 5, 0, 0), (13, 7, 0, 1), (10, 6, 0, 11), (10, 4, 0, 12), (10, 5, 0, 10), (10, 1, 0, 1), (10, 2, 0, 2), (14, 10, 0, 4607182418800017408), (14, 11, 0, 4607182418800017408)]
def tq_s1_1110_10 : Tq := []
def tb_s1_1110_10 : Tab := [(.double 13, .double 0), (.float 18, .int 1), (.float 20, .int 1), (.float 21, .int 0), (.float 22, .int 1), (.float 23, .int 1), (.float 24, .int 0), (.float 25, .int 1), (.float 26, .int 1), (.float 27, .int 0), (.float 28, .int 0), (.float 29, .int 0), (.float 30, .int 0), (.float 31, .int 0)]
set_option maxRecDepth 1000000 in
theorem sg_s1_1110_10 : seg (cal tp_s1_1110_10 tq_s1_1110_10) (pg_0 tp_s1_1110_10 tq_s1_1110_10) 3000 79 la_7 [] [] 0 0 tb_s1_1110_10 214 la_3 [] hp_0 68 762 room_1.slots = true := by decide +kernel
def tp_s1_1111_00 : Tape := [(13, 4, 0, 0), (13, 6, 0, 0), (13, 5, 0, 0), (13, 7, 0, 0), (10, 4, 0, 12), (10, 6, 0, 14), (10, 5, 0, 10), (10, 7, 0, 15), (10, 1, 0, 1), (10, 2, 0, 2), (14, 10, 0, 4607182418800017408), (14, 15, 0, 4607182418800017408), (3, 15, 10, 13), (11, 13, 0, 16), (2, 16, 12, 17), (0, 14, 17, 11), (14, 11, 0, 4611686018427387904)]
def tq_s1_1111_00 : Tq := []
def tb_s1_1111_00 : Tab := [(.float 18, .int 0), (.float 19, .int 0), (.float 20, .int 1), (.float 21, .int 0), (.float 22, .int 1), (.float 23, .int 1), (.float 24, .int 0), (.float 25, .int 1), (.float 26, .int 1), (.float 27, .int 0), (.float 28, .int 1), (.float 29, .int 1), (.float 30, .int 1), (.float 31, .int 1)]
set_option maxRecDepth 1000000 in
theorem sg_s1_1111_00 : seg (cal tp_s1_1111_00 tq_s1_1111_00) (pg_0 tp_s1_1111_00 tq_s1_1111_00) 3000 79 la_8 [] [] 0 0 tb_s1_1111_00 214 la_3 [] hp_0 68 762 room_1.slots = true := by decide +kernel
def tp_s1_1111_01 : Tape := [(13, 4, 0, 0), (13, 6, 0, 0), (13, 5, 0, 0), (13, 7, 0, 0), (10, 4, 0, 14), (10, 6, 0, 12), (10, 7, 0, 10), (10, 5, 0, 15), (10, 1, 0, 1), (10, 2, 0, 2), (14, 10, 0, 4607182418800017408), (14, 15, 0, 4607182418800017408), (3, 15, 10, 13), (11, 13, 0, 16), (2, 16, 12, 17), (0, 14, 17, 11), (14, 11, 0, 4611686018427387904)]
def tq_s1_1111_01 : Tq := []
def tb_s1_1111_01 : Tab := [(.float 18, .int 0), (.float 19, .int 1), (.float 20, .int 1), (.float 21, .int 1), (.float 22, .int 0), (.float 23, .int 1), (.float 24, .int 0), (.float 25, .int 1), (.float 26, .int 1), (.float 27, .int 0), (.float 28, .int 1), (.float 29, .int 1), (.float 30, .int 0), (.float 31, .int 1)]
set_option maxRecDepth 1000000 in
theorem sg_s1_1111_01 : seg (cal tp_s1_1111_01 tq_s1_1111_01) (pg_0 tp_s1_1111_01 tq_s1_1111_01) 3000 79 la_9 [] [] 0 0 tb_s1_1111_01 214 la_3 [] hp_0 68 762 room_1.slots = true := by decide +kernel
def tp_s1_1111_10 : Tape := [(13, 4, 0, 0), (13, 6, 0, 0), (13, 5, 0, 0), (13, 7, 0, 0), (10, 6, 0, 14), (10, 4, 0, 12), (10, 5, 0, 10), (10, 7, 0, 15), (10, 1, 0, 1), (10, 2, 0, 2), (14, 10, 0, 4607182418800017408), (14, 15, 0, 4607182418800017408), (3, 15, 10, 13), (11, 13, 0, 16), (2, 16, 12, 17), (0, 14, 17, 11), (14, 11, 0, 4611686018427387904)]
def tq_s1_1111_10 : Tq := []
def tb_s1_1111_10 : Tab := [(.float 18, .int 1), (.float 19, .int 0), (.float 20, .int 1), (.float 21, .int 0), (.float 22, .int 1), (.float 23, .int 1), (.float 24, .int 0), (.float 25, .int 1), (.float 26, .int 1), (.float 27, .int 0), (.float 28, .int 1), (.float 29, .int 1), (.float 30, .int 1), (.float 31, .int 1)]
set_option maxRecDepth 1000000 in
theorem sg_s1_1111_10 : seg (cal tp_s1_1111_10 tq_s1_1111_10) (pg_0 tp_s1_1111_10 tq_s1_1111_10) 3000 79 la_10 [] [] 0 0 tb_s1_1111_10 214 la_3 [] hp_0 68 762 room_1.slots = true := by decide +kernel
def tp_s1_1111_11 : Tape := [(13, 4, 0, 0), (13, 6, 0, 0), (13, 5, 0, 0), (13, 7, 0, 0), (10, 6, 0, 12), (10, 4, 0, 14), (10, 7, 0, 10), (10, 5, 0, 15), (10, 1, 0, 1), (10, 2, 0, 2), (14, 10, 0, 4607182418800017408), (14, 15, 0, 4607182418800017408), (3, 15, 10, 13), (11, 13, 0, 16), (2, 16, 12, 17), (0, 14, 17, 11), (14, 11, 0, 4611686018427387904)]
def tq_s1_1111_11 : Tq := []
def tb_s1_1111_11 : Tab := [(.float 18, .int 1), (.float 19, .int 1), (.float 20, .int 1), (.float 21, .int 1), (.float 22, .int 0), (.float 23, .int 1), (.float 24, .int 0), (.float 25, .int 1), (.float 26, .int 1), (.float 27, .int 0), (.float 28, .int 1), (.float 29, .int 1), (.float 30, .int 0), (.float 31, .int 1)]
set_option maxRecDepth 1000000 in
theorem sg_s1_1111_11 : seg (cal tp_s1_1111_11 tq_s1_1111_11) (pg_0 tp_s1_1111_11 tq_s1_1111_11) 3000 79 la_11 [] [] 0 0 tb_s1_1111_11 214 la_3 [] hp_0 68 762 room_1.slots = true := by decide +kernel
def tp_na_0 : Tape := []
def tq_na_0 : Tq := [(23, .float 3, .int 3, .int 0)]
def tb_na_0 : Tab := [(.float 32, .int 0)]
set_option maxRecDepth 1000000 in
theorem sg_na_0 : seg (cal tp_na_0 tq_na_0) (pg_0 tp_na_0 tq_na_0) 3000 214 la_3 [] hp_0 68 762 tb_na_0 237 la_12 [] hp_0 68 762 room_1.slots = true := by decide +kernel
def tp_na_1 : Tape := []
def tq_na_1 : Tq := [(23, .float 3, .int 3, .int 1)]
def tb_na_1 : Tab := [(.float 32, .int 1)]
set_option maxRecDepth 1000000 in
theorem sg_na_1 : seg (cal tp_na_1 tq_na_1) (pg_0 tp_na_1 tq_na_1) 3000 214 la_3 [] hp_0 68 762 tb_na_1 225 la_12 [] hp_0 68 762 room_1.slots = true := by decide +kernel
def tp_na_2 : Tape := []
def tq_na_2 : Tq := [(23, .float 3, .int 3, .int 2)]
def tb_na_2 : Tab := [(.float 32, .int 2)]
set_option maxRecDepth 1000000 in
theorem sg_na_2 : seg (cal tp_na_2 tq_na_2) (pg_0 tp_na_2 tq_na_2) 3000 214 la_3 [] hp_0 68 762 tb_na_2 225 la_12 [] hp_0 68 762 room_1.slots = true := by decide +kernel
def tp_na_3 : Tape := []
def tq_na_3 : Tq := [(23, .float 3, .int 3, .int 3)]
def tb_na_3 : Tab := [(.float 32, .int 3)]
set_option maxRecDepth 1000000 in
theorem sg_na_3 : seg (cal tp_na_3 tq_na_3) (pg_0 tp_na_3 tq_na_3) 3000 214 la_3 [] hp_0 68 762 tb_na_3 225 la_12 [] hp_0 68 762 room_1.slots = true := by decide +kernel
def tp_nb_0 : Tape := []
def tq_nb_0 : Tq := []
def tb_nb_0 : Tab := [(.float 32, .int 0), (.float 70, .float 4), (.float 71, .float 5), (.float 72, .float 6), (.float 73, .float 7)]
set_option maxRecDepth 1000000 in
theorem sg_nb_0 : seg (cal tp_nb_0 tq_nb_0) (pg_0 tp_nb_0 tq_nb_0) 3000 237 la_13 [] hp_0 68 762 tb_nb_0 256 la_12 [] hp_1 68 762 room_1.slots = true := by decide +kernel
def tp_nb_1_0 : Tape := []
def tq_nb_1_0 : Tq := []
def tb_nb_1_0 : Tab := [(.float 32, .int 1), (.float 70, .float 44), (.float 71, .float 45), (.float 72, .float 46), (.float 73, .float 47)]
set_option maxRecDepth 1000000 in
theorem sg_nb_1_0 : seg (cal tp_nb_1_0 tq_nb_1_0) (pg_0 tp_nb_1_0 tq_nb_1_0) 3000 237 la_14 [] hp_2 68 762 tb_nb_1_0 256 la_12 [] hp_3 68 762 room_1.slots = true := by decide +kernel
def tp_nb_1_1 : Tape := []
def tq_nb_1_1 : Tq := []
def tb_nb_1_1 : Tab := [(.float 32, .int 1), (.float 70, .float 44), (.float 71, .float 45), (.float 72, .float 46), (.float 73, .float 47)]
set_option maxRecDepth 1000000 in
theorem sg_nb_1_1 : seg (cal tp_nb_1_1 tq_nb_1_1) (pg_0 tp_nb_1_1 tq_nb_1_1) 3000 237 la_14 [] hp_4 68 762 tb_nb_1_1 256 la_12 [] hp_5 68 762 room_1.slots = true := by decide +kernel
def tp_nb_2_0 : Tape := []
def tq_nb_2_0 : Tq := []
def tb_nb_2_0 : Tab := [(.float 32, .int 2)]
set_option maxRecDepth 1000000 in
theorem sg_nb_2_0 : seg (cal tp_nb_2_0 tq_nb_2_0) (pg_0 tp_nb_2_0 tq_nb_2_0) 3000 237 la_15 [] hp_2 68 762 tb_nb_2_0 243 la_12 [] hp_2 68 762 room_1.slots = true := by decide +kernel
def tp_nb_2_1 : Tape := []
def tq_nb_2_1 : Tq := []
def tb_nb_2_1 : Tab := [(.float 32, .int 2)]
set_option maxRecDepth 1000000 in
theorem sg_nb_2_1 : seg (cal tp_nb_2_1 tq_nb_2_1) (pg_0 tp_nb_2_1 tq_nb_2_1) 3000 237 la_15 [] hp_4 68 762 tb_nb_2_1 243 la_12 [] hp_4 68 762 room_1.slots = true := by decide +kernel
def tp_nb_3_0 : Tape := []
def tq_nb_3_0 : Tq := []
def tb_nb_3_0 : Tab := [(.float 32, .int 3)]
set_option maxRecDepth 1000000 in
theorem sg_nb_3_0 : seg (cal tp_nb_3_0 tq_nb_3_0) (pg_0 tp_nb_3_0 tq_nb_3_0) 3000 237 la_16 [] hp_2 68 762 tb_nb_3_0 243 la_12 [] hp_2 68 762 room_1.slots = true := by decide +kernel
def tp_nb_3_1 : Tape := []
def tq_nb_3_1 : Tq := []
def tb_nb_3_1 : Tab := [(.float 32, .int 3)]
set_option maxRecDepth 1000000 in
theorem sg_nb_3_1 : seg (cal tp_nb_3_1 tq_nb_3_1) (pg_0 tp_nb_3_1 tq_nb_3_1) 3000 237 la_16 [] hp_4 68 762 tb_nb_3_1 243 la_12 [] hp_4 68 762 room_1.slots = true := by decide +kernel
def tp_ca_000 : Tape := [(13, 35, 0, 1), (10, 37, 0, 32), (14, 32, 0, 4607182418800017408)]
def tq_ca_000 : Tq := [(24, .float 3, .int 2, .float 33), (23, .float 33, .int 1, .int 0), (24, .float 33, .int 1, .float 34), (23, .float 34, .int 1, .float 35), (24, .float 33, .int 2, .float 36), (25, .float 36, .int 0, .float 37), (22, .float 4, .int 1, .float 38), (22, .float 5, .float 37, .float 39), (20, .float 38, .float 39, .float 40), (22, .float 6, .int 1, .float 41), (22, .float 7, .float 37, .float 42), (20, .float 41, .float 42, .float 43)]
def tb_ca_000 : Tab := [(.double 33, .double 4607182418800017408), (.float 44, .float 40), (.float 45, .float 5), (.float 46, .float 43), (.float 47, .float 7), (.float 48, .int 0), (.float 49, .int 1)]
set_option maxRecDepth 1000000 in
theorem sg_ca_000 : seg (cal tp_ca_000 tq_ca_000) (pg_0 tp_ca_000 tq_ca_000) 3000 225 la_12 [] hp_0 68 762 tb_ca_000 237 la_12 [] hp_2 68 762 room_1.slots = true := by decide +kernel
def tp_cb_0_000 : Tape := [(13, 52, 0, 1), (10, 54, 0, 50), (14, 50, 0, 4607182418800017408)]
def tq_cb_0_000 : Tq := [(24, .float 3, .int 6, .float 50), (23, .float 50, .int 1, .int 0), (24, .float 50, .int 1, .float 51), (23, .float 51, .int 1, .float 52), (24, .float 50, .int 2, .float 53), (25, .float 53, .int 0, .float 54), (22, .float 44, .int 1, .float 55), (22, .float 45, .float 54, .float 56), (20, .float 55, .float 56, .float 57), (22, .float 46, .int 1, .float 58), (22, .float 47, .float 54, .float 59), (20, .float 58, .float 59, .float 60)]
def tb_cb_0_000 : Tab := [(.double 51, .double 4607182418800017408), (.float 61, .int 0), (.float 62, .int 1), (.float 70, .float 57), (.float 71, .float 45), (.float 72, .float 60), (.float 73, .float 47)]
set_option maxRecDepth 1000000 in
theorem sg_cb_0_000 : seg (cal tp_cb_0_000 tq_cb_0_000) (pg_0 tp_cb_0_000 tq_cb_0_000) 3000 243 la_12 [] hp_2 68 762 tb_cb_0_000 256 la_12 [] hp_6 68 762 room_1.slots = true := by decide +kernel
def tp_cb_1_000 : Tape := [(13, 52, 0, 1), (10, 54, 0, 50), (14, 50, 0, 4607182418800017408)]
def tq_cb_1_000 : Tq := [(24, .float 3, .int 6, .float 50), (23, .float 50, .int 1, .int 0), (24, .float 50, .int 1, .float 51), (23, .float 51, .int 1, .float 52), (24, .float 50, .int 2, .float 53), (25, .float 53, .int 0, .float 54), (22, .float 44, .int 1, .float 55), (22, .float 45, .float 54, .float 56), (20, .float 55, .float 56, .float 57), (22, .float 46, .int 1, .float 58), (22, .float 47, .float 54, .float 59), (20, .float 58, .float 59, .float 60)]
def tb_cb_1_000 : Tab := [(.double 51, .double 4607182418800017408), (.float 61, .int 0), (.float 62, .int 1), (.float 70, .float 57), (.float 71, .float 45), (.float 72, .float 60), (.float 73, .float 47)]
set_option maxRecDepth 1000000 in
theorem sg_cb_1_000 : seg (cal tp_cb_1_000 tq_cb_1_000) (pg_0 tp_cb_1_000 tq_cb_1_000) 3000 243 la_12 [] hp_4 68 762 tb_cb_1_000 256 la_12 [] hp_7 68 762 room_1.slots = true := by decide +kernel
def tp_ca_001 : Tape := [(13, 35, 0, 1)]
def tq_ca_001 : Tq := [(24, .float 3, .int 2, .float 33), (23, .float 33, .int 1, .int 0), (24, .float 33, .int 1, .float 34), (23, .float 34, .int 1, .float 35), (24, .float 33, .int 2, .float 36), (25, .float 36, .int 0, .int 0), (22, .float 4, .int 1, .float 38), (22, .float 5, .int 0, .float 39), (20, .float 38, .float 39, .float 40), (22, .float 6, .int 1, .float 41), (22, .float 7, .int 0, .float 42), (20, .float 41, .float 42, .float 43)]
def tb_ca_001 : Tab := [(.double 33, .double 4607182418800017408), (.float 44, .float 40), (.float 45, .float 5), (.float 46, .float 43), (.float 47, .float 7), (.float 48, .int 0)]
set_option maxRecDepth 1000000 in
theorem sg_ca_001 : seg (cal tp_ca_001 tq_ca_001) (pg_0 tp_ca_001 tq_ca_001) 3000 225 la_12 [] hp_0 68 762 tb_ca_001 237 la_12 [] hp_4 68 762 room_1.slots = true := by decide +kernel
def tp_cb_0_001 : Tape := [(13, 52, 0, 1)]
def tq_cb_0_001 : Tq := [(24, .float 3, .int 6, .float 50), (23, .float 50, .int 1, .int 0), (24, .float 50, .int 1, .float 51), (23, .float 51, .int 1, .float 52), (24, .float 50, .int 2, .float 53), (25, .float 53, .int 0, .int 0), (22, .float 44, .int 1, .float 55), (22, .float 45, .int 0, .float 56), (20, .float 55, .float 56, .float 57), (22, .float 46, .int 1, .float 58), (22, .float 47, .int 0, .float 59), (20, .float 58, .float 59, .float 60)]
def tb_cb_0_001 : Tab := [(.double 51, .double 4607182418800017408), (.float 61, .int 0), (.float 70, .float 57), (.float 71, .float 45), (.float 72, .float 60), (.float 73, .float 47)]
set_option maxRecDepth 1000000 in
theorem sg_cb_0_001 : seg (cal tp_cb_0_001 tq_cb_0_001) (pg_0 tp_cb_0_001 tq_cb_0_001) 3000 243 la_12 [] hp_2 68 762 tb_cb_0_001 256 la_12 [] hp_8 68 762 room_1.slots = true := by decide +kernel
def tp_cb_1_001 : Tape := [(13, 52, 0, 1)]
def tq_cb_1_001 : Tq := [(24, .float 3, .int 6, .float 50), (23, .float 50, .int 1, .int 0), (24, .float 50, .int 1, .float 51), (23, .float 51, .int 1, .float 52), (24, .float 50, .int 2, .float 53), (25, .float 53, .int 0, .int 0), (22, .float 44, .int 1, .float 55), (22, .float 45, .int 0, .float 56), (20, .float 55, .float 56, .float 57), (22, .float 46, .int 1, .float 58), (22, .float 47, .int 0, .float 59), (20, .float 58, .float 59, .float 60)]
def tb_cb_1_001 : Tab := [(.double 51, .double 4607182418800017408), (.float 61, .int 0), (.float 70, .float 57), (.float 71, .float 45), (.float 72, .float 60), (.float 73, .float 47)]
set_option maxRecDepth 1000000 in
theorem sg_cb_1_001 : seg (cal tp_cb_1_001 tq_cb_1_001) (pg_0 tp_cb_1_001 tq_cb_1_001) 3000 243 la_12 [] hp_4 68 762 tb_cb_1_001 256 la_12 [] hp_9 68 762 room_1.slots = true := by decide +kernel
def tp_ca_010 : Tape := [(13, 35, 0, 0), (10, 37, 0, 32), (14, 32, 0, 4607182418800017408)]
def tq_ca_010 : Tq := [(24, .float 3, .int 2, .float 33), (23, .float 33, .int 1, .int 0), (24, .float 33, .int 1, .float 34), (23, .float 34, .int 1, .float 35), (24, .float 33, .int 2, .float 36), (25, .float 36, .int 0, .float 37), (22, .float 4, .int (-1), .float 38), (22, .float 5, .float 37, .float 39), (20, .float 38, .float 39, .float 40), (22, .float 6, .int (-1), .float 41), (22, .float 7, .float 37, .float 42), (20, .float 41, .float 42, .float 43)]
def tb_ca_010 : Tab := [(.double 33, .double 13830554455654793216), (.float 44, .float 40), (.float 45, .float 5), (.float 46, .float 43), (.float 47, .float 7), (.float 48, .int 0), (.float 49, .int 1)]
set_option maxRecDepth 1000000 in
theorem sg_ca_010 : seg (cal tp_ca_010 tq_ca_010) (pg_0 tp_ca_010 tq_ca_010) 3000 225 la_12 [] hp_0 68 762 tb_ca_010 237 la_12 [] hp_2 68 762 room_1.slots = true := by decide +kernel
def tp_cb_0_010 : Tape := [(13, 52, 0, 0), (10, 54, 0, 50), (14, 50, 0, 4607182418800017408)]
def tq_cb_0_010 : Tq := [(24, .float 3, .int 6, .float 50), (23, .float 50, .int 1, .int 0), (24, .float 50, .int 1, .float 51), (23, .float 51, .int 1, .float 52), (24, .float 50, .int 2, .float 53), (25, .float 53, .int 0, .float 54), (22, .float 44, .int (-1), .float 55), (22, .float 45, .float 54, .float 56), (20, .float 55, .float 56, .float 57), (22, .float 46, .int (-1), .float 58), (22, .float 47, .float 54, .float 59), (20, .float 58, .float 59, .float 60)]
def tb_cb_0_010 : Tab := [(.double 51, .double 13830554455654793216), (.float 61, .int 0), (.float 62, .int 1), (.float 70, .float 57), (.float 71, .float 45), (.float 72, .float 60), (.float 73, .float 47)]
set_option maxRecDepth 1000000 in
theorem sg_cb_0_010 : seg (cal tp_cb_0_010 tq_cb_0_010) (pg_0 tp_cb_0_010 tq_cb_0_010) 3000 243 la_12 [] hp_2 68 762 tb_cb_0_010 256 la_12 [] hp_6 68 762 room_1.slots = true := by decide +kernel
def tp_cb_1_010 : Tape := [(13, 52, 0, 0), (10, 54, 0, 50), (14, 50, 0, 4607182418800017408)]
def tq_cb_1_010 : Tq := [(24, .float 3, .int 6, .float 50), (23, .float 50, .int 1, .int 0), (24, .float 50, .int 1, .float 51), (23, .float 51, .int 1, .float 52), (24, .float 50, .int 2, .float 53), (25, .float 53, .int 0, .float 54), (22, .float 44, .int (-1), .float 55), (22, .float 45, .float 54, .float 56), (20, .float 55, .float 56, .float 57), (22, .float 46, .int (-1), .float 58), (22, .float 47, .float 54, .float 59), (20, .float 58, .float 59, .float 60)]
def tb_cb_1_010 : Tab := [(.double 51, .double 13830554455654793216), (.float 61, .int 0), (.float 62, .int 1), (.float 70, .float 57), (.float 71, .float 45), (.float 72, .float 60), (.float 73, .float 47)]
set_option maxRecDepth 1000000 in
theorem sg_cb_1_010 : seg (cal tp_cb_1_010 tq_cb_1_010) (pg_0 tp_cb_1_010 tq_cb_1_010) 3000 243 la_12 [] hp_4 68 762 tb_cb_1_010 256 la_12 [] hp_7 68 762 room_1.slots = true := by decide +kernel
def tp_ca_011 : Tape := [(13, 35, 0, 0)]
def tq_ca_011 : Tq := [(24, .float 3, .int 2, .float 33), (23, .float 33, .int 1, .int 0), (24, .float 33, .int 1, .float 34), (23, .float 34, .int 1, .float 35), (24, .float 33, .int 2, .float 36), (25, .float 36, .int 0, .int 0), (22, .float 4, .int (-1), .float 38), (22, .float 5, .int 0, .float 39), (20, .float 38, .float 39, .float 40), (22, .float 6, .int (-1), .float 41), (22, .float 7, .int 0, .float 42), (20, .float 41, .float 42, .float 43)]
def tb_ca_011 : Tab := [(.double 33, .double 13830554455654793216), (.float 44, .float 40), (.float 45, .float 5), (.float 46, .float 43), (.float 47, .float 7), (.float 48, .int 0)]
set_option maxRecDepth 1000000 in
theorem sg_ca_011 : seg (cal tp_ca_011 tq_ca_011) (pg_0 tp_ca_011 tq_ca_011) 3000 225 la_12 [] hp_0 68 762 tb_ca_011 237 la_12 [] hp_4 68 762 room_1.slots = true := by decide +kernel
def tp_cb_0_011 : Tape := [(13, 52, 0, 0)]
def tq_cb_0_011 : Tq := [(24, .float 3, .int 6, .float 50), (23, .float 50, .int 1, .int 0), (24, .float 50, .int 1, .float 51), (23, .float 51, .int 1, .float 52), (24, .float 50, .int 2, .float 53), (25, .float 53, .int 0, .int 0), (22, .float 44, .int (-1), .float 55), (22, .float 45, .int 0, .float 56), (20, .float 55, .float 56, .float 57), (22, .float 46, .int (-1), .float 58), (22, .float 47, .int 0, .float 59), (20, .float 58, .float 59, .float 60)]
def tb_cb_0_011 : Tab := [(.double 51, .double 13830554455654793216), (.float 61, .int 0), (.float 70, .float 57), (.float 71, .float 45), (.float 72, .float 60), (.float 73, .float 47)]
set_option maxRecDepth 1000000 in
theorem sg_cb_0_011 : seg (cal tp_cb_0_011 tq_cb_0_011) (pg_0 tp_cb_0_011 tq_cb_0_011) 3000 243 la_12 [] hp_2 68 762 tb_cb_0_011 256 la_12 [] hp_8 68 762 room_1.slots = true := by decide +kernel
def tp_cb_1_011 : Tape := [(13, 52, 0, 0)]
def tq_cb_1_011 : Tq := [(24, .float 3, .int 6, .float 50), (23, .float 50, .int 1, .int 0), (24, .float 50, .int 1, .float 51), (23, .float 51, .int 1, .float 52), (24, .float 50, .int 2, .float 53), (25, .float 53, .int 0, .int 0), (22, .float 44, .int (-1), .float 55), (22, .float 45, .int 0, .float 56), (20, .float 55, .float 56, .float 57), (22, .float 46, .int (-1), .float 58), (22, .float 47, .int 0, .float 59), (20, .float 58, .float 59, .float 60)]
def tb_cb_1_011 : Tab := [(.double 51, .double 13830554455654793216), (.float 61, .int 0), (.float 70, .float 57), (.float 71, .float 45), (.float 72, .float 60), (.float 73, .float 47)]
set_option maxRecDepth 1000000 in
theorem sg_cb_1_011 : seg (cal tp_cb_1_011 tq_cb_1_011) (pg_0 tp_cb_1_011 tq_cb_1_011) 3000 243 la_12 [] hp_4 68 762 tb_cb_1_011 256 la_12 [] hp_9 68 762 room_1.slots = true := by decide +kernel
def tp_ca_100 : Tape := [(13, 35, 0, 1), (10, 37, 0, 32), (14, 32, 0, 4607182418800017408)]
def tq_ca_100 : Tq := [(24, .float 3, .int 2, .float 33), (23, .float 33, .int 1, .int 1), (24, .float 33, .int 1, .float 34), (23, .float 34, .int 1, .float 35), (24, .float 33, .int 2, .float 36), (25, .float 36, .int 0, .float 37), (22, .float 4, .float 37, .float 38), (22, .float 5, .int 1, .float 39), (20, .float 38, .float 39, .float 40), (22, .float 6, .float 37, .float 41), (22, .float 7, .int 1, .float 42), (20, .float 41, .float 42, .float 43)]
def tb_ca_100 : Tab := [(.double 33, .double 4607182418800017408), (.float 44, .float 4), (.float 45, .float 40), (.float 46, .float 6), (.float 47, .float 43), (.float 48, .int 1), (.float 49, .int 0)]
set_option maxRecDepth 1000000 in
theorem sg_ca_100 : seg (cal tp_ca_100 tq_ca_100) (pg_0 tp_ca_100 tq_ca_100) 3000 225 la_12 [] hp_0 68 762 tb_ca_100 237 la_12 [] hp_2 68 762 room_1.slots = true := by decide +kernel
def tp_cb_0_100 : Tape := [(13, 52, 0, 1), (10, 54, 0, 50), (14, 50, 0, 4607182418800017408)]
def tq_cb_0_100 : Tq := [(24, .float 3, .int 6, .float 50), (23, .float 50, .int 1, .int 1), (24, .float 50, .int 1, .float 51), (23, .float 51, .int 1, .float 52), (24, .float 50, .int 2, .float 53), (25, .float 53, .int 0, .float 54), (22, .float 44, .float 54, .float 55), (22, .float 45, .int 1, .float 56), (20, .float 55, .float 56, .float 57), (22, .float 46, .float 54, .float 58), (22, .float 47, .int 1, .float 59), (20, .float 58, .float 59, .float 60)]
def tb_cb_0_100 : Tab := [(.double 51, .double 4607182418800017408), (.float 61, .int 1), (.float 62, .int 0), (.float 70, .float 44), (.float 71, .float 57), (.float 72, .float 46), (.float 73, .float 60)]
set_option maxRecDepth 1000000 in
theorem sg_cb_0_100 : seg (cal tp_cb_0_100 tq_cb_0_100) (pg_0 tp_cb_0_100 tq_cb_0_100) 3000 243 la_12 [] hp_2 68 762 tb_cb_0_100 256 la_12 [] hp_6 68 762 room_1.slots = true := by decide +kernel
def tp_cb_1_100 : Tape := [(13, 52, 0, 1), (10, 54, 0, 50), (14, 50, 0, 4607182418800017408)]
def tq_cb_1_100 : Tq := [(24, .float 3, .int 6, .float 50), (23, .float 50, .int 1, .int 1), (24, .float 50, .int 1, .float 51), (23, .float 51, .int 1, .float 52), (24, .float 50, .int 2, .float 53), (25, .float 53, .int 0, .float 54), (22, .float 44, .float 54, .float 55), (22, .float 45, .int 1, .float 56), (20, .float 55, .float 56, .float 57), (22, .float 46, .float 54, .float 58), (22, .float 47, .int 1, .float 59), (20, .float 58, .float 59, .float 60)]
def tb_cb_1_100 : Tab := [(.double 51, .double 4607182418800017408), (.float 61, .int 1), (.float 62, .int 0), (.float 70, .float 44), (.float 71, .float 57), (.float 72, .float 46), (.float 73, .float 60)]
set_option maxRecDepth 1000000 in
theorem sg_cb_1_100 : seg (cal tp_cb_1_100 tq_cb_1_100) (pg_0 tp_cb_1_100 tq_cb_1_100) 3000 243 la_12 [] hp_4 68 762 tb_cb_1_100 256 la_12 [] hp_7 68 762 room_1.slots = true := by decide +kernel
def tp_ca_101 : Tape := [(13, 35, 0, 1)]
def tq_ca_101 : Tq := [(24, .float 3, .int 2, .float 33), (23, .float 33, .int 1, .int 1), (24, .float 33, .int 1, .float 34), (23, .float 34, .int 1, .float 35), (24, .float 33, .int 2, .float 36), (25, .float 36, .int 0, .int 0), (22, .float 4, .int 0, .float 38), (22, .float 5, .int 1, .float 39), (20, .float 38, .float 39, .float 40), (22, .float 6, .int 0, .float 41), (22, .float 7, .int 1, .float 42), (20, .float 41, .float 42, .float 43)]
def tb_ca_101 : Tab := [(.double 33, .double 4607182418800017408), (.float 44, .float 4), (.float 45, .float 40), (.float 46, .float 6), (.float 47, .float 43), (.float 48, .int 1)]
set_option maxRecDepth 1000000 in
theorem sg_ca_101 : seg (cal tp_ca_101 tq_ca_101) (pg_0 tp_ca_101 tq_ca_101) 3000 225 la_12 [] hp_0 68 762 tb_ca_101 237 la_12 [] hp_4 68 762 room_1.slots = true := by decide +kernel
def tp_cb_0_101 : Tape := [(13, 52, 0, 1)]
def tq_cb_0_101 : Tq := [(24, .float 3, .int 6, .float 50), (23, .float 50, .int 1, .int 1), (24, .float 50, .int 1, .float 51), (23, .float 51, .int 1, .float 52), (24, .float 50, .int 2, .float 53), (25, .float 53, .int 0, .int 0), (22, .float 44, .int 0, .float 55), (22, .float 45, .int 1, .float 56), (20, .float 55, .float 56, .float 57), (22, .float 46, .int 0, .float 58), (22, .float 47, .int 1, .float 59), (20, .float 58, .float 59, .float 60)]
def tb_cb_0_101 : Tab := [(.double 51, .double 4607182418800017408), (.float 61, .int 1), (.float 70, .float 44), (.float 71, .float 57), (.float 72, .float 46), (.float 73, .float 60)]
set_option maxRecDepth 1000000 in
theorem sg_cb_0_101 : seg (cal tp_cb_0_101 tq_cb_0_101) (pg_0 tp_cb_0_101 tq_cb_0_101) 3000 243 la_12 [] hp_2 68 762 tb_cb_0_101 256 la_12 [] hp_8 68 762 room_1.slots = true := by decide +kernel
def tp_cb_1_101 : Tape := [(13, 52, 0, 1)]
def tq_cb_1_101 : Tq := [(24, .float 3, .int 6, .float 50), (23, .float 50, .int 1, .int 1), (24, .float 50, .int 1, .float 51), (23, .float 51, .int 1, .float 52), (24, .float 50, .int 2, .float 53), (25, .float 53, .int 0, .int 0), (22, .float 44, .int 0, .float 55), (22, .float 45, .int 1, .float 56), (20, .float 55, .float 56, .float 57), (22, .float 46, .int 0, .float 58), (22, .float 47, .int 1, .float 59), (20, .float 58, .float 59, .float 60)]
def tb_cb_1_101 : Tab := [(.double 51, .double 4607182418800017408), (.float 61, .int 1), (.float 70, .float 44), (.float 71, .float 57), (.float 72, .float 46), (.float 73, .float 60)]
set_option maxRecDepth 1000000 in
theorem sg_cb_1_101 : seg (cal tp_cb_1_101 tq_cb_1_101) (pg_0 tp_cb_1_101 tq_cb_1_101) 3000 243 la_12 [] hp_4 68 762 tb_cb_1_101 256 la_12 [] hp_9 68 762 room_1.slots = true := by decide +kernel
def tp_ca_110 : Tape := [(13, 35, 0, 0), (10, 37, 0, 32), (14, 32, 0, 4607182418800017408)]
def tq_ca_110 : Tq := [(24, .float 3, .int 2, .float 33), (23, .float 33, .int 1, .int 1), (24, .float 33, .int 1, .float 34), (23, .float 34, .int 1, .float 35), (24, .float 33, .int 2, .float 36), (25, .float 36, .int 0, .float 37), (22, .float 4, .float 37, .float 38), (22, .float 5, .int (-1), .float 39), (20, .float 38, .float 39, .float 40), (22, .float 6, .float 37, .float 41), (22, .float 7, .int (-1), .float 42), (20, .float 41, .float 42, .float 43)]
def tb_ca_110 : Tab := [(.double 33, .double 13830554455654793216), (.float 44, .float 4), (.float 45, .float 40), (.float 46, .float 6), (.float 47, .float 43), (.float 48, .int 1), (.float 49, .int 0)]
set_option maxRecDepth 1000000 in
theorem sg_ca_110 : seg (cal tp_ca_110 tq_ca_110) (pg_0 tp_ca_110 tq_ca_110) 3000 225 la_12 [] hp_0 68 762 tb_ca_110 237 la_12 [] hp_2 68 762 room_1.slots = true := by decide +kernel
def tp_cb_0_110 : Tape := [(13, 52, 0, 0), (10, 54, 0, 50), (14, 50, 0, 4607182418800017408)]
def tq_cb_0_110 : Tq := [(24, .float 3, .int 6, .float 50), (23, .float 50, .int 1, .int 1), (24, .float 50, .int 1, .float 51), (23, .float 51, .int 1, .float 52), (24, .float 50, .int 2, .float 53), (25, .float 53, .int 0, .float 54), (22, .float 44, .float 54, .float 55), (22, .float 45, .int (-1), .float 56), (20, .float 55, .float 56, .float 57), (22, .float 46, .float 54, .float 58), (22, .float 47, .int (-1), .float 59), (20, .float 58, .float 59, .float 60)]
def tb_cb_0_110 : Tab := [(.double 51, .double 13830554455654793216), (.float 61, .int 1), (.float 62, .int 0), (.float 70, .float 44), (.float 71, .float 57), (.float 72, .float 46), (.float 73, .float 60)]
set_option maxRecDepth 1000000 in
theorem sg_cb_0_110 : seg (cal tp_cb_0_110 tq_cb_0_110) (pg_0 tp_cb_0_110 tq_cb_0_110) 3000 243 la_12 [] hp_2 68 762 tb_cb_0_110 256 la_12 [] hp_6 68 762 room_1.slots = true := by decide +kernel
def tp_cb_1_110 : Tape := [(13, 52, 0, 0), (10, 54, 0, 50), (14, 50, 0, 4607182418800017408)]
def tq_cb_1_110 : Tq := [(24, .float 3, .int 6, .float 50), (23, .float 50, .int 1, .int 1), (24, .float 50, .int 1, .float 51), (23, .float 51, .int 1, .float 52), (24, .float 50, .int 2, .float 53), (25, .float 53, .int 0, .float 54), (22, .float 44, .float 54, .float 55), (22, .float 45, .int (-1), .float 56), (20, .float 55, .float 56, .float 57), (22, .float 46, .float 54, .float 58), (22, .float 47, .int (-1), .float 59), (20, .float 58, .float 59, .float 60)]
def tb_cb_1_110 : Tab := [(.double 51, .double 13830554455654793216), (.float 61, .int 1), (.float 62, .int 0), (.float 70, .float 44), (.float 71, .float 57), (.float 72, .float 46), (.float 73, .float 60)]
set_option maxRecDepth 1000000 in
theorem sg_cb_1_110 : seg (cal tp_cb_1_110 tq_cb_1_110) (pg_0 tp_cb_1_110 tq_cb_1_110) 3000 243 la_12 [] hp_4 68 762 tb_cb_1_110 256 la_12 [] hp_7 68 762 room_1.slots = true := by decide +kernel
def tp_ca_111 : Tape := [(13, 35, 0, 0)]
def tq_ca_111 : Tq := [(24, .float 3, .int 2, .float 33), (23, .float 33, .int 1, .int 1), (24, .float 33, .int 1, .float 34), (23, .float 34, .int 1, .float 35), (24, .float 33, .int 2, .float 36), (25, .float 36, .int 0, .int 0), (22, .float 4, .int 0, .float 38), (22, .float 5, .int (-1), .float 39), (20, .float 38, .float 39, .float 40), (22, .float 6, .int 0, .float 41), (22, .float 7, .int (-1), .float 42), (20, .float 41, .float 42, .float 43)]
def tb_ca_111 : Tab := [(.double 33, .double 13830554455654793216), (.float 44, .float 4), (.float 45, .float 40), (.float 46, .float 6), (.float 47, .float 43), (.float 48, .int 1)]
set_option maxRecDepth 1000000 in
theorem sg_ca_111 : seg (cal tp_ca_111 tq_ca_111) (pg_0 tp_ca_111 tq_ca_111) 3000 225 la_12 [] hp_0 68 762 tb_ca_111 237 la_12 [] hp_4 68 762 room_1.slots = true := by decide +kernel
def tp_cb_0_111 : Tape := [(13, 52, 0, 0)]
def tq_cb_0_111 : Tq := [(24, .float 3, .int 6, .float 50), (23, .float 50, .int 1, .int 1), (24, .float 50, .int 1, .float 51), (23, .float 51, .int 1, .float 52), (24, .float 50, .int 2, .float 53), (25, .float 53, .int 0, .int 0), (22, .float 44, .int 0, .float 55), (22, .float 45, .int (-1), .float 56), (20, .float 55, .float 56, .float 57), (22, .float 46, .int 0, .float 58), (22, .float 47, .int (-1), .float 59), (20, .float 58, .float 59, .float 60)]
def tb_cb_0_111 : Tab := [(.double 51, .double 13830554455654793216), (.float 61, .int 1), (.float 70, .float 44), (.float 71, .float 57), (.float 72, .float 46), (.float 73, .float 60)]
set_option maxRecDepth 1000000 in
theorem sg_cb_0_111 : seg (cal tp_cb_0_111 tq_cb_0_111) (pg_0 tp_cb_0_111 tq_cb_0_111) 3000 243 la_12 [] hp_2 68 762 tb_cb_0_111 256 la_12 [] hp_8 68 762 room_1.slots = true := by decide +kernel
def tp_cb_1_111 : Tape := [(13, 52, 0, 0)]
def tq_cb_1_111 : Tq := [(24, .float 3, .int 6, .float 50), (23, .float 50, .int 1, .int 1), (24, .float 50, .int 1, .float 51), (23, .float 51, .int 1, .float 52), (24, .float 50, .int 2, .float 53), (25, .float 53, .int 0, .int 0), (22, .float 44, .int 0, .float 55), (22, .float 45, .int (-1), .float 56), (20, .float 55, .float 56, .float 57), (22, .float 46, .int 0, .float 58), (22, .float 47, .int (-1), .float 59), (20, .float 58, .float 59, .float 60)]
def tb_cb_1_111 : Tab := [(.double 51, .double 13830554455654793216), (.float 61, .int 1), (.float 70, .float 44), (.float 71, .float 57), (.float 72, .float 46), (.float 73, .float 60)]
set_option maxRecDepth 1000000 in
theorem sg_cb_1_111 : seg (cal tp_cb_1_111 tq_cb_1_111) (pg_0 tp_cb_1_111 tq_cb_1_111) 3000 243 la_12 [] hp_4 68 762 tb_cb_1_111 256 la_12 [] hp_9 68 762 room_1.slots = true := by decide +kernel
def tp_lc : Tape := []
def tq_lc : Tq := []
def tb_lc : Tab := []
set_option maxRecDepth 1000000 in
theorem sg_lc : seg (cal tp_lc tq_lc) (pg_0 tp_lc tq_lc) 3000 256 la_12 [] hp_1 68 762 tb_lc 262 la_12 [.ref 10, .ref 9, .ref 11] hp_1 68 762 room_1.slots = true := by decide +kernel
def tp_lc_0 : Tape := []
def tq_lc_0 : Tq := []
def tb_lc_0 : Tab := []
set_option maxRecDepth 1000000 in
theorem sg_lc_0 : seg (cal tp_lc_0 tq_lc_0) (pg_0 tp_lc_0 tq_lc_0) 3000 256 la_12 [] hp_3 68 762 tb_lc_0 262 la_12 [.ref 10, .ref 9, .ref 11] hp_3 68 762 room_1.slots = true := by decide +kernel
def tp_lc_1 : Tape := []
def tq_lc_1 : Tq := []
def tb_lc_1 : Tab := []
set_option maxRecDepth 1000000 in
theorem sg_lc_1 : seg (cal tp_lc_1 tq_lc_1) (pg_0 tp_lc_1 tq_lc_1) 3000 256 la_12 [] hp_5 68 762 tb_lc_1 262 la_12 [.ref 10, .ref 9, .ref 11] hp_5 68 762 room_1.slots = true := by decide +kernel
def tp_lc_00 : Tape := []
def tq_lc_00 : Tq := []
def tb_lc_00 : Tab := []
set_option maxRecDepth 1000000 in
theorem sg_lc_00 : seg (cal tp_lc_00 tq_lc_00) (pg_0 tp_lc_00 tq_lc_00) 3000 256 la_12 [] hp_6 68 762 tb_lc_00 262 la_12 [.ref 10, .ref 9, .ref 11] hp_6 68 762 room_1.slots = true := by decide +kernel
def tp_lc_01 : Tape := []
def tq_lc_01 : Tq := []
def tb_lc_01 : Tab := []
set_option maxRecDepth 1000000 in
theorem sg_lc_01 : seg (cal tp_lc_01 tq_lc_01) (pg_0 tp_lc_01 tq_lc_01) 3000 256 la_12 [] hp_8 68 762 tb_lc_01 262 la_12 [.ref 10, .ref 9, .ref 11] hp_8 68 762 room_1.slots = true := by decide +kernel
def tp_lc_10 : Tape := []
def tq_lc_10 : Tq := []
def tb_lc_10 : Tab := []
set_option maxRecDepth 1000000 in
theorem sg_lc_10 : seg (cal tp_lc_10 tq_lc_10) (pg_0 tp_lc_10 tq_lc_10) 3000 256 la_12 [] hp_7 68 762 tb_lc_10 262 la_12 [.ref 10, .ref 9, .ref 11] hp_7 68 762 room_1.slots = true := by decide +kernel
def tp_lc_11 : Tape := []
def tq_lc_11 : Tq := []
def tb_lc_11 : Tab := []
set_option maxRecDepth 1000000 in
theorem sg_lc_11 : seg (cal tp_lc_11 tq_lc_11) (pg_0 tp_lc_11 tq_lc_11) 3000 256 la_12 [] hp_9 68 762 tb_lc_11 262 la_12 [.ref 10, .ref 9, .ref 11] hp_9 68 762 room_1.slots = true := by decide +kernel
def tp_e0 : Tape := []
def tq_e0 : Tq := []
def tb_e0 : Tab := [(.double 76, .double 1), (.double 77, .double 2)]
set_option maxRecDepth 1000000 in
theorem sg_e0 : seg (cal tp_e0 tq_e0) (pg_33 tp_e0 tq_e0) 3000 0 la_17 [] hp_1 0 0 tb_e0 108 la_18 [] hp_10 0 0 rm_33.slots = true := by decide +kernel
def tp_e1_00 : Tape := [(2, 32, 2, 70), (1, 1, 70, 71), (3, 71, 33, 72)]
def tq_e1_00 : Tq := []
def tb_e1_00 : Tab := [(.double 76, .double 72), (.double 77, .double 2), (.double 78, .double 71), (.float 74, .int 0), (.float 75, .int 1)]
set_option maxRecDepth 1000000 in
theorem sg_e1_00 : seg (cal tp_e1_00 tq_e1_00) (pg_33 tp_e1_00 tq_e1_00) 3000 0 la_17 [] hp_11 0 0 tb_e1_00 108 la_19 [] hp_10 0 0 rm_33.slots = true := by decide +kernel
def tp_e1_01 : Tape := [(2, 32, 1, 70), (1, 2, 70, 71), (3, 71, 33, 72)]
def tq_e1_01 : Tq := []
def tb_e1_01 : Tab := [(.double 76, .double 1), (.double 77, .double 72), (.double 78, .double 71), (.float 74, .int 1), (.float 75, .int 1)]
set_option maxRecDepth 1000000 in
theorem sg_e1_01 : seg (cal tp_e1_01 tq_e1_01) (pg_33 tp_e1_01 tq_e1_01) 3000 0 la_17 [] hp_12 0 0 tb_e1_01 108 la_19 [] hp_10 0 0 rm_33.slots = true := by decide +kernel
def tp_e1_10 : Tape := [(3, 1, 33, 72)]
def tq_e1_10 : Tq := []
def tb_e1_10 : Tab := [(.double 76, .double 72), (.double 77, .double 2), (.double 78, .double 1), (.float 74, .int 0), (.float 75, .int 0)]
set_option maxRecDepth 1000000 in
theorem sg_e1_10 : seg (cal tp_e1_10 tq_e1_10) (pg_33 tp_e1_10 tq_e1_10) 3000 0 la_17 [] hp_13 0 0 tb_e1_10 108 la_19 [] hp_10 0 0 rm_33.slots = true := by decide +kernel
def tp_e1_11 : Tape := [(3, 2, 33, 72)]
def tq_e1_11 : Tq := []
def tb_e1_11 : Tab := [(.double 76, .double 1), (.double 77, .double 72), (.double 78, .double 2), (.float 74, .int 1), (.float 75, .int 0)]
set_option maxRecDepth 1000000 in
theorem sg_e1_11 : seg (cal tp_e1_11 tq_e1_11) (pg_33 tp_e1_11 tq_e1_11) 3000 0 la_17 [] hp_14 0 0 tb_e1_11 108 la_19 [] hp_10 0 0 rm_33.slots = true := by decide +kernel
def tp_e2_00_00 : Tape := [(2, 50, 2, 70), (1, 1, 70, 71), (3, 71, 51, 72), (2, 32, 2, 73), (1, 72, 73, 74), (3, 74, 33, 75)]
def tq_e2_00_00 : Tq := []
def tb_e2_00_00 : Tab := [(.double 76, .double 75), (.double 77, .double 2), (.double 78, .double 74), (.float 74, .int 0), (.float 75, .int 1)]
set_option maxRecDepth 1000000 in
theorem sg_e2_00_00 : seg (cal tp_e2_00_00 tq_e2_00_00) (pg_33 tp_e2_00_00 tq_e2_00_00) 3000 0 la_17 [] hp_15 0 0 tb_e2_00_00 108 la_19 [] hp_10 0 0 rm_33.slots = true := by decide +kernel
def tp_e2_00_01 : Tape := [(2, 50, 1, 70), (1, 2, 70, 71), (3, 71, 51, 72), (2, 32, 72, 73), (1, 1, 73, 74), (3, 74, 33, 75)]
def tq_e2_00_01 : Tq := []
def tb_e2_00_01 : Tab := [(.double 76, .double 75), (.double 77, .double 72), (.double 78, .double 74), (.float 74, .int 0), (.float 75, .int 1)]
set_option maxRecDepth 1000000 in
theorem sg_e2_00_01 : seg (cal tp_e2_00_01 tq_e2_00_01) (pg_33 tp_e2_00_01 tq_e2_00_01) 3000 0 la_17 [] hp_16 0 0 tb_e2_00_01 108 la_19 [] hp_10 0 0 rm_33.slots = true := by decide +kernel
def tp_e2_00_10 : Tape := [(3, 1, 51, 72), (2, 32, 2, 73), (1, 72, 73, 74), (3, 74, 33, 75)]
def tq_e2_00_10 : Tq := []
def tb_e2_00_10 : Tab := [(.double 76, .double 75), (.double 77, .double 2), (.double 78, .double 74), (.float 74, .int 0), (.float 75, .int 1)]
set_option maxRecDepth 1000000 in
theorem sg_e2_00_10 : seg (cal tp_e2_00_10 tq_e2_00_10) (pg_33 tp_e2_00_10 tq_e2_00_10) 3000 0 la_17 [] hp_17 0 0 tb_e2_00_10 108 la_19 [] hp_10 0 0 rm_33.slots = true := by decide +kernel
def tp_e2_00_11 : Tape := [(3, 2, 51, 72), (2, 32, 72, 73), (1, 1, 73, 74), (3, 74, 33, 75)]
def tq_e2_00_11 : Tq := []
def tb_e2_00_11 : Tab := [(.double 76, .double 75), (.double 77, .double 72), (.double 78, .double 74), (.float 74, .int 0), (.float 75, .int 1)]
set_option maxRecDepth 1000000 in
theorem sg_e2_00_11 : seg (cal tp_e2_00_11 tq_e2_00_11) (pg_33 tp_e2_00_11 tq_e2_00_11) 3000 0 la_17 [] hp_18 0 0 tb_e2_00_11 108 la_19 [] hp_10 0 0 rm_33.slots = true := by decide +kernel
def tp_e2_01_00 : Tape := [(2, 50, 2, 70), (1, 1, 70, 71), (3, 71, 51, 72), (2, 32, 72, 73), (1, 2, 73, 74), (3, 74, 33, 75)]
def tq_e2_01_00 : Tq := []
def tb_e2_01_00 : Tab := [(.double 76, .double 72), (.double 77, .double 75), (.double 78, .double 74), (.float 74, .int 1), (.float 75, .int 1)]
set_option maxRecDepth 1000000 in
theorem sg_e2_01_00 : seg (cal tp_e2_01_00 tq_e2_01_00) (pg_33 tp_e2_01_00 tq_e2_01_00) 3000 0 la_17 [] hp_19 0 0 tb_e2_01_00 108 la_19 [] hp_10 0 0 rm_33.slots = true := by decide +kernel
def tp_e2_01_01 : Tape := [(2, 50, 1, 70), (1, 2, 70, 71), (3, 71, 51, 72), (2, 32, 1, 73), (1, 72, 73, 74), (3, 74, 33, 75)]
def tq_e2_01_01 : Tq := []
def tb_e2_01_01 : Tab := [(.double 76, .double 1), (.double 77, .double 75), (.double 78, .double 74), (.float 74, .int 1), (.float 75, .int 1)]
set_option maxRecDepth 1000000 in
theorem sg_e2_01_01 : seg (cal tp_e2_01_01 tq_e2_01_01) (pg_33 tp_e2_01_01 tq_e2_01_01) 3000 0 la_17 [] hp_20 0 0 tb_e2_01_01 108 la_19 [] hp_10 0 0 rm_33.slots = true := by decide +kernel
def tp_e2_01_10 : Tape := [(3, 1, 51, 72), (2, 32, 72, 73), (1, 2, 73, 74), (3, 74, 33, 75)]
def tq_e2_01_10 : Tq := []
def tb_e2_01_10 : Tab := [(.double 76, .double 72), (.double 77, .double 75), (.double 78, .double 74), (.float 74, .int 1), (.float 75, .int 1)]
set_option maxRecDepth 1000000 in
theorem sg_e2_01_10 : seg (cal tp_e2_01_10 tq_e2_01_10) (pg_33 tp_e2_01_10 tq_e2_01_10) 3000 0 la_17 [] hp_21 0 0 tb_e2_01_10 108 la_19 [] hp_10 0 0 rm_33.slots = true := by decide +kernel
def tp_e2_01_11 : Tape := [(3, 2, 51, 72), (2, 32, 1, 73), (1, 72, 73, 74), (3, 74, 33, 75)]
def tq_e2_01_11 : Tq := []
def tb_e2_01_11 : Tab := [(.double 76, .double 1), (.double 77, .double 75), (.double 78, .double 74), (.float 74, .int 1), (.float 75, .int 1)]
set_option maxRecDepth 1000000 in
theorem sg_e2_01_11 : seg (cal tp_e2_01_11 tq_e2_01_11) (pg_33 tp_e2_01_11 tq_e2_01_11) 3000 0 la_17 [] hp_22 0 0 tb_e2_01_11 108 la_19 [] hp_10 0 0 rm_33.slots = true := by decide +kernel
def tp_e2_10_00 : Tape := [(2, 50, 2, 70), (1, 1, 70, 71), (3, 71, 51, 72), (3, 72, 33, 75)]
def tq_e2_10_00 : Tq := []
def tb_e2_10_00 : Tab := [(.double 76, .double 75), (.double 77, .double 2), (.double 78, .double 72), (.float 74, .int 0), (.float 75, .int 0)]
set_option maxRecDepth 1000000 in
theorem sg_e2_10_00 : seg (cal tp_e2_10_00 tq_e2_10_00) (pg_33 tp_e2_10_00 tq_e2_10_00) 3000 0 la_17 [] hp_23 0 0 tb_e2_10_00 108 la_19 [] hp_10 0 0 rm_33.slots = true := by decide +kernel
def tp_e2_10_01 : Tape := [(2, 50, 1, 70), (1, 2, 70, 71), (3, 71, 51, 72), (3, 1, 33, 75)]
def tq_e2_10_01 : Tq := []
def tb_e2_10_01 : Tab := [(.double 76, .double 75), (.double 77, .double 72), (.double 78, .double 1), (.float 74, .int 0), (.float 75, .int 0)]
set_option maxRecDepth 1000000 in
theorem sg_e2_10_01 : seg (cal tp_e2_10_01 tq_e2_10_01) (pg_33 tp_e2_10_01 tq_e2_10_01) 3000 0 la_17 [] hp_24 0 0 tb_e2_10_01 108 la_19 [] hp_10 0 0 rm_33.slots = true := by decide +kernel
def tp_e2_10_10 : Tape := [(3, 1, 51, 72), (3, 72, 33, 75)]
def tq_e2_10_10 : Tq := []
def tb_e2_10_10 : Tab := [(.double 76, .double 75), (.double 77, .double 2), (.double 78, .double 72), (.float 74, .int 0), (.float 75, .int 0)]
set_option maxRecDepth 1000000 in
theorem sg_e2_10_10 : seg (cal tp_e2_10_10 tq_e2_10_10) (pg_33 tp_e2_10_10 tq_e2_10_10) 3000 0 la_17 [] hp_25 0 0 tb_e2_10_10 108 la_19 [] hp_10 0 0 rm_33.slots = true := by decide +kernel
def tp_e2_10_11 : Tape := [(3, 2, 51, 72), (3, 1, 33, 75)]
def tq_e2_10_11 : Tq := []
def tb_e2_10_11 : Tab := [(.double 76, .double 75), (.double 77, .double 72), (.double 78, .double 1), (.float 74, .int 0), (.float 75, .int 0)]
set_option maxRecDepth 1000000 in
theorem sg_e2_10_11 : seg (cal tp_e2_10_11 tq_e2_10_11) (pg_33 tp_e2_10_11 tq_e2_10_11) 3000 0 la_17 [] hp_26 0 0 tb_e2_10_11 108 la_19 [] hp_10 0 0 rm_33.slots = true := by decide +kernel
def tp_e2_11_00 : Tape := [(2, 50, 2, 70), (1, 1, 70, 71), (3, 71, 51, 72), (3, 2, 33, 75)]
def tq_e2_11_00 : Tq := []
def tb_e2_11_00 : Tab := [(.double 76, .double 72), (.double 77, .double 75), (.double 78, .double 2), (.float 74, .int 1), (.float 75, .int 0)]
set_option maxRecDepth 1000000 in
theorem sg_e2_11_00 : seg (cal tp_e2_11_00 tq_e2_11_00) (pg_33 tp_e2_11_00 tq_e2_11_00) 3000 0 la_17 [] hp_27 0 0 tb_e2_11_00 108 la_19 [] hp_10 0 0 rm_33.slots = true := by decide +kernel
def tp_e2_11_01 : Tape := [(2, 50, 1, 70), (1, 2, 70, 71), (3, 71, 51, 72), (3, 72, 33, 75)]
def tq_e2_11_01 : Tq := []
def tb_e2_11_01 : Tab := [(.double 76, .double 1), (.double 77, .double 75), (.double 78, .double 72), (.float 74, .int 1), (.float 75, .int 0)]
set_option maxRecDepth 1000000 in
theorem sg_e2_11_01 : seg (cal tp_e2_11_01 tq_e2_11_01) (pg_33 tp_e2_11_01 tq_e2_11_01) 3000 0 la_17 [] hp_28 0 0 tb_e2_11_01 108 la_19 [] hp_10 0 0 rm_33.slots = true := by decide +kernel
def tp_e2_11_10 : Tape := [(3, 1, 51, 72), (3, 2, 33, 75)]
def tq_e2_11_10 : Tq := []
def tb_e2_11_10 : Tab := [(.double 76, .double 72), (.double 77, .double 75), (.double 78, .double 2), (.float 74, .int 1), (.float 75, .int 0)]
set_option maxRecDepth 1000000 in
theorem sg_e2_11_10 : seg (cal tp_e2_11_10 tq_e2_11_10) (pg_33 tp_e2_11_10 tq_e2_11_10) 3000 0 la_17 [] hp_29 0 0 tb_e2_11_10 108 la_19 [] hp_10 0 0 rm_33.slots = true := by decide +kernel
def tp_e2_11_11 : Tape := [(3, 2, 51, 72), (3, 72, 33, 75)]
def tq_e2_11_11 : Tq := []
def tb_e2_11_11 : Tab := [(.double 76, .double 1), (.double 77, .double 75), (.double 78, .double 72), (.float 74, .int 1), (.float 75, .int 0)]
set_option maxRecDepth 1000000 in
theorem sg_e2_11_11 : seg (cal tp_e2_11_11 tq_e2_11_11) (pg_33 tp_e2_11_11 tq_e2_11_11) 3000 0 la_17 [] hp_30 0 0 tb_e2_11_11 108 la_19 [] hp_10 0 0 rm_33.slots = true := by decide +kernel
def tp_u0_0_00 : Tape := [(3, 77, 10, 82), (12, 82, 0, 80), (13, 80, 0, 0), (3, 76, 11, 85), (12, 85, 0, 81), (13, 81, 0, 0), (1, 85, 0, 86), (1, 82, 0, 89)]
def tq_u0_0_00 : Tq := []
def tb_u0_0_00 : Tab := [(.double 80, .double 89), (.double 81, .double 86)]
set_option maxRecDepth 1000000 in
theorem sg_u0_0_00 : seg (cal tp_u0_0_00 tq_u0_0_00) (pg_33 tp_u0_0_00 tq_u0_0_00) 3000 108 la_18 [] hp_31 0 0 tb_u0_0_00 318 la_20 [] hp_32 0 0 rm_33.slots = true := by decide +kernel
def tp_u0_0_01 : Tape := [(3, 77, 10, 82), (12, 82, 0, 80), (13, 80, 0, 0), (3, 76, 11, 85), (12, 85, 0, 81), (13, 81, 0, 1), (1, 85, 0, 86), (1, 82, 0, 89)]
def tq_u0_0_01 : Tq := []
def tb_u0_0_01 : Tab := [(.double 80, .double 89), (.double 81, .double 86)]
set_option maxRecDepth 1000000 in
theorem sg_u0_0_01 : seg (cal tp_u0_0_01 tq_u0_0_01) (pg_33 tp_u0_0_01 tq_u0_0_01) 3000 108 la_18 [] hp_31 0 0 tb_u0_0_01 318 la_20 [] hp_32 0 0 rm_33.slots = true := by decide +kernel
def tp_u0_0_10 : Tape := [(3, 77, 10, 82), (12, 82, 0, 80), (13, 80, 0, 1), (3, 76, 11, 85), (12, 85, 0, 81), (13, 81, 0, 0), (1, 85, 0, 86), (1, 82, 0, 89)]
def tq_u0_0_10 : Tq := []
def tb_u0_0_10 : Tab := [(.double 80, .double 89), (.double 81, .double 86)]
set_option maxRecDepth 1000000 in
theorem sg_u0_0_10 : seg (cal tp_u0_0_10 tq_u0_0_10) (pg_33 tp_u0_0_10 tq_u0_0_10) 3000 108 la_18 [] hp_31 0 0 tb_u0_0_10 318 la_20 [] hp_32 0 0 rm_33.slots = true := by decide +kernel
def tp_u0_0_11 : Tape := [(3, 77, 10, 82), (12, 82, 0, 80), (13, 80, 0, 1), (3, 76, 11, 85), (12, 85, 0, 81), (13, 81, 0, 1), (1, 85, 0, 86), (1, 82, 0, 89)]
def tq_u0_0_11 : Tq := []
def tb_u0_0_11 : Tab := [(.double 80, .double 89), (.double 81, .double 86)]
set_option maxRecDepth 1000000 in
theorem sg_u0_0_11 : seg (cal tp_u0_0_11 tq_u0_0_11) (pg_33 tp_u0_0_11 tq_u0_0_11) 3000 108 la_18 [] hp_31 0 0 tb_u0_0_11 318 la_20 [] hp_32 0 0 rm_33.slots = true := by decide +kernel
def tp_u0_1_00 : Tape := [(3, 76, 10, 82), (12, 82, 0, 80), (13, 80, 0, 0), (2, 12, 82, 83), (1, 77, 83, 84), (3, 84, 11, 85), (12, 85, 0, 81), (13, 81, 0, 0), (1, 85, 0, 86), (1, 82, 0, 89)]
def tq_u0_1_00 : Tq := []
def tb_u0_1_00 : Tab := [(.double 80, .double 86), (.double 81, .double 89)]
set_option maxRecDepth 1000000 in
theorem sg_u0_1_00 : seg (cal tp_u0_1_00 tq_u0_1_00) (pg_33 tp_u0_1_00 tq_u0_1_00) 3000 108 la_18 [] hp_33 0 0 tb_u0_1_00 318 la_20 [] hp_32 0 0 rm_33.slots = true := by decide +kernel
def tp_u0_1_01 : Tape := [(3, 76, 10, 82), (12, 82, 0, 80), (13, 80, 0, 0), (2, 12, 82, 83), (1, 77, 83, 84), (3, 84, 11, 85), (12, 85, 0, 81), (13, 81, 0, 1), (1, 85, 0, 86), (1, 82, 0, 89)]
def tq_u0_1_01 : Tq := []
def tb_u0_1_01 : Tab := [(.double 80, .double 86), (.double 81, .double 89)]
set_option maxRecDepth 1000000 in
theorem sg_u0_1_01 : seg (cal tp_u0_1_01 tq_u0_1_01) (pg_33 tp_u0_1_01 tq_u0_1_01) 3000 108 la_18 [] hp_33 0 0 tb_u0_1_01 318 la_20 [] hp_32 0 0 rm_33.slots = true := by decide +kernel
def tp_u0_1_10 : Tape := [(3, 76, 10, 82), (12, 82, 0, 80), (13, 80, 0, 1), (3, 77, 11, 85), (12, 85, 0, 81), (13, 81, 0, 0), (1, 85, 0, 86), (1, 82, 0, 89)]
def tq_u0_1_10 : Tq := []
def tb_u0_1_10 : Tab := [(.double 80, .double 86), (.double 81, .double 89)]
set_option maxRecDepth 1000000 in
theorem sg_u0_1_10 : seg (cal tp_u0_1_10 tq_u0_1_10) (pg_33 tp_u0_1_10 tq_u0_1_10) 3000 108 la_18 [] hp_33 0 0 tb_u0_1_10 318 la_20 [] hp_32 0 0 rm_33.slots = true := by decide +kernel
def tp_u0_1_11 : Tape := [(3, 76, 10, 82), (12, 82, 0, 80), (13, 80, 0, 1), (3, 77, 11, 85), (12, 85, 0, 81), (13, 81, 0, 1), (1, 85, 0, 86), (1, 82, 0, 89)]
def tq_u0_1_11 : Tq := []
def tb_u0_1_11 : Tab := [(.double 80, .double 86), (.double 81, .double 89)]
set_option maxRecDepth 1000000 in
theorem sg_u0_1_11 : seg (cal tp_u0_1_11 tq_u0_1_11) (pg_33 tp_u0_1_11 tq_u0_1_11) 3000 108 la_18 [] hp_33 0 0 tb_u0_1_11 318 la_20 [] hp_32 0 0 rm_33.slots = true := by decide +kernel
def tp_u0_2_00 : Tape := [(3, 77, 10, 82), (12, 82, 0, 80), (13, 80, 0, 0), (3, 76, 11, 85), (12, 85, 0, 81), (13, 81, 0, 0), (1, 85, 0, 86), (1, 82, 0, 89)]
def tq_u0_2_00 : Tq := []
def tb_u0_2_00 : Tab := [(.double 80, .double 86), (.double 81, .double 89)]
set_option maxRecDepth 1000000 in
theorem sg_u0_2_00 : seg (cal tp_u0_2_00 tq_u0_2_00) (pg_33 tp_u0_2_00 tq_u0_2_00) 3000 108 la_18 [] hp_34 0 0 tb_u0_2_00 318 la_20 [] hp_32 0 0 rm_33.slots = true := by decide +kernel
def tp_u0_2_01 : Tape := [(3, 77, 10, 82), (12, 82, 0, 80), (13, 80, 0, 0), (3, 76, 11, 85), (12, 85, 0, 81), (13, 81, 0, 1), (1, 85, 0, 86), (1, 82, 0, 89)]
def tq_u0_2_01 : Tq := []
def tb_u0_2_01 : Tab := [(.double 80, .double 86), (.double 81, .double 89)]
set_option maxRecDepth 1000000 in
theorem sg_u0_2_01 : seg (cal tp_u0_2_01 tq_u0_2_01) (pg_33 tp_u0_2_01 tq_u0_2_01) 3000 108 la_18 [] hp_34 0 0 tb_u0_2_01 318 la_20 [] hp_32 0 0 rm_33.slots = true := by decide +kernel
def tp_u0_2_10 : Tape := [(3, 77, 10, 82), (12, 82, 0, 80), (13, 80, 0, 1), (3, 76, 11, 85), (12, 85, 0, 81), (13, 81, 0, 0), (1, 85, 0, 86), (1, 82, 0, 89)]
def tq_u0_2_10 : Tq := []
def tb_u0_2_10 : Tab := [(.double 80, .double 86), (.double 81, .double 89)]
set_option maxRecDepth 1000000 in
theorem sg_u0_2_10 : seg (cal tp_u0_2_10 tq_u0_2_10) (pg_33 tp_u0_2_10 tq_u0_2_10) 3000 108 la_18 [] hp_34 0 0 tb_u0_2_10 318 la_20 [] hp_32 0 0 rm_33.slots = true := by decide +kernel
def tp_u0_2_11 : Tape := [(3, 77, 10, 82), (12, 82, 0, 80), (13, 80, 0, 1), (3, 76, 11, 85), (12, 85, 0, 81), (13, 81, 0, 1), (1, 85, 0, 86), (1, 82, 0, 89)]
def tq_u0_2_11 : Tq := []
def tb_u0_2_11 : Tab := [(.double 80, .double 86), (.double 81, .double 89)]
set_option maxRecDepth 1000000 in
theorem sg_u0_2_11 : seg (cal tp_u0_2_11 tq_u0_2_11) (pg_33 tp_u0_2_11 tq_u0_2_11) 3000 108 la_18 [] hp_34 0 0 tb_u0_2_11 318 la_20 [] hp_32 0 0 rm_33.slots = true := by decide +kernel
def tp_u0_3_00 : Tape := [(3, 77, 10, 82), (12, 82, 0, 80), (13, 80, 0, 0), (2, 12, 82, 83), (1, 76, 83, 84), (3, 84, 11, 85), (12, 85, 0, 81), (13, 81, 0, 0), (1, 85, 0, 86), (1, 82, 0, 89)]
def tq_u0_3_00 : Tq := []
def tb_u0_3_00 : Tab := [(.double 80, .double 86), (.double 81, .double 89)]
set_option maxRecDepth 1000000 in
theorem sg_u0_3_00 : seg (cal tp_u0_3_00 tq_u0_3_00) (pg_33 tp_u0_3_00 tq_u0_3_00) 3000 108 la_18 [] hp_35 0 0 tb_u0_3_00 318 la_20 [] hp_32 0 0 rm_33.slots = true := by decide +kernel
def tp_u0_3_01 : Tape := [(3, 77, 10, 82), (12, 82, 0, 80), (13, 80, 0, 0), (2, 12, 82, 83), (1, 76, 83, 84), (3, 84, 11, 85), (12, 85, 0, 81), (13, 81, 0, 1), (1, 85, 0, 86), (1, 82, 0, 89)]
def tq_u0_3_01 : Tq := []
def tb_u0_3_01 : Tab := [(.double 80, .double 86), (.double 81, .double 89)]
set_option maxRecDepth 1000000 in
theorem sg_u0_3_01 : seg (cal tp_u0_3_01 tq_u0_3_01) (pg_33 tp_u0_3_01 tq_u0_3_01) 3000 108 la_18 [] hp_35 0 0 tb_u0_3_01 318 la_20 [] hp_32 0 0 rm_33.slots = true := by decide +kernel
def tp_u0_3_10 : Tape := [(3, 77, 10, 82), (12, 82, 0, 80), (13, 80, 0, 1), (3, 76, 11, 85), (12, 85, 0, 81), (13, 81, 0, 0), (1, 85, 0, 86), (1, 82, 0, 89)]
def tq_u0_3_10 : Tq := []
def tb_u0_3_10 : Tab := [(.double 80, .double 86), (.double 81, .double 89)]
set_option maxRecDepth 1000000 in
theorem sg_u0_3_10 : seg (cal tp_u0_3_10 tq_u0_3_10) (pg_33 tp_u0_3_10 tq_u0_3_10) 3000 108 la_18 [] hp_35 0 0 tb_u0_3_10 318 la_20 [] hp_32 0 0 rm_33.slots = true := by decide +kernel
def tp_u0_3_11 : Tape := [(3, 77, 10, 82), (12, 82, 0, 80), (13, 80, 0, 1), (3, 76, 11, 85), (12, 85, 0, 81), (13, 81, 0, 1), (1, 85, 0, 86), (1, 82, 0, 89)]
def tq_u0_3_11 : Tq := []
def tb_u0_3_11 : Tab := [(.double 80, .double 86), (.double 81, .double 89)]
set_option maxRecDepth 1000000 in
theorem sg_u0_3_11 : seg (cal tp_u0_3_11 tq_u0_3_11) (pg_33 tp_u0_3_11 tq_u0_3_11) 3000 108 la_18 [] hp_35 0 0 tb_u0_3_11 318 la_20 [] hp_32 0 0 rm_33.slots = true := by decide +kernel
def tp_u0_4_00 : Tape := [(3, 76, 10, 82), (12, 82, 0, 80), (13, 80, 0, 0), (2, 12, 82, 83), (1, 77, 83, 84), (3, 84, 11, 85), (12, 85, 0, 81), (13, 81, 0, 0), (1, 85, 0, 86), (1, 82, 0, 89)]
def tq_u0_4_00 : Tq := []
def tb_u0_4_00 : Tab := [(.double 80, .double 89), (.double 81, .double 86)]
set_option maxRecDepth 1000000 in
theorem sg_u0_4_00 : seg (cal tp_u0_4_00 tq_u0_4_00) (pg_33 tp_u0_4_00 tq_u0_4_00) 3000 108 la_18 [] hp_36 0 0 tb_u0_4_00 318 la_20 [] hp_32 0 0 rm_33.slots = true := by decide +kernel
def tp_u0_4_01 : Tape := [(3, 76, 10, 82), (12, 82, 0, 80), (13, 80, 0, 0), (2, 12, 82, 83), (1, 77, 83, 84), (3, 84, 11, 85), (12, 85, 0, 81), (13, 81, 0, 1), (1, 85, 0, 86), (1, 82, 0, 89)]
def tq_u0_4_01 : Tq := []
def tb_u0_4_01 : Tab := [(.double 80, .double 89), (.double 81, .double 86)]
set_option maxRecDepth 1000000 in
theorem sg_u0_4_01 : seg (cal tp_u0_4_01 tq_u0_4_01) (pg_33 tp_u0_4_01 tq_u0_4_01) 3000 108 la_18 [] hp_36 0 0 tb_u0_4_01 318 la_20 [] hp_32 0 0 rm_33.slots = true := by decide +kernel
def tp_u0_4_10 : Tape := [(3, 76, 10, 82), (12, 82, 0, 80), (13, 80, 0, 1), (3, 77, 11, 85), (12, 85, 0, 81), (13, 81, 0, 0), (1, 85, 0, 86), (1, 82, 0, 89)]
def tq_u0_4_10 : Tq := []
def tb_u0_4_10 : Tab := [(.double 80, .double 89), (.double 81, .double 86)]
set_option maxRecDepth 1000000 in
theorem sg_u0_4_10 : seg (cal tp_u0_4_10 tq_u0_4_10) (pg_33 tp_u0_4_10 tq_u0_4_10) 3000 108 la_18 [] hp_36 0 0 tb_u0_4_10 318 la_20 [] hp_32 0 0 rm_33.slots = true := by decide +kernel
def tp_u0_4_11 : Tape := [(3, 76, 10, 82), (12, 82, 0, 80), (13, 80, 0, 1), (3, 77, 11, 85), (12, 85, 0, 81), (13, 81, 0, 1), (1, 85, 0, 86), (1, 82, 0, 89)]
def tq_u0_4_11 : Tq := []
def tb_u0_4_11 : Tab := [(.double 80, .double 89), (.double 81, .double 86)]
set_option maxRecDepth 1000000 in
theorem sg_u0_4_11 : seg (cal tp_u0_4_11 tq_u0_4_11) (pg_33 tp_u0_4_11 tq_u0_4_11) 3000 108 la_18 [] hp_36 0 0 tb_u0_4_11 318 la_20 [] hp_32 0 0 rm_33.slots = true := by decide +kernel
def tp_u0_5_00 : Tape := [(3, 77, 10, 82), (12, 82, 0, 80), (13, 80, 0, 0), (2, 12, 82, 83), (1, 76, 83, 84), (3, 84, 11, 85), (12, 85, 0, 81), (13, 81, 0, 0), (1, 85, 0, 86), (1, 82, 0, 89)]
def tq_u0_5_00 : Tq := []
def tb_u0_5_00 : Tab := [(.double 80, .double 89), (.double 81, .double 86)]
set_option maxRecDepth 1000000 in
theorem sg_u0_5_00 : seg (cal tp_u0_5_00 tq_u0_5_00) (pg_33 tp_u0_5_00 tq_u0_5_00) 3000 108 la_18 [] hp_37 0 0 tb_u0_5_00 318 la_20 [] hp_32 0 0 rm_33.slots = true := by decide +kernel
def tp_u0_5_01 : Tape := [(3, 77, 10, 82), (12, 82, 0, 80), (13, 80, 0, 0), (2, 12, 82, 83), (1, 76, 83, 84), (3, 84, 11, 85), (12, 85, 0, 81), (13, 81, 0, 1), (1, 85, 0, 86), (1, 82, 0, 89)]
def tq_u0_5_01 : Tq := []
def tb_u0_5_01 : Tab := [(.double 80, .double 89), (.double 81, .double 86)]
set_option maxRecDepth 1000000 in
theorem sg_u0_5_01 : seg (cal tp_u0_5_01 tq_u0_5_01) (pg_33 tp_u0_5_01 tq_u0_5_01) 3000 108 la_18 [] hp_37 0 0 tb_u0_5_01 318 la_20 [] hp_32 0 0 rm_33.slots = true := by decide +kernel
def tp_u0_5_10 : Tape := [(3, 77, 10, 82), (12, 82, 0, 80), (13, 80, 0, 1), (3, 76, 11, 85), (12, 85, 0, 81), (13, 81, 0, 0), (1, 85, 0, 86), (1, 82, 0, 89)]
def tq_u0_5_10 : Tq := []
def tb_u0_5_10 : Tab := [(.double 80, .double 89), (.double 81, .double 86)]
set_option maxRecDepth 1000000 in
theorem sg_u0_5_10 : seg (cal tp_u0_5_10 tq_u0_5_10) (pg_33 tp_u0_5_10 tq_u0_5_10) 3000 108 la_18 [] hp_37 0 0 tb_u0_5_10 318 la_20 [] hp_32 0 0 rm_33.slots = true := by decide +kernel
def tp_u0_5_11 : Tape := [(3, 77, 10, 82), (12, 82, 0, 80), (13, 80, 0, 1), (3, 76, 11, 85), (12, 85, 0, 81), (13, 81, 0, 1), (1, 85, 0, 86), (1, 82, 0, 89)]
def tq_u0_5_11 : Tq := []
def tb_u0_5_11 : Tab := [(.double 80, .double 89), (.double 81, .double 86)]
set_option maxRecDepth 1000000 in
theorem sg_u0_5_11 : seg (cal tp_u0_5_11 tq_u0_5_11) (pg_33 tp_u0_5_11 tq_u0_5_11) 3000 108 la_18 [] hp_37 0 0 tb_u0_5_11 318 la_20 [] hp_32 0 0 rm_33.slots = true := by decide +kernel
def tp_u0_6_00 : Tape := [(3, 77, 10, 82), (12, 82, 0, 80), (13, 80, 0, 0), (2, 12, 82, 83), (1, 76, 83, 84), (3, 84, 11, 85), (12, 85, 0, 81), (13, 81, 0, 0), (1, 85, 0, 86), (2, 13, 86, 87), (0, 0, 87, 88), (1, 82, 88, 89)]
def tq_u0_6_00 : Tq := []
def tb_u0_6_00 : Tab := [(.double 80, .double 89), (.double 81, .double 86)]
set_option maxRecDepth 1000000 in
theorem sg_u0_6_00 : seg (cal tp_u0_6_00 tq_u0_6_00) (pg_33 tp_u0_6_00 tq_u0_6_00) 3000 108 la_18 [] hp_38 0 0 tb_u0_6_00 318 la_21 [] hp_32 0 0 rm_33.slots = true := by decide +kernel
def tp_u0_6_01 : Tape := [(3, 77, 10, 82), (12, 82, 0, 80), (13, 80, 0, 0), (2, 12, 82, 83), (1, 76, 83, 84), (3, 84, 11, 85), (12, 85, 0, 81), (13, 81, 0, 1), (1, 85, 0, 86), (2, 13, 86, 87), (0, 0, 87, 88), (1, 82, 88, 89)]
def tq_u0_6_01 : Tq := []
def tb_u0_6_01 : Tab := [(.double 80, .double 89), (.double 81, .double 86)]
set_option maxRecDepth 1000000 in
theorem sg_u0_6_01 : seg (cal tp_u0_6_01 tq_u0_6_01) (pg_33 tp_u0_6_01 tq_u0_6_01) 3000 108 la_18 [] hp_38 0 0 tb_u0_6_01 318 la_21 [] hp_32 0 0 rm_33.slots = true := by decide +kernel
def tp_u0_6_10 : Tape := [(3, 77, 10, 82), (12, 82, 0, 80), (13, 80, 0, 1), (3, 76, 11, 85), (12, 85, 0, 81), (13, 81, 0, 0), (1, 85, 0, 86), (2, 13, 86, 87), (0, 0, 87, 88), (1, 82, 88, 89)]
def tq_u0_6_10 : Tq := []
def tb_u0_6_10 : Tab := [(.double 80, .double 89), (.double 81, .double 86)]
set_option maxRecDepth 1000000 in
theorem sg_u0_6_10 : seg (cal tp_u0_6_10 tq_u0_6_10) (pg_33 tp_u0_6_10 tq_u0_6_10) 3000 108 la_18 [] hp_38 0 0 tb_u0_6_10 318 la_21 [] hp_32 0 0 rm_33.slots = true := by decide +kernel
def tp_u0_6_11 : Tape := [(3, 77, 10, 82), (12, 82, 0, 80), (13, 80, 0, 1), (3, 76, 11, 85), (12, 85, 0, 81), (13, 81, 0, 1), (1, 85, 0, 86), (2, 13, 86, 87), (0, 0, 87, 88), (1, 82, 88, 89)]
def tq_u0_6_11 : Tq := []
def tb_u0_6_11 : Tab := [(.double 80, .double 89), (.double 81, .double 86)]
set_option maxRecDepth 1000000 in
theorem sg_u0_6_11 : seg (cal tp_u0_6_11 tq_u0_6_11) (pg_33 tp_u0_6_11 tq_u0_6_11) 3000 108 la_18 [] hp_38 0 0 tb_u0_6_11 318 la_21 [] hp_32 0 0 rm_33.slots = true := by decide +kernel
def tp_u0_7_00 : Tape := [(3, 77, 10, 82), (12, 82, 0, 80), (13, 80, 0, 0), (2, 12, 82, 83), (1, 76, 83, 84), (3, 84, 11, 85), (12, 85, 0, 81), (13, 81, 0, 0), (1, 85, 0, 86), (2, 13, 86, 87), (0, 0, 87, 88), (1, 82, 88, 89)]
def tq_u0_7_00 : Tq := []
def tb_u0_7_00 : Tab := [(.double 80, .double 86), (.double 81, .double 89)]
set_option maxRecDepth 1000000 in
theorem sg_u0_7_00 : seg (cal tp_u0_7_00 tq_u0_7_00) (pg_33 tp_u0_7_00 tq_u0_7_00) 3000 108 la_18 [] hp_39 0 0 tb_u0_7_00 318 la_21 [] hp_32 0 0 rm_33.slots = true := by decide +kernel
def tp_u0_7_01 : Tape := [(3, 77, 10, 82), (12, 82, 0, 80), (13, 80, 0, 0), (2, 12, 82, 83), (1, 76, 83, 84), (3, 84, 11, 85), (12, 85, 0, 81), (13, 81, 0, 1), (1, 85, 0, 86), (2, 13, 86, 87), (0, 0, 87, 88), (1, 82, 88, 89)]
def tq_u0_7_01 : Tq := []
def tb_u0_7_01 : Tab := [(.double 80, .double 86), (.double 81, .double 89)]
set_option maxRecDepth 1000000 in
theorem sg_u0_7_01 : seg (cal tp_u0_7_01 tq_u0_7_01) (pg_33 tp_u0_7_01 tq_u0_7_01) 3000 108 la_18 [] hp_39 0 0 tb_u0_7_01 318 la_21 [] hp_32 0 0 rm_33.slots = true := by decide +kernel
def tp_u0_7_10 : Tape := [(3, 77, 10, 82), (12, 82, 0, 80), (13, 80, 0, 1), (3, 76, 11, 85), (12, 85, 0, 81), (13, 81, 0, 0), (1, 85, 0, 86), (2, 13, 86, 87), (0, 0, 87, 88), (1, 82, 88, 89)]
def tq_u0_7_10 : Tq := []
def tb_u0_7_10 : Tab := [(.double 80, .double 86), (.double 81, .double 89)]
set_option maxRecDepth 1000000 in
theorem sg_u0_7_10 : seg (cal tp_u0_7_10 tq_u0_7_10) (pg_33 tp_u0_7_10 tq_u0_7_10) 3000 108 la_18 [] hp_39 0 0 tb_u0_7_10 318 la_21 [] hp_32 0 0 rm_33.slots = true := by decide +kernel
def tp_u0_7_11 : Tape := [(3, 77, 10, 82), (12, 82, 0, 80), (13, 80, 0, 1), (3, 76, 11, 85), (12, 85, 0, 81), (13, 81, 0, 1), (1, 85, 0, 86), (2, 13, 86, 87), (0, 0, 87, 88), (1, 82, 88, 89)]
def tq_u0_7_11 : Tq := []
def tb_u0_7_11 : Tab := [(.double 80, .double 86), (.double 81, .double 89)]
set_option maxRecDepth 1000000 in
theorem sg_u0_7_11 : seg (cal tp_u0_7_11 tq_u0_7_11) (pg_33 tp_u0_7_11 tq_u0_7_11) 3000 108 la_18 [] hp_39 0 0 tb_u0_7_11 318 la_21 [] hp_32 0 0 rm_33.slots = true := by decide +kernel
set_option maxRecDepth 1000000 in
theorem sg_u1_0_00 : seg (cal tp_u0_0_00 tq_u0_0_00) (pg_33 tp_u0_0_00 tq_u0_0_00) 3000 108 la_19 [] hp_31 0 0 tb_u0_0_00 318 la_22 [] hp_32 0 0 rm_33.slots = true := by decide +kernel
set_option maxRecDepth 1000000 in
theorem sg_u1_0_01 : seg (cal tp_u0_0_01 tq_u0_0_01) (pg_33 tp_u0_0_01 tq_u0_0_01) 3000 108 la_19 [] hp_31 0 0 tb_u0_0_01 318 la_22 [] hp_32 0 0 rm_33.slots = true := by decide +kernel
set_option maxRecDepth 1000000 in
theorem sg_u1_0_10 : seg (cal tp_u0_0_10 tq_u0_0_10) (pg_33 tp_u0_0_10 tq_u0_0_10) 3000 108 la_19 [] hp_31 0 0 tb_u0_0_10 318 la_22 [] hp_32 0 0 rm_33.slots = true := by decide +kernel
set_option maxRecDepth 1000000 in
theorem sg_u1_0_11 : seg (cal tp_u0_0_11 tq_u0_0_11) (pg_33 tp_u0_0_11 tq_u0_0_11) 3000 108 la_19 [] hp_31 0 0 tb_u0_0_11 318 la_22 [] hp_32 0 0 rm_33.slots = true := by decide +kernel
set_option maxRecDepth 1000000 in
theorem sg_u1_1_00 : seg (cal tp_u0_1_00 tq_u0_1_00) (pg_33 tp_u0_1_00 tq_u0_1_00) 3000 108 la_19 [] hp_33 0 0 tb_u0_1_00 318 la_22 [] hp_32 0 0 rm_33.slots = true := by decide +kernel
set_option maxRecDepth 1000000 in
theorem sg_u1_1_01 : seg (cal tp_u0_1_01 tq_u0_1_01) (pg_33 tp_u0_1_01 tq_u0_1_01) 3000 108 la_19 [] hp_33 0 0 tb_u0_1_01 318 la_22 [] hp_32 0 0 rm_33.slots = true := by decide +kernel
set_option maxRecDepth 1000000 in
theorem sg_u1_1_10 : seg (cal tp_u0_1_10 tq_u0_1_10) (pg_33 tp_u0_1_10 tq_u0_1_10) 3000 108 la_19 [] hp_33 0 0 tb_u0_1_10 318 la_22 [] hp_32 0 0 rm_33.slots = true := by decide +kernel
set_option maxRecDepth 1000000 in
theorem sg_u1_1_11 : seg (cal tp_u0_1_11 tq_u0_1_11) (pg_33 tp_u0_1_11 tq_u0_1_11) 3000 108 la_19 [] hp_33 0 0 tb_u0_1_11 318 la_22 [] hp_32 0 0 rm_33.slots = true := by decide +kernel
set_option maxRecDepth 1000000 in
theorem sg_u1_2_00 : seg (cal tp_u0_2_00 tq_u0_2_00) (pg_33 tp_u0_2_00 tq_u0_2_00) 3000 108 la_19 [] hp_34 0 0 tb_u0_2_00 318 la_22 [] hp_32 0 0 rm_33.slots = true := by decide +kernel
set_option maxRecDepth 1000000 in
theorem sg_u1_2_01 : seg (cal tp_u0_2_01 tq_u0_2_01) (pg_33 tp_u0_2_01 tq_u0_2_01) 3000 108 la_19 [] hp_34 0 0 tb_u0_2_01 318 la_22 [] hp_32 0 0 rm_33.slots = true := by decide +kernel
set_option maxRecDepth 1000000 in
theorem sg_u1_2_10 : seg (cal tp_u0_2_10 tq_u0_2_10) (pg_33 tp_u0_2_10 tq_u0_2_10) 3000 108 la_19 [] hp_34 0 0 tb_u0_2_10 318 la_22 [] hp_32 0 0 rm_33.slots = true := by decide +kernel
set_option maxRecDepth 1000000 in
theorem sg_u1_2_11 : seg (cal tp_u0_2_11 tq_u0_2_11) (pg_33 tp_u0_2_11 tq_u0_2_11) 3000 108 la_19 [] hp_34 0 0 tb_u0_2_11 318 la_22 [] hp_32 0 0 rm_33.slots = true := by decide +kernel
set_option maxRecDepth 1000000 in
theorem sg_u1_3_00 : seg (cal tp_u0_3_00 tq_u0_3_00) (pg_33 tp_u0_3_00 tq_u0_3_00) 3000 108 la_19 [] hp_35 0 0 tb_u0_3_00 318 la_22 [] hp_32 0 0 rm_33.slots = true := by decide +kernel
set_option maxRecDepth 1000000 in
theorem sg_u1_3_01 : seg (cal tp_u0_3_01 tq_u0_3_01) (pg_33 tp_u0_3_01 tq_u0_3_01) 3000 108 la_19 [] hp_35 0 0 tb_u0_3_01 318 la_22 [] hp_32 0 0 rm_33.slots = true := by decide +kernel
set_option maxRecDepth 1000000 in
theorem sg_u1_3_10 : seg (cal tp_u0_3_10 tq_u0_3_10) (pg_33 tp_u0_3_10 tq_u0_3_10) 3000 108 la_19 [] hp_35 0 0 tb_u0_3_10 318 la_22 [] hp_32 0 0 rm_33.slots = true := by decide +kernel
set_option maxRecDepth 1000000 in
theorem sg_u1_3_11 : seg (cal tp_u0_3_11 tq_u0_3_11) (pg_33 tp_u0_3_11 tq_u0_3_11) 3000 108 la_19 [] hp_35 0 0 tb_u0_3_11 318 la_22 [] hp_32 0 0 rm_33.slots = true := by decide +kernel
set_option maxRecDepth 1000000 in
theorem sg_u1_4_00 : seg (cal tp_u0_4_00 tq_u0_4_00) (pg_33 tp_u0_4_00 tq_u0_4_00) 3000 108 la_19 [] hp_36 0 0 tb_u0_4_00 318 la_22 [] hp_32 0 0 rm_33.slots = true := by decide +kernel
set_option maxRecDepth 1000000 in
theorem sg_u1_4_01 : seg (cal tp_u0_4_01 tq_u0_4_01) (pg_33 tp_u0_4_01 tq_u0_4_01) 3000 108 la_19 [] hp_36 0 0 tb_u0_4_01 318 la_22 [] hp_32 0 0 rm_33.slots = true := by decide +kernel
set_option maxRecDepth 1000000 in
theorem sg_u1_4_10 : seg (cal tp_u0_4_10 tq_u0_4_10) (pg_33 tp_u0_4_10 tq_u0_4_10) 3000 108 la_19 [] hp_36 0 0 tb_u0_4_10 318 la_22 [] hp_32 0 0 rm_33.slots = true := by decide +kernel
set_option maxRecDepth 1000000 in
theorem sg_u1_4_11 : seg (cal tp_u0_4_11 tq_u0_4_11) (pg_33 tp_u0_4_11 tq_u0_4_11) 3000 108 la_19 [] hp_36 0 0 tb_u0_4_11 318 la_22 [] hp_32 0 0 rm_33.slots = true := by decide +kernel
set_option maxRecDepth 1000000 in
theorem sg_u1_5_00 : seg (cal tp_u0_5_00 tq_u0_5_00) (pg_33 tp_u0_5_00 tq_u0_5_00) 3000 108 la_19 [] hp_37 0 0 tb_u0_5_00 318 la_22 [] hp_32 0 0 rm_33.slots = true := by decide +kernel
set_option maxRecDepth 1000000 in
theorem sg_u1_5_01 : seg (cal tp_u0_5_01 tq_u0_5_01) (pg_33 tp_u0_5_01 tq_u0_5_01) 3000 108 la_19 [] hp_37 0 0 tb_u0_5_01 318 la_22 [] hp_32 0 0 rm_33.slots = true := by decide +kernel
set_option maxRecDepth 1000000 in
theorem sg_u1_5_10 : seg (cal tp_u0_5_10 tq_u0_5_10) (pg_33 tp_u0_5_10 tq_u0_5_10) 3000 108 la_19 [] hp_37 0 0 tb_u0_5_10 318 la_22 [] hp_32 0 0 rm_33.slots = true := by decide +kernel
set_option maxRecDepth 1000000 in
theorem sg_u1_5_11 : seg (cal tp_u0_5_11 tq_u0_5_11) (pg_33 tp_u0_5_11 tq_u0_5_11) 3000 108 la_19 [] hp_37 0 0 tb_u0_5_11 318 la_22 [] hp_32 0 0 rm_33.slots = true := by decide +kernel
set_option maxRecDepth 1000000 in
theorem sg_u1_6_00 : seg (cal tp_u0_6_00 tq_u0_6_00) (pg_33 tp_u0_6_00 tq_u0_6_00) 3000 108 la_19 [] hp_38 0 0 tb_u0_6_00 318 la_23 [] hp_32 0 0 rm_33.slots = true := by decide +kernel
set_option maxRecDepth 1000000 in
theorem sg_u1_6_01 : seg (cal tp_u0_6_01 tq_u0_6_01) (pg_33 tp_u0_6_01 tq_u0_6_01) 3000 108 la_19 [] hp_38 0 0 tb_u0_6_01 318 la_23 [] hp_32 0 0 rm_33.slots = true := by decide +kernel
set_option maxRecDepth 1000000 in
theorem sg_u1_6_10 : seg (cal tp_u0_6_10 tq_u0_6_10) (pg_33 tp_u0_6_10 tq_u0_6_10) 3000 108 la_19 [] hp_38 0 0 tb_u0_6_10 318 la_23 [] hp_32 0 0 rm_33.slots = true := by decide +kernel
set_option maxRecDepth 1000000 in
theorem sg_u1_6_11 : seg (cal tp_u0_6_11 tq_u0_6_11) (pg_33 tp_u0_6_11 tq_u0_6_11) 3000 108 la_19 [] hp_38 0 0 tb_u0_6_11 318 la_23 [] hp_32 0 0 rm_33.slots = true := by decide +kernel
set_option maxRecDepth 1000000 in
theorem sg_u1_7_00 : seg (cal tp_u0_7_00 tq_u0_7_00) (pg_33 tp_u0_7_00 tq_u0_7_00) 3000 108 la_19 [] hp_39 0 0 tb_u0_7_00 318 la_23 [] hp_32 0 0 rm_33.slots = true := by decide +kernel
set_option maxRecDepth 1000000 in
theorem sg_u1_7_01 : seg (cal tp_u0_7_01 tq_u0_7_01) (pg_33 tp_u0_7_01 tq_u0_7_01) 3000 108 la_19 [] hp_39 0 0 tb_u0_7_01 318 la_23 [] hp_32 0 0 rm_33.slots = true := by decide +kernel
set_option maxRecDepth 1000000 in
theorem sg_u1_7_10 : seg (cal tp_u0_7_10 tq_u0_7_10) (pg_33 tp_u0_7_10 tq_u0_7_10) 3000 108 la_19 [] hp_39 0 0 tb_u0_7_10 318 la_23 [] hp_32 0 0 rm_33.slots = true := by decide +kernel
set_option maxRecDepth 1000000 in
theorem sg_u1_7_11 : seg (cal tp_u0_7_11 tq_u0_7_11) (pg_33 tp_u0_7_11 tq_u0_7_11) 3000 108 la_19 [] hp_39 0 0 tb_u0_7_11 318 la_23 [] hp_32 0 0 rm_33.slots = true := by decide +kernel
def tp_fin : Tape := [(10, 70, 0, 90), (2, 90, 80, 91), (10, 72, 0, 92), (2, 92, 81, 93), (0, 91, 93, 94), (10, 1, 0, 1), (12, 94, 1, 90), (13, 90, 0, 1), (10, 71, 0, 95), (2, 95, 80, 96), (10, 73, 0, 97), (2, 97, 81, 98), (0, 96, 98, 99), (10, 2, 0, 2), (12, 99, 2, 91), (13, 91, 0, 1)]
def tq_fin : Tq := []
def tb_fin : Tab := []
set_option maxRecDepth 1000000 in
theorem sg_fin : seg (cal tp_fin tq_fin) (pg_0 tp_fin tq_fin) 3000 265 la_12 [] hp_32 68 762 tb_fin 348 la_24 [.int 1] hp_32 68 762 room_1.slots = true := by decide +kernel
/-! plain numbers -/
def iv (A : Den) : Value → Int32
  | .int x => x
  | .float b => A.2.2 b
  | _ => 0
theorem tqc {A : Den} {o : Nat} {v w r : Value} (hr : isI r = true) (h : iv A r = iop o (iv A v) (iv A w)) : ∀ x y, OwnI.mv A v = .int x → OwnI.mv A w = .int y → OwnI.mv A r = .int (iop o x y) := by
  intro x y hx hy
  have e1 : iv A v = x := by cases v <;> simp_all [OwnI.mv, iv]
  have e2 : iv A w = y := by cases w <;> simp_all [OwnI.mv, iv]
  have e3 : OwnI.mv A r = .int (iv A r) := by cases r <;> first | rfl | cases hr
  rw [e3, h, e1, e2]
theorem teF {A : Den} {o : Nat} {a b r : UInt64} (ho : o < 4) (h : Jvm.Free.Fl.NoNaN64 (fop o (A.2.1 a) (A.2.1 b))) (e : fop o (A.2.1 a) (A.2.1 b) = A.2.1 r) : TpE A (o, a, b, r) :=
  ⟨fun _ => ⟨h, e⟩, fun (q : o = 10) => absurd ho (by omega), fun (q : o = 11) => absurd ho (by omega), fun (q : o = 12) => absurd ho (by omega), fun (q : o = 13) => absurd ho (by omega)⟩
theorem teI {A : Den} {o : Nat} {a b r : UInt64} {z : Int32} (ho : o < 4) (e : fop o (A.2.1 a) (A.2.1 b) = FP.i2d z) (er : A.2.1 r = FP.i2d z) : TpE A (o, a, b, r) := teF ho (by rw [e]; exact nnD (i2d_int z)) (e.trans er.symm)
theorem te10 {A : Den} {a b r : UInt64} (h : FP.i2d (A.2.2 a.toUInt32) = A.2.1 r) : TpE A (10, a, b, r) :=
  ⟨fun (q : 10 < 4) => absurd q (by decide), fun _ => h, fun (q : 10 = 11) => absurd q (by decide), fun (q : 10 = 12) => absurd q (by decide), fun (q : 10 = 13) => absurd q (by decide)⟩
theorem te11 {A : Den} {a b r : UInt64} (h : FP.dneg (A.2.1 a) = A.2.1 r) : TpE A (11, a, b, r) :=
  ⟨fun (q : 11 < 4) => absurd q (by decide), fun (q : 11 = 10) => absurd q (by decide), fun _ => h, fun (q : 11 = 12) => absurd q (by decide), fun (q : 11 = 13) => absurd q (by decide)⟩
theorem te12 {A : Den} {a b r : UInt64} (h : cmpValue (FP.dcmp (A.2.1 a) (A.2.1 b)) .l = A.2.2 r.toUInt32) : TpE A (12, a, b, r) :=
  ⟨fun (q : 12 < 4) => absurd q (by decide), fun (q : 12 = 10) => absurd q (by decide), fun (q : 12 = 11) => absurd q (by decide), fun _ => h, fun (q : 12 = 13) => absurd q (by decide)⟩
theorem te13z {A : Den} {a b : UInt64} (h : A.2.2 a.toUInt32 = 0) : TpE A (13, a, b, 1) :=
  ⟨fun (q : 13 < 4) => absurd q (by decide), fun (q : 13 = 10) => absurd q (by decide), fun (q : 13 = 11) => absurd q (by decide), fun (q : 13 = 12) => absurd q (by decide), fun _ => ⟨fun _ => rfl, fun _ => h⟩⟩
theorem te13n {A : Den} {a b : UInt64} (h : A.2.2 a.toUInt32 ≠ 0) : TpE A (13, a, b, 0) :=
  ⟨fun (q : 13 < 4) => absurd q (by decide), fun (q : 13 = 10) => absurd q (by decide), fun (q : 13 = 11) => absurd q (by decide), fun (q : 13 = 12) => absurd q (by decide), fun _ => ⟨fun q => absurd q h, fun (q : (0 : UInt64) = 1) => absurd q (by decide)⟩⟩
theorem te14 {A : Den} {a b r : UInt64} : TpE A (14, a, b, r) :=
  ⟨fun (q : 14 < 4) => absurd q (by decide), fun (q : 14 = 10) => absurd q (by decide), fun (q : 14 = 11) => absurd q (by decide), fun (q : 14 = 12) => absurd q (by decide), fun (q : 14 = 13) => absurd q (by decide)⟩
theorem taN {A : Den} {tp : Tape} (h : tp.all (fun t => t.1 != 14) = true) : TaOk A tp := fun t ht q => by
  have := List.all_eq_true.mp h t ht
  simp [q] at this
theorem taC {A : Den} {t : Nat × UInt64 × UInt64 × UInt64} {tp : Tape} (h : t.1 = 14 → Jvm.Free.Fl.NoNaN64 (A.2.1 t.2.1) ∧ A.2.1 t.2.1 &&& 0x7fffffffffffffff = A.2.1 t.2.2.2) (q : TaOk A tp) : TaOk A (t :: tp) := allC h q
theorem own_abs1 {m : Int32} (h : m = 1 ∨ m = -1) : Jvm.Free.Fl.NoNaN64 (FP.i2d m) ∧ FP.i2d m &&& 0x7fffffffffffffff = 4607182418800017408 := ⟨nnD (i2d_int m), by rcases h with rfl | rfl <;> decide +kernel⟩
theorem own_abs2 {m : Int32} (h : m = 2 ∨ m = -2) : Jvm.Free.Fl.NoNaN64 (FP.i2d m) ∧ FP.i2d m &&& 0x7fffffffffffffff = 4611686018427387904 := ⟨nnD (i2d_int m), by rcases h with rfl | rfl <;> decide +kernel⟩
theorem own_nz {m : Int32} (h : m = 1 ∨ m = -1) : m ≠ 0 := by rcases h with rfl | rfl <;> decide
theorem own_div {x p : Int32} (hx : x = 1 ∨ x = -1) (hp : p = 1 ∨ p = -1) : FP.ddiv (FP.i2d x) (FP.i2d p) = FP.i2d (x * p) := by rcases hx with rfl | rfl <;> rcases hp with rfl | rfl <;> decide +kernel
theorem own_neg {x : Int32} (hx : x = 1 ∨ x = -1) : FP.dneg (FP.i2d x) = FP.i2d (-x) := by rcases hx with rfl | rfl <;> decide +kernel
theorem own_mul {x p : Int32} (hx : x = 1 ∨ x = -1) (hp : p = 1 ∨ p = -1) : FP.dmul (FP.i2d x) (FP.i2d p) = FP.i2d (x * p) := by rcases hx with rfl | rfl <;> rcases hp with rfl | rfl <;> decide +kernel
theorem own_add {x p : Int32} (hx : x = 1 ∨ x = -1) (hp : p = 1 ∨ p = -1) : FP.dadd (FP.i2d x) (FP.i2d p) = FP.i2d (x + p) := by rcases hx with rfl | rfl <;> rcases hp with rfl | rfl <;> decide +kernel
theorem own_pm {x p : Int32} (hx : x = 1 ∨ x = -1) (hp : p = 1 ∨ p = -1) : x * p = 1 ∨ x * p = -1 := by rcases hx with rfl | rfl <;> rcases hp with rfl | rfl <;> decide
theorem own_ng {x : Int32} (hx : x = 1 ∨ x = -1) : -x = 1 ∨ -x = -1 := by rcases hx with rfl | rfl <;> decide
theorem own_entR (x : Int32) : entW x = 0 ∨ entW x = 1 ∨ entW x = -1 := by
  unfold entW
  split
  · exact Or.inl rfl
  · split
    · exact Or.inr (Or.inr rfl)
    · exact Or.inr (Or.inl rfl)
theorem own_pmI {m : Int32} (h : m = 1 ∨ m = -1) : m.toInt = 1 ∨ m.toInt = -1 := by rcases h with rfl | rfl <;> decide
/-- the double zero -/
theorem own_z : DInt 0 (0 : UInt64) := dint_c0
theorem own_nab {i j : Int} {a b : Nat} (h : i.natAbs ≤ a) (h2 : j.natAbs ≤ b) : (i * j).natAbs ≤ a * b := by rw [Int.natAbs_mul]; exact Nat.mul_le_mul h h2
theorem own_q {A0 p : Int} {w pd : UInt64} (hw : DInt A0 w) (hp : DInt p pd) (h1 : p = 1 ∨ p = -1) (hb : A0.natAbs ≤ 1099511627776) : DInt (p * A0) (FP.ddiv w pd) :=
  ddiv_int hw hp (by omega) (by rcases h1 with rfl | rfl <;> omega) (by rcases h1 with rfl | rfl <;> omega)
theorem own_sub {i j o : Int} {a b od : UInt64} (ha : DInt i a) (hb : DInt j b) (ho : DInt o od) (h1 : o = 1 ∨ o = -1) (bi : i.natAbs ≤ 1099511627776) (bj : j.natAbs ≤ 1099511627776) : DInt (o * j) (FP.dmul od b) ∧ DInt (i - o * j) (FP.dsub a (FP.dmul od b)) := by
  have e1 : DInt (o * j) (FP.dmul od b) := dmul_int ho hb (by rcases h1 with rfl | rfl <;> omega)
  exact ⟨e1, dsub_int ha e1 (by rcases h1 with rfl | rfl <;> omega)⟩
theorem own_lu2 {S Q p l : Int} {s q pd ld : UInt64} (hs : DInt S s) (hq : DInt Q q) (hp : DInt p pd) (hl : DInt l ld) (h1 : p = 1 ∨ p = -1 ∨ p = 2 ∨ p = -2) (h2 : l.natAbs ≤ 1) (bs : S.natAbs ≤ 4398046511104) (bq : Q.natAbs ≤ 4398046511104) :
    ∃ Y : Int, p * Y = 2 * S ∧ Y.natAbs ≤ 8796093022208 ∧ DY Y 1 (FP.ddiv s pd) ∧ DY Y 1 (FP.dsub (FP.ddiv s pd) 0) ∧ DY (l * Y) 1 (FP.dmul ld (FP.dsub (FP.ddiv s pd) 0)) ∧ DY (l * Y) 1 (FP.dadd 0 (FP.dmul ld (FP.dsub (FP.ddiv s pd) 0))) ∧
      DY (2 * Q - l * Y) 1 (FP.dsub q (FP.dadd 0 (FP.dmul ld (FP.dsub (FP.ddiv s pd) 0)))) ∧ DY (2 * Q) 1 (FP.dsub q 0) := by
  obtain ⟨Y, hY, bY⟩ : ∃ Y : Int, p * Y = 2 * S ∧ Y.natAbs ≤ 8796093022208 := by
    rcases h1 with rfl | rfl | rfl | rfl
    · exact ⟨2 * S, by omega, by omega⟩
    · exact ⟨-(2 * S), by omega, by omega⟩
    · exact ⟨S, by omega, by omega⟩
    · exact ⟨-S, by omega, by omega⟩
  have z1 : DY 0 1 (0 : UInt64) := ((DY.of_int own_z).up 1).cast (by simp) (by simp)
  have d1 : DY Y 1 (FP.ddiv s pd) := ddiv_dy (k := 0) (l := 0) (n := 1) (DY.of_int hs) (DY.of_int hp) (by rcases h1 with rfl | rfl | rfl | rfl <;> decide) (by omega) (by omega) (by omega) (by omega) (by rw [Int.mul_comm Y p, hY]; simp; omega)
  have d2 : DY Y 1 (FP.dsub (FP.ddiv s pd) 0) := (dsub_dy d1 z1 (by omega) (by omega) (by omega)).cast (by omega) rfl
  have b3 : (l * Y).natAbs ≤ 1 * 8796093022208 := own_nab h2 bY
  have d3 : DY (l * Y) 1 (FP.dmul ld (FP.dsub (FP.ddiv s pd) 0)) := (dmul_dy (DY.of_int hl) d2 (by omega) (by omega) (by omega)).cast rfl (by omega)
  have d4 := (dadd_dy z1 d3 (by omega) (by omega) (by omega)).cast (show 0 + l * Y = l * Y by omega) rfl
  have dq : DY (2 * Q) 1 q := ((DY.of_int hq).up 1).cast (by simp; omega) (by simp)
  exact ⟨Y, hY, bY, d1, d2, d3, d4, dsub_dy dq d4 (by omega) (by omega) (by omega), (dsub_dy dq z1 (by omega) (by omega) (by omega)).cast (by omega) rfl⟩
theorem own_cmp0 {i k : Int} {a : UInt64} (h : DY i k a) (hk : k = 0 ∨ k = 1) : cmpValue (FP.dcmp a 0) .l = 0 ↔ i = 0 := by
  have z : DY 0 k (0 : UInt64) := by
    rcases hk with rfl | rfl
    · exact DY.of_int own_z
    · exact ((DY.of_int own_z).up 1).cast (by simp) (by simp)
  rw [dcmpZ_dy h z, cmpZ_eq]
/-- one row of the last test -/
theorem own_row {a b Y0 Y1 W : Int} {da db y0 y1 w : UInt64} (ha : DInt a da) (hb : DInt b db) (h0 : DY Y0 1 y0) (h1 : DY Y1 1 y1) (hw : DInt W w) (ba : a.natAbs ≤ 4) (bb : b.natAbs ≤ 4) (b0 : Y0.natAbs ≤ 35184372088832) (b1 : Y1.natAbs ≤ 35184372088832) (bw : W.natAbs ≤ 2147483648) (h : a * Y0 + b * Y1 = 2 * W) :
    Jvm.Free.Fl.NoNaN64 (FP.dmul da y0) ∧ Jvm.Free.Fl.NoNaN64 (FP.dmul db y1) ∧ Jvm.Free.Fl.NoNaN64 (FP.dadd (FP.dmul da y0) (FP.dmul db y1)) ∧ cmpValue (FP.dcmp (FP.dadd (FP.dmul da y0) (FP.dmul db y1)) w) .l = 0 := by
  have c0 := own_nab ba b0
  have c1 := own_nab bb b1
  have d0 : DY (a * Y0) 1 (FP.dmul da y0) := (dmul_dy (DY.of_int ha) h0 (by omega) (by omega) (by omega)).cast rfl (by omega)
  have d1 : DY (b * Y1) 1 (FP.dmul db y1) := (dmul_dy (DY.of_int hb) h1 (by omega) (by omega) (by omega)).cast rfl (by omega)
  have d2 := dadd_dy d0 d1 (by omega) (by omega) (by omega)
  have dw : DY (2 * W) 1 w := ((DY.of_int hw).up 1).cast (by simp; omega) (by simp)
  refine ⟨d0.nn, d1.nn, d2.nn, ?_⟩
  rw [dcmpZ_dy d2 dw, cmpZ_eq]
  exact h
/-- a column of the matrix replaced, and the vector to match -/
theorem own_col {m0 m1 m2 m3 P O Y0 Y1 W0 W1 V : Int} (h0 : m0 * Y0 + m2 * Y1 = 2 * W0) (h1 : m1 * Y0 + m3 * Y1 = 2 * W1) (hv : V = P * W0 + O * W1) : (m0 * P + m1 * O) * Y0 + (m2 * P + m3 * O) * Y1 = 2 * V := by
  have e : (m0 * P + m1 * O) * Y0 + (m2 * P + m3 * O) * Y1 = P * (m0 * Y0 + m2 * Y1) + O * (m1 * Y0 + m3 * Y1) := by grind
  rw [e, h0, h1, hv]
  grind
theorem own_col' {m0 m1 m2 m3 P O Y0 Y1 W0 W1 V : Int} (h0 : m0 * Y0 + m2 * Y1 = 2 * W0) (h1 : m1 * Y0 + m3 * Y1 = 2 * W1) (hv : V = P * W1 + O * W0) : (m0 * O + m1 * P) * Y0 + (m2 * O + m3 * P) * Y1 = 2 * V := by
  have e : (m0 * O + m1 * P) * Y0 + (m2 * O + m3 * P) * Y1 = O * (m0 * Y0 + m2 * Y1) + P * (m1 * Y0 + m3 * Y1) := by grind
  rw [e, h0, h1, hv]
  grind
/-- the solution of the factors is the solution of the matrix: a, b: column c0; c, d: column c1 -/
theorem own_sol {p0 p1 u l A0 A1 Y : Int} (h1 : p0 = 1 ∨ p0 = -1) (hY : p1 * Y = 2 * (A1 - u * (p0 * A0))) : p0 * (2 * (p0 * A0) - l * Y) + l * p0 * Y = 2 * A0 ∧ u * (2 * (p0 * A0) - l * Y) + (p1 + l * u) * Y = 2 * A1 := by
  have e0 : p0 * p0 = 1 := by rcases h1 with rfl | rfl <;> rfl
  constructor
  · have : p0 * (2 * (p0 * A0) - l * Y) + l * p0 * Y = 2 * (p0 * p0) * A0 := by grind
    rw [this, e0]; omega
  · have : u * (2 * (p0 * A0) - l * Y) + (p1 + l * u) * Y = 2 * (u * (p0 * A0)) + p1 * Y := by grind
    rw [this, hY]; omega
theorem own_bp {p A : Int} {a : Nat} (h1 : p = 1 ∨ p = -1) (h : A.natAbs ≤ a) : (p * A).natAbs ≤ a := by rcases h1 with rfl | rfl <;> omega
theorem own_bd {i j o : Int} {a b : Nat} (h1 : o = 1 ∨ o = -1) (hi : i.natAbs ≤ a) (hj : j.natAbs ≤ b) : (i - o * j).natAbs ≤ a + b := by rcases h1 with rfl | rfl <;> omega
theorem own_back {V P O Y : Int} (h1 : P = 1 ∨ P = -1) : V = P * (P * (V - O * Y)) + O * Y := by
  generalize O * Y = t
  rcases h1 with rfl | rfl <;> omega
theorem own_back0 {V P Y : Int} (h1 : P = 1 ∨ P = -1) : V = P * (P * V) + 0 * Y := by
  rcases h1 with rfl | rfl <;> omega
theorem own_i32 {a b c d : Int32} (ha : a.toInt.natAbs ≤ 2) (hc : c.toInt.natAbs ≤ 2) (hb : b.toInt.natAbs ≤ 1) (hd : d.toInt.natAbs ≤ 1) : (a * b + c * d).toInt = a.toInt * b.toInt + c.toInt * d.toInt := by
  have h1 := own_nab ha hb
  have h2 := own_nab hc hd
  have m1 := c_imul a b
  have m2 := c_imul c d
  have r1 := rng32 (a * b)
  have r2 := rng32 (c * d)
  have m3 := c_iadd (a * b) (c * d)
  have r3 := rng32 (a * b + c * d)
  omega
/-- a change of one column: P the pivot, O the other; the matrix m before, a behind -/
def CHG (z : Bool) (ps oi : Int32) (od pd : UInt64) (m0 m1 m2 m3 a0 a1 a2 a3 : Int) : Prop :=
  ∃ P O : Int, (P = 1 ∨ P = -1) ∧ DInt P pd ∧ (z = true → O = 0) ∧ (z = false → (O = 1 ∨ O = -1) ∧ DInt O od) ∧
    ((ps = 0 ∧ oi = 1 ∧ a0 = m0 * P + m1 * O ∧ a1 = m1 ∧ a2 = m2 * P + m3 * O ∧ a3 = m3) ∨ (ps = 1 ∧ oi = 0 ∧ a0 = m0 ∧ a1 = m0 * O + m1 * P ∧ a2 = m2 ∧ a3 = m2 * O + m3 * P))
/-- what the etas make of the vector -/
def WOK (w0 w1 : UInt64) (V0 V1 m0 m1 m2 m3 f0 f1 f2 f3 : Int) : Prop :=
  ∃ W0 W1 : Int, DInt W0 w0 ∧ DInt W1 w1 ∧ W0.natAbs ≤ 17179869184 ∧ W1.natAbs ≤ 17179869184 ∧ ∀ Y0 Y1 : Int, m0 * Y0 + m2 * Y1 = 2 * W0 → m1 * Y0 + m3 * Y1 = 2 * W1 → f0 * Y0 + f2 * Y1 = 2 * V0 ∧ f1 * Y0 + f3 * Y1 = 2 * V1
/-- the solution -/
def YOK (y0 y1 : UInt64) (W0 W1 m0 m1 m2 m3 : Int) : Prop :=
  ∃ Y0 Y1 : Int, DY Y0 1 y0 ∧ DY Y1 1 y1 ∧ Y0.natAbs ≤ 35184372088832 ∧ Y1.natAbs ≤ 35184372088832 ∧ m0 * Y0 + m2 * Y1 = 2 * W0 ∧ m1 * Y0 + m3 * Y1 = 2 * W1
theorem own_lu1 {A0 A1 p u : Int} {w0 w1 pd ud : UInt64} (h0 : DInt A0 w0) (h1 : DInt A1 w1) (hp : DInt p pd) (hu : DInt u ud) (pp : p = 1 ∨ p = -1) (bu : u.natAbs ≤ 1) (b0 : A0.natAbs ≤ 17179869184) (b1 : A1.natAbs ≤ 17179869184) :
    DInt (p * A0) (FP.ddiv w0 pd) ∧ DInt (u * (p * A0)) (FP.dmul ud (FP.ddiv w0 pd)) ∧ DInt (A1 - u * (p * A0)) (FP.dsub w1 (FP.dmul ud (FP.ddiv w0 pd))) ∧ (p * A0).natAbs ≤ 17179869184 ∧ (A1 - u * (p * A0)).natAbs ≤ 34359738368 := by
  have c0 := own_bp pp b0
  have c1 := own_nab bu c0
  have d0 := own_q h0 hp pp (by omega)
  have d1 : DInt (u * (p * A0)) (FP.dmul ud (FP.ddiv w0 pd)) := dmul_int hu d0 (by omega)
  exact ⟨d0, d1, dsub_int h1 d1 (by omega), c0, by omega⟩
section Own
variable {l : Launch} {Z : State} {a0 : Array Value} {bs : Nat}
abbrev HWt (a0 : Array Value) (Z : State) : Prop := ∀ d ∈ tables_1, d.before a0 Z = true
abbrev NaNo := Jvm.Free.Fl.NoNaN64
abbrev Gp := List Int32 × List UInt64
def mkA (bs : Nat) (S T1 T2 F U V : Gp) : Den :=
  (fun i => bs + i,
   fun p => if isC p then p else if p < 32 then S.2.getD p.toNat 0 else if p < 50 then T1.2.getD (p.toNat - 32) 0 else if p < 70 then T2.2.getD (p.toNat - 50) 0 else if p < 80 then F.2.getD (p.toNat - 70) 0 else if p < 90 then U.2.getD (p.toNat - 80) 0 else V.2.getD (p.toNat - 90) 0,
   fun b => if b < 32 then S.1.getD b.toNat 0 else if b < 50 then T1.1.getD (b.toNat - 32) 0 else if b < 70 then T2.1.getD (b.toNat - 50) 0 else if b < 80 then F.1.getD (b.toNat - 70) 0 else if b < 90 then U.1.getD (b.toNat - 80) 0 else V.1.getD (b.toNat - 90) 0)
theorem mkA_c {bs : Nat} {S T1 T2 F U V : Gp} : ∀ x, isC x = true → (mkA bs S T1 T2 F U V).2.1 x = x := fun x h => if_pos h
theorem mkA_ad {bs : Nat} {S T1 T2 F U V : Gp} : AdOk (mkA bs S T1 T2 F U V) 0 bs := ⟨fun i j h => Nat.add_left_cancel (show bs + i = bs + j from h), fun i _ => (show bs + i = bs + (i - 0) by simp)⟩
abbrev SL (l : Launch) (Z : State) (A : Den) (bs : Nat) := Seg l KK A Z 0 bs wt "com/example/foreshock/foreshock/planning/BasisFactorizationSolveTransposedPinLaw" code maxLocals "law" room_1
abbrev ST (l : Launch) (Z : State) (A : Den) (bs : Nat) := Seg l KK A Z 0 bs wt "com/example/foreshock/foreshock/planning/BasisFactorization" prog_24_method_8_code 8 "solveTransposed" rm_33
theorem sgL (hw : HWt a0 Z) {A : Den} {tp : Tape} {tq : Tq} {tab : Tab} {pc k n stop k' n' : Nat} {L L' : Array Slot} {S S' : List Value} {H H' : AH} (hA : AdOk A 0 bs) (hT : TpOk A tp) (hU : TaOk A tp) (hQ : TqOk A tq) (hB : TabOk A tab) (h : seg (cal tp tq) (pg_0 tp tq) 3000 pc L S H k n tab stop L' S' H' k' n' room_1.slots = true) : SL l Z A bs pc L S H k n stop L' S' H' k' n' := seg_ok (okp_0 hw hA hT hU hQ (cal_ok hw hA hT hU hQ)) rfl hB h
theorem sgT (hw : HWt a0 Z) {A : Den} {tp : Tape} {tq : Tq} {tab : Tab} {pc k n stop k' n' : Nat} {L L' : Array Slot} {S S' : List Value} {H H' : AH} (hA : AdOk A 0 bs) (hT : TpOk A tp) (hU : TaOk A tp) (hQ : TqOk A tq) (hB : TabOk A tab) (h : seg (cal tp tq) (pg_33 tp tq) 3000 pc L S H k n tab stop L' S' H' k' n' rm_33.slots = true) : ST l Z A bs pc L S H k n stop L' S' H' k' n' := seg_ok (okp_33 hw hA hT hU hQ (cal_ok hw hA hT hU hQ)) rfl hB h
def SI (p0 e v0 v1 m0 m1 m2 m3 s0 s1 : Int32) (lu : List Int32) : List Int32 := [p0, v0, v1, e, m0, m1, m2, m3, m0 * m3 - m1 * m2, iop 24 p0 2, iop 24 p0 4, iop 24 p0 6, m0 * m3, m1 * m2, iop 24 p0 8, iop 23 (iop 24 p0 8) 1, iop 24 p0 9, iop 23 (iop 24 p0 9) 1, s0, s1] ++ lu
def SD (v0 v1 : Int32) (ds : List UInt64) : List UInt64 := [0, FP.i2d v0, FP.i2d v1, 0, 0, 0, 0, 0, 0, 0] ++ ds
def SG (p0 e v0 v1 m0 m1 m2 m3 s0 s1 : Int32) (lu : List Int32) (ds : List UInt64) : Gp := (SI p0 e v0 v1 m0 m1 m2 m3 s0 s1 lu, SD v0 v1 ds)
theorem tbf {A : Den} {a b : UInt32} (x : Int32) (h1 : A.2.2 a = x) (h2 : A.2.2 b = x) : OwnI.mv A (.float a) = OwnI.mv A (.float b) := congrArg Value.int (h1.trans h2.symm)
theorem tbd {A : Den} {a b : UInt64} (x : UInt64) (h1 : A.2.1 a = x) (h2 : A.2.1 b = x) : OwnI.mv A (.double a) = OwnI.mv A (.double b) := congrArg Value.double (h1.trans h2.symm)
theorem own_s0z (hw : HWt a0 Z) (p0 e v0 v1 : Int32) (s0 s1 : Int32) (lu : List Int32) (ds : List UInt64) (T1 T2 F U V : Gp) (hd : entW p0 * entW (iop 24 p0 6) - entW (iop 24 p0 2) * entW (iop 24 p0 4) = 0) : SL l Z (mkA bs (SG p0 e v0 v1 (entW p0) (entW (iop 24 p0 2)) (entW (iop 24 p0 4)) (entW (iop 24 p0 6)) s0 s1 lu ds) T1 T2 F U V) bs 0 la_0 [] [] 0 0 46 la_1 [.int 1] [] 0 0 :=
  sgL hw mkA_ad ⟨mkA_c, by unfold tp_s0z; exact allC (te13z hd) <| allN⟩ (taN (by decide)) (by unfold tq_s0z; exact allC (tqc rfl rfl) <| allC (tqc rfl rfl) <| allC (tqc rfl rfl) <| allC (tqc rfl rfl) <| allC (tqc rfl rfl) <| allC (tqc rfl rfl) <| allC (tqc rfl rfl) <| allC (tqc rfl rfl) <| allC (tqc rfl rfl) <| allC (tqc rfl rfl) <| allN) allN sg_s0z
theorem own_s0_00 (hw : HWt a0 Z) (p0 e v0 v1 : Int32) (lu : List Int32) (ds : List UInt64) (T1 T2 F U V : Gp) (hd : entW p0 * entW (iop 24 p0 6) - entW (iop 24 p0 2) * entW (iop 24 p0 4) ≠ 0) (h8 : iop 23 (iop 24 p0 8) 1 = 0) (h9 : iop 23 (iop 24 p0 9) 1 = 0) : SL l Z (mkA bs (SG p0 e v0 v1 (entW p0) (entW (iop 24 p0 2)) (entW (iop 24 p0 4)) (entW (iop 24 p0 6)) 0 0 lu ds) T1 T2 F U V) bs 0 la_0 [] [] 0 0 79 la_2 [] [] 0 0 :=
  sgL hw mkA_ad ⟨mkA_c, by unfold tp_s0_00; exact allC (te13n hd) <| allC (te13z h8) <| allC (te13z h9) <| allN⟩ (taN (by decide)) (by unfold tq_s0_00; exact allC (tqc rfl rfl) <| allC (tqc rfl rfl) <| allC (tqc rfl rfl) <| allC (tqc rfl rfl) <| allC (tqc rfl rfl) <| allC (tqc rfl rfl) <| allC (tqc rfl rfl) <| allC (tqc rfl rfl) <| allC (tqc rfl rfl) <| allC (tqc rfl rfl) <| allC (tqc rfl rfl) <| allC (tqc rfl rfl) <| allC (tqc rfl rfl) <| allC (tqc rfl rfl) <| allN) (by unfold tb_s0_00; exact allC (rfl) <| allC (rfl) <| allN) sg_s0_00
theorem own_s0_01 (hw : HWt a0 Z) (p0 e v0 v1 : Int32) (lu : List Int32) (ds : List UInt64) (T1 T2 F U V : Gp) (hd : entW p0 * entW (iop 24 p0 6) - entW (iop 24 p0 2) * entW (iop 24 p0 4) ≠ 0) (h8 : iop 23 (iop 24 p0 8) 1 = 0) (h9 : iop 23 (iop 24 p0 9) 1 ≠ 0) : SL l Z (mkA bs (SG p0 e v0 v1 (entW p0) (entW (iop 24 p0 2)) (entW (iop 24 p0 4)) (entW (iop 24 p0 6)) 0 1 lu ds) T1 T2 F U V) bs 0 la_0 [] [] 0 0 79 la_2 [] [] 0 0 :=
  sgL hw mkA_ad ⟨mkA_c, by unfold tp_s0_01; exact allC (te13n hd) <| allC (te13z h8) <| allC (te13n h9) <| allN⟩ (taN (by decide)) (by unfold tq_s0_01; exact allC (tqc rfl rfl) <| allC (tqc rfl rfl) <| allC (tqc rfl rfl) <| allC (tqc rfl rfl) <| allC (tqc rfl rfl) <| allC (tqc rfl rfl) <| allC (tqc rfl rfl) <| allC (tqc rfl rfl) <| allC (tqc rfl rfl) <| allC (tqc rfl rfl) <| allC (tqc rfl rfl) <| allC (tqc rfl rfl) <| allC (tqc rfl rfl) <| allC (tqc rfl rfl) <| allN) (by unfold tb_s0_01; exact allC (rfl) <| allC (rfl) <| allN) sg_s0_01
theorem own_s0_10 (hw : HWt a0 Z) (p0 e v0 v1 : Int32) (lu : List Int32) (ds : List UInt64) (T1 T2 F U V : Gp) (hd : entW p0 * entW (iop 24 p0 6) - entW (iop 24 p0 2) * entW (iop 24 p0 4) ≠ 0) (h8 : iop 23 (iop 24 p0 8) 1 ≠ 0) (h9 : iop 23 (iop 24 p0 9) 1 = 0) : SL l Z (mkA bs (SG p0 e v0 v1 (entW p0) (entW (iop 24 p0 2)) (entW (iop 24 p0 4)) (entW (iop 24 p0 6)) 1 0 lu ds) T1 T2 F U V) bs 0 la_0 [] [] 0 0 79 la_2 [] [] 0 0 :=
  sgL hw mkA_ad ⟨mkA_c, by unfold tp_s0_10; exact allC (te13n hd) <| allC (te13n h8) <| allC (te13z h9) <| allN⟩ (taN (by decide)) (by unfold tq_s0_10; exact allC (tqc rfl rfl) <| allC (tqc rfl rfl) <| allC (tqc rfl rfl) <| allC (tqc rfl rfl) <| allC (tqc rfl rfl) <| allC (tqc rfl rfl) <| allC (tqc rfl rfl) <| allC (tqc rfl rfl) <| allC (tqc rfl rfl) <| allC (tqc rfl rfl) <| allC (tqc rfl rfl) <| allC (tqc rfl rfl) <| allC (tqc rfl rfl) <| allC (tqc rfl rfl) <| allN) (by unfold tb_s0_10; exact allC (rfl) <| allC (rfl) <| allN) sg_s0_10
theorem own_s0_11 (hw : HWt a0 Z) (p0 e v0 v1 : Int32) (lu : List Int32) (ds : List UInt64) (T1 T2 F U V : Gp) (hd : entW p0 * entW (iop 24 p0 6) - entW (iop 24 p0 2) * entW (iop 24 p0 4) ≠ 0) (h8 : iop 23 (iop 24 p0 8) 1 ≠ 0) (h9 : iop 23 (iop 24 p0 9) 1 ≠ 0) : SL l Z (mkA bs (SG p0 e v0 v1 (entW p0) (entW (iop 24 p0 2)) (entW (iop 24 p0 4)) (entW (iop 24 p0 6)) 1 1 lu ds) T1 T2 F U V) bs 0 la_0 [] [] 0 0 79 la_2 [] [] 0 0 :=
  sgL hw mkA_ad ⟨mkA_c, by unfold tp_s0_11; exact allC (te13n hd) <| allC (te13n h8) <| allC (te13n h9) <| allN⟩ (taN (by decide)) (by unfold tq_s0_11; exact allC (tqc rfl rfl) <| allC (tqc rfl rfl) <| allC (tqc rfl rfl) <| allC (tqc rfl rfl) <| allC (tqc rfl rfl) <| allC (tqc rfl rfl) <| allC (tqc rfl rfl) <| allC (tqc rfl rfl) <| allC (tqc rfl rfl) <| allC (tqc rfl rfl) <| allC (tqc rfl rfl) <| allC (tqc rfl rfl) <| allC (tqc rfl rfl) <| allC (tqc rfl rfl) <| allN) (by unfold tb_s0_11; exact allC (rfl) <| allC (rfl) <| allN) sg_s0_11
def LS (j : Nat) : List Int32 := match j with
  | 0 => [0, 0, 1, 1, 0, 0, 0, 0, 0, 0, 0, 0]
  | 1 => [1, 1, 0, 0, 1, 1, 1, 1, 0, 0, 0, 0]
  | 2 => [0, 1, 0, 1, 0, 0, 0, 0, 0, 0, 0, 0]
  | 3 => [1, 1, 0, 1, 0, 1, 1, 0, 0, 0, 0, 0]
  | 4 => [1, 0, 1, 0, 1, 1, 1, 1, 0, 0, 0, 0]
  | 5 => [1, 0, 1, 1, 0, 1, 1, 0, 0, 0, 0, 0]
  | 6 => [1, 0, 1, 1, 0, 1, 1, 0, 1, 1, 1, 1]
  | 7 => [1, 1, 0, 1, 0, 1, 1, 0, 1, 1, 0, 1]
  | _ => []
def RL (j : Nat) (ds : List UInt64) (p0 p1 u l m0 m1 m2 m3 : Int) : Prop := match j with
  | 0 => m1 = p0 ∧ m0 = u ∧ m3 = l * p0 ∧ m2 = p1 + l * u ∧ (u = 0 ∧ ds.getD 2 0 = 0) ∧ (l = 0 ∧ ds.getD 3 0 = 0)
  | 1 => m2 = p0 ∧ m3 = u ∧ m0 = l * p0 ∧ m1 = p1 + l * u ∧ True ∧ (l = 0 ∧ ds.getD 3 0 = 0)
  | 2 => m3 = p0 ∧ m2 = u ∧ m1 = l * p0 ∧ m0 = p1 + l * u ∧ (u = 0 ∧ ds.getD 2 0 = 0) ∧ (l = 0 ∧ ds.getD 3 0 = 0)
  | 3 => m3 = p0 ∧ m2 = u ∧ m1 = l * p0 ∧ m0 = p1 + l * u ∧ True ∧ (l = 0 ∧ ds.getD 3 0 = 0)
  | 4 => m0 = p0 ∧ m1 = u ∧ m2 = l * p0 ∧ m3 = p1 + l * u ∧ True ∧ (l = 0 ∧ ds.getD 3 0 = 0)
  | 5 => m1 = p0 ∧ m0 = u ∧ m3 = l * p0 ∧ m2 = p1 + l * u ∧ True ∧ (l = 0 ∧ ds.getD 3 0 = 0)
  | 6 => m1 = p0 ∧ m0 = u ∧ m3 = l * p0 ∧ m2 = p1 + l * u ∧ True ∧ True
  | 7 => m3 = p0 ∧ m2 = u ∧ m1 = l * p0 ∧ m0 = p1 + l * u ∧ True ∧ True
  | _ => False
def LUR (lu : List Int32) (ds : List UInt64) (m0 m1 m2 m3 : Int) : Prop := ∃ (j : Nat) (p0 p1 u l : Int), lu = LS j ∧ DInt p0 (ds.getD 0 0) ∧ DInt p1 (ds.getD 1 0) ∧ DInt u (ds.getD 2 0) ∧ DInt l (ds.getD 3 0) ∧ (p0 = 1 ∨ p0 = -1) ∧ (p1 = 1 ∨ p1 = -1 ∨ p1 = 2 ∨ p1 = -2) ∧ u.natAbs ≤ 1 ∧ l.natAbs ≤ 1 ∧ RL j ds p0 p1 u l m0 m1 m2 m3
theorem own_lur_s1_0110_00 (m1 m2 : Int32) (h1 : m1 = 1 ∨ m1 = -1) (h2 : m2 = 1 ∨ m2 = -1) : LUR (LS 0) [FP.i2d m1, FP.i2d m2, 0, 0] (Int32.toInt 0) (Int32.toInt m1) (Int32.toInt m2) (Int32.toInt 0) := by
  rcases h1 with rfl | rfl <;> rcases h2 with rfl | rfl
  all_goals first | exact absurd rfl hd | exact ⟨0, _, _, _, _, rfl, i2d_int _, i2d_int _, own_z, own_z, by decide, by decide, by decide, by decide, (show _ ∧ _ ∧ _ ∧ _ ∧ _ ∧ _ from ⟨by decide, by decide, by decide, by decide, ⟨rfl, rfl⟩, ⟨rfl, rfl⟩⟩)⟩
theorem own_s1_0110_00 (hw : HWt a0 Z) (p0 e v0 v1 : Int32) (m1 m2 s0 s1 : Int32) (h1 : m1 = 1 ∨ m1 = -1) (h2 : m2 = 1 ∨ m2 = -1) (T1 T2 F U V : Gp) : SL l Z (mkA bs (SG p0 e v0 v1 0 m1 m2 0 s0 s1 (LS 0) [FP.i2d m1, FP.i2d m2, 0, 0]) T1 T2 F U V) bs 79 la_2 [] [] 0 0 214 la_3 [] hp_0 68 762 := by
  exact sgL hw mkA_ad ⟨mkA_c, by unfold tp_s1_0110_00; exact allC (te13z rfl) <| allC (te13n (own_nz h2)) <| allC (te13n (own_nz h1)) <| allC (te13z rfl) <| allC (te10 rfl) <| allC (te10 rfl) <| allC (te10 rfl) <| allC (te10 rfl) <| allC (te14) <| allC (te14) <| allN⟩ (by unfold tp_s1_0110_00; exact allC (nofun) <| allC (nofun) <| allC (nofun) <| allC (nofun) <| allC (nofun) <| allC (nofun) <| allC (nofun) <| allC (nofun) <| allC (fun _ => own_abs1 h1) <| allC (fun _ => own_abs1 h2) <| allN) allN (by unfold tb_s1_0110_00; exact allC (rfl) <| allC (rfl) <| allC (rfl) <| allC (rfl) <| allC (rfl) <| allC (rfl) <| allC (rfl) <| allC (rfl) <| allC (rfl) <| allC (rfl) <| allC (rfl) <| allC (rfl) <| allC (rfl) <| allC (rfl) <| allN) sg_s1_0110_00
theorem own_lur_s1_0111_00 (m1 m2 m3 : Int32) (h1 : m1 = 1 ∨ m1 = -1) (h2 : m2 = 1 ∨ m2 = -1) (h3 : m3 = 1 ∨ m3 = -1) : LUR (LS 1) [FP.i2d m2, FP.i2d m1, FP.i2d m3, 0] (Int32.toInt 0) (Int32.toInt m1) (Int32.toInt m2) (Int32.toInt m3) := by
  rcases h1 with rfl | rfl <;> rcases h2 with rfl | rfl <;> rcases h3 with rfl | rfl
  all_goals first | exact absurd rfl hd | exact ⟨1, _, _, _, _, rfl, i2d_int _, i2d_int _, i2d_int _, own_z, by decide, by decide, by decide, by decide, (show _ ∧ _ ∧ _ ∧ _ ∧ _ ∧ _ from ⟨by decide, by decide, by decide, by decide, trivial, ⟨rfl, rfl⟩⟩)⟩
theorem own_s1_0111_00 (hw : HWt a0 Z) (p0 e v0 v1 : Int32) (m1 m2 m3 s0 : Int32) (h1 : m1 = 1 ∨ m1 = -1) (h2 : m2 = 1 ∨ m2 = -1) (h3 : m3 = 1 ∨ m3 = -1) (T1 T2 F U V : Gp) : SL l Z (mkA bs (SG p0 e v0 v1 0 m1 m2 m3 s0 0 (LS 1) [FP.i2d m2, FP.i2d m1, FP.i2d m3, 0]) T1 T2 F U V) bs 79 la_2 [] [] 0 0 214 la_3 [] hp_0 68 762 := by
  exact Seg.trans (Seg.same (tab := [(.int 0, .float 19)]) rfl (allC (rfl) <| allN) (by decide +kernel)) (sgL hw mkA_ad ⟨mkA_c, by unfold tp_s1_0111_00; exact allC (te13z rfl) <| allC (te13n (own_nz h2)) <| allC (te13n (own_nz h1)) <| allC (te13n (own_nz h3)) <| allC (te10 rfl) <| allC (te10 rfl) <| allC (te10 rfl) <| allC (te10 rfl) <| allC (te10 rfl) <| allC (te14) <| allC (te14) <| allN⟩ (by unfold tp_s1_0111_00; exact allC (nofun) <| allC (nofun) <| allC (nofun) <| allC (nofun) <| allC (nofun) <| allC (nofun) <| allC (nofun) <| allC (nofun) <| allC (nofun) <| allC (fun _ => own_abs1 h2) <| allC (fun _ => own_abs1 h1) <| allN) allN (by unfold tb_s1_0111_00; exact allC (rfl) <| allC (rfl) <| allC (rfl) <| allC (rfl) <| allC (rfl) <| allC (rfl) <| allC (rfl) <| allC (rfl) <| allC (rfl) <| allC (rfl) <| allC (rfl) <| allC (rfl) <| allC (rfl) <| allC (rfl) <| allN) sg_s1_0111_00)
theorem own_lur_s1_0111_01 (m1 m2 m3 : Int32) (h1 : m1 = 1 ∨ m1 = -1) (h2 : m2 = 1 ∨ m2 = -1) (h3 : m3 = 1 ∨ m3 = -1) : LUR (LS 1) [FP.i2d m2, FP.i2d m1, FP.i2d m3, 0] (Int32.toInt 0) (Int32.toInt m1) (Int32.toInt m2) (Int32.toInt m3) := by
  rcases h1 with rfl | rfl <;> rcases h2 with rfl | rfl <;> rcases h3 with rfl | rfl
  all_goals first | exact absurd rfl hd | exact ⟨1, _, _, _, _, rfl, i2d_int _, i2d_int _, i2d_int _, own_z, by decide, by decide, by decide, by decide, (show _ ∧ _ ∧ _ ∧ _ ∧ _ ∧ _ from ⟨by decide, by decide, by decide, by decide, trivial, ⟨rfl, rfl⟩⟩)⟩
theorem own_s1_0111_01 (hw : HWt a0 Z) (p0 e v0 v1 : Int32) (m1 m2 m3 s0 : Int32) (h1 : m1 = 1 ∨ m1 = -1) (h2 : m2 = 1 ∨ m2 = -1) (h3 : m3 = 1 ∨ m3 = -1) (T1 T2 F U V : Gp) : SL l Z (mkA bs (SG p0 e v0 v1 0 m1 m2 m3 s0 1 (LS 1) [FP.i2d m2, FP.i2d m1, FP.i2d m3, 0]) T1 T2 F U V) bs 79 la_2 [] [] 0 0 214 la_3 [] hp_0 68 762 := by
  exact Seg.trans (Seg.same (tab := [(.int 1, .float 19)]) rfl (allC (rfl) <| allN) (by decide +kernel)) (sgL hw mkA_ad ⟨mkA_c, by unfold tp_s1_0111_01; exact allC (te13z rfl) <| allC (te13n (own_nz h2)) <| allC (te13n (own_nz h1)) <| allC (te13n (own_nz h3)) <| allC (te10 rfl) <| allC (te10 rfl) <| allC (te10 rfl) <| allC (te10 rfl) <| allC (te10 rfl) <| allC (te14) <| allC (te14) <| allN⟩ (by unfold tp_s1_0111_01; exact allC (nofun) <| allC (nofun) <| allC (nofun) <| allC (nofun) <| allC (nofun) <| allC (nofun) <| allC (nofun) <| allC (nofun) <| allC (nofun) <| allC (fun _ => own_abs1 h2) <| allC (fun _ => own_abs1 h1) <| allN) allN (by unfold tb_s1_0111_01; exact allC (rfl) <| allC (rfl) <| allC (rfl) <| allC (rfl) <| allC (rfl) <| allC (rfl) <| allC (rfl) <| allC (rfl) <| allC (rfl) <| allC (rfl) <| allC (rfl) <| allC (rfl) <| allC (rfl) <| allC (rfl) <| allN) sg_s1_0111_01)
theorem own_lur_s1_1001_00 (m0 m3 : Int32) (h0 : m0 = 1 ∨ m0 = -1) (h3 : m3 = 1 ∨ m3 = -1) : LUR (LS 2) [FP.i2d m3, FP.i2d m0, 0, 0] (Int32.toInt m0) (Int32.toInt 0) (Int32.toInt 0) (Int32.toInt m3) := by
  rcases h0 with rfl | rfl <;> rcases h3 with rfl | rfl
  all_goals first | exact absurd rfl hd | exact ⟨2, _, _, _, _, rfl, i2d_int _, i2d_int _, own_z, own_z, by decide, by decide, by decide, by decide, (show _ ∧ _ ∧ _ ∧ _ ∧ _ ∧ _ from ⟨by decide, by decide, by decide, by decide, ⟨rfl, rfl⟩, ⟨rfl, rfl⟩⟩)⟩
theorem own_s1_1001_00 (hw : HWt a0 Z) (p0 e v0 v1 : Int32) (m0 m3 s0 s1 : Int32) (h0 : m0 = 1 ∨ m0 = -1) (h3 : m3 = 1 ∨ m3 = -1) (T1 T2 F U V : Gp) : SL l Z (mkA bs (SG p0 e v0 v1 m0 0 0 m3 s0 s1 (LS 2) [FP.i2d m3, FP.i2d m0, 0, 0]) T1 T2 F U V) bs 79 la_2 [] [] 0 0 214 la_3 [] hp_0 68 762 := by
  exact sgL hw mkA_ad ⟨mkA_c, by unfold tp_s1_1001_00; exact allC (te13n (own_nz h0)) <| allC (te13z rfl) <| allC (te13z rfl) <| allC (te13n (own_nz h3)) <| allC (te10 rfl) <| allC (te10 rfl) <| allC (te10 rfl) <| allC (te10 rfl) <| allC (te14) <| allC (te14) <| allN⟩ (by unfold tp_s1_1001_00; exact allC (nofun) <| allC (nofun) <| allC (nofun) <| allC (nofun) <| allC (nofun) <| allC (nofun) <| allC (nofun) <| allC (nofun) <| allC (fun _ => own_abs1 h3) <| allC (fun _ => own_abs1 h0) <| allN) allN (by unfold tb_s1_1001_00; exact allC (rfl) <| allC (rfl) <| allC (rfl) <| allC (rfl) <| allC (rfl) <| allC (rfl) <| allC (rfl) <| allC (rfl) <| allC (rfl) <| allC (rfl) <| allC (rfl) <| allC (rfl) <| allC (rfl) <| allC (rfl) <| allN) sg_s1_1001_00
theorem own_lur_s1_1011_00 (m0 m2 m3 : Int32) (h0 : m0 = 1 ∨ m0 = -1) (h2 : m2 = 1 ∨ m2 = -1) (h3 : m3 = 1 ∨ m3 = -1) : LUR (LS 3) [FP.i2d m3, FP.i2d m0, FP.i2d m2, 0] (Int32.toInt m0) (Int32.toInt 0) (Int32.toInt m2) (Int32.toInt m3) := by
  rcases h0 with rfl | rfl <;> rcases h2 with rfl | rfl <;> rcases h3 with rfl | rfl
  all_goals first | exact absurd rfl hd | exact ⟨3, _, _, _, _, rfl, i2d_int _, i2d_int _, i2d_int _, own_z, by decide, by decide, by decide, by decide, (show _ ∧ _ ∧ _ ∧ _ ∧ _ ∧ _ from ⟨by decide, by decide, by decide, by decide, trivial, ⟨rfl, rfl⟩⟩)⟩
theorem own_s1_1011_00 (hw : HWt a0 Z) (p0 e v0 v1 : Int32) (m0 m2 m3 s1 : Int32) (h0 : m0 = 1 ∨ m0 = -1) (h2 : m2 = 1 ∨ m2 = -1) (h3 : m3 = 1 ∨ m3 = -1) (T1 T2 F U V : Gp) : SL l Z (mkA bs (SG p0 e v0 v1 m0 0 m2 m3 0 s1 (LS 3) [FP.i2d m3, FP.i2d m0, FP.i2d m2, 0]) T1 T2 F U V) bs 79 la_2 [] [] 0 0 214 la_3 [] hp_0 68 762 := by
  exact Seg.trans (Seg.same (tab := [(.int 0, .float 18)]) rfl (allC (rfl) <| allN) (by decide +kernel)) (sgL hw mkA_ad ⟨mkA_c, by unfold tp_s1_1011_00; exact allC (te13n (own_nz h0)) <| allC (te13n (own_nz h2)) <| allC (te13z rfl) <| allC (te13n (own_nz h3)) <| allC (te10 rfl) <| allC (te10 rfl) <| allC (te10 rfl) <| allC (te10 rfl) <| allC (te10 rfl) <| allC (te14) <| allC (te14) <| allN⟩ (by unfold tp_s1_1011_00; exact allC (nofun) <| allC (nofun) <| allC (nofun) <| allC (nofun) <| allC (nofun) <| allC (nofun) <| allC (nofun) <| allC (nofun) <| allC (nofun) <| allC (fun _ => own_abs1 h3) <| allC (fun _ => own_abs1 h0) <| allN) allN (by unfold tb_s1_1011_00; exact allC (rfl) <| allC (rfl) <| allC (rfl) <| allC (rfl) <| allC (rfl) <| allC (rfl) <| allC (rfl) <| allC (rfl) <| allC (rfl) <| allC (rfl) <| allC (rfl) <| allC (rfl) <| allC (rfl) <| allC (rfl) <| allN) sg_s1_1011_00)
theorem own_lur_s1_1011_10 (m0 m2 m3 : Int32) (h0 : m0 = 1 ∨ m0 = -1) (h2 : m2 = 1 ∨ m2 = -1) (h3 : m3 = 1 ∨ m3 = -1) : LUR (LS 3) [FP.i2d m3, FP.i2d m0, FP.i2d m2, 0] (Int32.toInt m0) (Int32.toInt 0) (Int32.toInt m2) (Int32.toInt m3) := by
  rcases h0 with rfl | rfl <;> rcases h2 with rfl | rfl <;> rcases h3 with rfl | rfl
  all_goals first | exact absurd rfl hd | exact ⟨3, _, _, _, _, rfl, i2d_int _, i2d_int _, i2d_int _, own_z, by decide, by decide, by decide, by decide, (show _ ∧ _ ∧ _ ∧ _ ∧ _ ∧ _ from ⟨by decide, by decide, by decide, by decide, trivial, ⟨rfl, rfl⟩⟩)⟩
theorem own_s1_1011_10 (hw : HWt a0 Z) (p0 e v0 v1 : Int32) (m0 m2 m3 s1 : Int32) (h0 : m0 = 1 ∨ m0 = -1) (h2 : m2 = 1 ∨ m2 = -1) (h3 : m3 = 1 ∨ m3 = -1) (T1 T2 F U V : Gp) : SL l Z (mkA bs (SG p0 e v0 v1 m0 0 m2 m3 1 s1 (LS 3) [FP.i2d m3, FP.i2d m0, FP.i2d m2, 0]) T1 T2 F U V) bs 79 la_2 [] [] 0 0 214 la_3 [] hp_0 68 762 := by
  exact Seg.trans (Seg.same (tab := [(.int 1, .float 18)]) rfl (allC (rfl) <| allN) (by decide +kernel)) (sgL hw mkA_ad ⟨mkA_c, by unfold tp_s1_1011_10; exact allC (te13n (own_nz h0)) <| allC (te13n (own_nz h2)) <| allC (te13z rfl) <| allC (te13n (own_nz h3)) <| allC (te10 rfl) <| allC (te10 rfl) <| allC (te10 rfl) <| allC (te10 rfl) <| allC (te10 rfl) <| allC (te14) <| allC (te14) <| allN⟩ (by unfold tp_s1_1011_10; exact allC (nofun) <| allC (nofun) <| allC (nofun) <| allC (nofun) <| allC (nofun) <| allC (nofun) <| allC (nofun) <| allC (nofun) <| allC (nofun) <| allC (fun _ => own_abs1 h3) <| allC (fun _ => own_abs1 h0) <| allN) allN (by unfold tb_s1_1011_10; exact allC (rfl) <| allC (rfl) <| allC (rfl) <| allC (rfl) <| allC (rfl) <| allC (rfl) <| allC (rfl) <| allC (rfl) <| allC (rfl) <| allC (rfl) <| allC (rfl) <| allC (rfl) <| allC (rfl) <| allC (rfl) <| allN) sg_s1_1011_10)
theorem own_lur_s1_1101_00 (m0 m1 m3 : Int32) (h0 : m0 = 1 ∨ m0 = -1) (h1 : m1 = 1 ∨ m1 = -1) (h3 : m3 = 1 ∨ m3 = -1) : LUR (LS 4) [FP.i2d m0, FP.i2d m3, FP.i2d m1, 0] (Int32.toInt m0) (Int32.toInt m1) (Int32.toInt 0) (Int32.toInt m3) := by
  rcases h0 with rfl | rfl <;> rcases h1 with rfl | rfl <;> rcases h3 with rfl | rfl
  all_goals first | exact absurd rfl hd | exact ⟨4, _, _, _, _, rfl, i2d_int _, i2d_int _, i2d_int _, own_z, by decide, by decide, by decide, by decide, (show _ ∧ _ ∧ _ ∧ _ ∧ _ ∧ _ from ⟨by decide, by decide, by decide, by decide, trivial, ⟨rfl, rfl⟩⟩)⟩
theorem own_s1_1101_00 (hw : HWt a0 Z) (p0 e v0 v1 : Int32) (m0 m1 m3 s0 : Int32) (h0 : m0 = 1 ∨ m0 = -1) (h1 : m1 = 1 ∨ m1 = -1) (h3 : m3 = 1 ∨ m3 = -1) (T1 T2 F U V : Gp) : SL l Z (mkA bs (SG p0 e v0 v1 m0 m1 0 m3 s0 0 (LS 4) [FP.i2d m0, FP.i2d m3, FP.i2d m1, 0]) T1 T2 F U V) bs 79 la_2 [] [] 0 0 214 la_3 [] hp_0 68 762 := by
  exact Seg.trans (Seg.same (tab := [(.int 0, .float 19)]) rfl (allC (rfl) <| allN) (by decide +kernel)) (sgL hw mkA_ad ⟨mkA_c, by unfold tp_s1_1101_00; exact allC (te13n (own_nz h0)) <| allC (te13z rfl) <| allC (te13n (own_nz h1)) <| allC (te13n (own_nz h3)) <| allC (te10 rfl) <| allC (te10 rfl) <| allC (te10 rfl) <| allC (te10 rfl) <| allC (te10 rfl) <| allC (te14) <| allC (te14) <| allN⟩ (by unfold tp_s1_1101_00; exact allC (nofun) <| allC (nofun) <| allC (nofun) <| allC (nofun) <| allC (nofun) <| allC (nofun) <| allC (nofun) <| allC (nofun) <| allC (nofun) <| allC (fun _ => own_abs1 h0) <| allC (fun _ => own_abs1 h3) <| allN) allN (by unfold tb_s1_1101_00; exact allC (rfl) <| allC (rfl) <| allC (rfl) <| allC (rfl) <| allC (rfl) <| allC (rfl) <| allC (rfl) <| allC (rfl) <| allC (rfl) <| allC (rfl) <| allC (rfl) <| allC (rfl) <| allC (rfl) <| allC (rfl) <| allN) sg_s1_1101_00)
theorem own_lur_s1_1101_01 (m0 m1 m3 : Int32) (h0 : m0 = 1 ∨ m0 = -1) (h1 : m1 = 1 ∨ m1 = -1) (h3 : m3 = 1 ∨ m3 = -1) : LUR (LS 4) [FP.i2d m0, FP.i2d m3, FP.i2d m1, 0] (Int32.toInt m0) (Int32.toInt m1) (Int32.toInt 0) (Int32.toInt m3) := by
  rcases h0 with rfl | rfl <;> rcases h1 with rfl | rfl <;> rcases h3 with rfl | rfl
  all_goals first | exact absurd rfl hd | exact ⟨4, _, _, _, _, rfl, i2d_int _, i2d_int _, i2d_int _, own_z, by decide, by decide, by decide, by decide, (show _ ∧ _ ∧ _ ∧ _ ∧ _ ∧ _ from ⟨by decide, by decide, by decide, by decide, trivial, ⟨rfl, rfl⟩⟩)⟩
theorem own_s1_1101_01 (hw : HWt a0 Z) (p0 e v0 v1 : Int32) (m0 m1 m3 s0 : Int32) (h0 : m0 = 1 ∨ m0 = -1) (h1 : m1 = 1 ∨ m1 = -1) (h3 : m3 = 1 ∨ m3 = -1) (T1 T2 F U V : Gp) : SL l Z (mkA bs (SG p0 e v0 v1 m0 m1 0 m3 s0 1 (LS 4) [FP.i2d m0, FP.i2d m3, FP.i2d m1, 0]) T1 T2 F U V) bs 79 la_2 [] [] 0 0 214 la_3 [] hp_0 68 762 := by
  exact Seg.trans (Seg.same (tab := [(.int 1, .float 19)]) rfl (allC (rfl) <| allN) (by decide +kernel)) (sgL hw mkA_ad ⟨mkA_c, by unfold tp_s1_1101_01; exact allC (te13n (own_nz h0)) <| allC (te13z rfl) <| allC (te13n (own_nz h1)) <| allC (te13n (own_nz h3)) <| allC (te10 rfl) <| allC (te10 rfl) <| allC (te10 rfl) <| allC (te10 rfl) <| allC (te10 rfl) <| allC (te14) <| allC (te14) <| allN⟩ (by unfold tp_s1_1101_01; exact allC (nofun) <| allC (nofun) <| allC (nofun) <| allC (nofun) <| allC (nofun) <| allC (nofun) <| allC (nofun) <| allC (nofun) <| allC (nofun) <| allC (fun _ => own_abs1 h0) <| allC (fun _ => own_abs1 h3) <| allN) allN (by unfold tb_s1_1101_01; exact allC (rfl) <| allC (rfl) <| allC (rfl) <| allC (rfl) <| allC (rfl) <| allC (rfl) <| allC (rfl) <| allC (rfl) <| allC (rfl) <| allC (rfl) <| allC (rfl) <| allC (rfl) <| allC (rfl) <| allC (rfl) <| allN) sg_s1_1101_01)
theorem own_lur_s1_1110_00 (m0 m1 m2 : Int32) (h0 : m0 = 1 ∨ m0 = -1) (h1 : m1 = 1 ∨ m1 = -1) (h2 : m2 = 1 ∨ m2 = -1) : LUR (LS 5) [FP.i2d m1, FP.i2d m2, FP.i2d m0, 0] (Int32.toInt m0) (Int32.toInt m1) (Int32.toInt m2) (Int32.toInt 0) := by
  rcases h0 with rfl | rfl <;> rcases h1 with rfl | rfl <;> rcases h2 with rfl | rfl
  all_goals first | exact absurd rfl hd | exact ⟨5, _, _, _, _, rfl, i2d_int _, i2d_int _, i2d_int _, own_z, by decide, by decide, by decide, by decide, (show _ ∧ _ ∧ _ ∧ _ ∧ _ ∧ _ from ⟨by decide, by decide, by decide, by decide, trivial, ⟨rfl, rfl⟩⟩)⟩
theorem own_s1_1110_00 (hw : HWt a0 Z) (p0 e v0 v1 : Int32) (m0 m1 m2 s1 : Int32) (h0 : m0 = 1 ∨ m0 = -1) (h1 : m1 = 1 ∨ m1 = -1) (h2 : m2 = 1 ∨ m2 = -1) (T1 T2 F U V : Gp) : SL l Z (mkA bs (SG p0 e v0 v1 m0 m1 m2 0 0 s1 (LS 5) [FP.i2d m1, FP.i2d m2, FP.i2d m0, 0]) T1 T2 F U V) bs 79 la_2 [] [] 0 0 214 la_3 [] hp_0 68 762 := by
  exact Seg.trans (Seg.same (tab := [(.int 0, .float 18)]) rfl (allC (rfl) <| allN) (by decide +kernel)) (sgL hw mkA_ad ⟨mkA_c, by unfold tp_s1_1110_00; exact allC (te13n (own_nz h0)) <| allC (te13n (own_nz h2)) <| allC (te13n (own_nz h1)) <| allC (te13z rfl) <| allC (te10 rfl) <| allC (te10 rfl) <| allC (te10 rfl) <| allC (te10 rfl) <| allC (te10 rfl) <| allC (te14) <| allC (te14) <| allN⟩ (by unfold tp_s1_1110_00; exact allC (nofun) <| allC (nofun) <| allC (nofun) <| allC (nofun) <| allC (nofun) <| allC (nofun) <| allC (nofun) <| allC (nofun) <| allC (nofun) <| allC (fun _ => own_abs1 h1) <| allC (fun _ => own_abs1 h2) <| allN) allN (by unfold tb_s1_1110_00; exact allC (rfl) <| allC (rfl) <| allC (rfl) <| allC (rfl) <| allC (rfl) <| allC (rfl) <| allC (rfl) <| allC (rfl) <| allC (rfl) <| allC (rfl) <| allC (rfl) <| allC (rfl) <| allC (rfl) <| allC (rfl) <| allN) sg_s1_1110_00)
theorem own_lur_s1_1110_10 (m0 m1 m2 : Int32) (h0 : m0 = 1 ∨ m0 = -1) (h1 : m1 = 1 ∨ m1 = -1) (h2 : m2 = 1 ∨ m2 = -1) : LUR (LS 5) [FP.i2d m1, FP.i2d m2, FP.i2d m0, 0] (Int32.toInt m0) (Int32.toInt m1) (Int32.toInt m2) (Int32.toInt 0) := by
  rcases h0 with rfl | rfl <;> rcases h1 with rfl | rfl <;> rcases h2 with rfl | rfl
  all_goals first | exact absurd rfl hd | exact ⟨5, _, _, _, _, rfl, i2d_int _, i2d_int _, i2d_int _, own_z, by decide, by decide, by decide, by decide, (show _ ∧ _ ∧ _ ∧ _ ∧ _ ∧ _ from ⟨by decide, by decide, by decide, by decide, trivial, ⟨rfl, rfl⟩⟩)⟩
theorem own_s1_1110_10 (hw : HWt a0 Z) (p0 e v0 v1 : Int32) (m0 m1 m2 s1 : Int32) (h0 : m0 = 1 ∨ m0 = -1) (h1 : m1 = 1 ∨ m1 = -1) (h2 : m2 = 1 ∨ m2 = -1) (T1 T2 F U V : Gp) : SL l Z (mkA bs (SG p0 e v0 v1 m0 m1 m2 0 1 s1 (LS 5) [FP.i2d m1, FP.i2d m2, FP.i2d m0, 0]) T1 T2 F U V) bs 79 la_2 [] [] 0 0 214 la_3 [] hp_0 68 762 := by
  exact Seg.trans (Seg.same (tab := [(.int 1, .float 18)]) rfl (allC (rfl) <| allN) (by decide +kernel)) (sgL hw mkA_ad ⟨mkA_c, by unfold tp_s1_1110_10; exact allC (te13n (own_nz h0)) <| allC (te13n (own_nz h2)) <| allC (te13n (own_nz h1)) <| allC (te13z rfl) <| allC (te10 rfl) <| allC (te10 rfl) <| allC (te10 rfl) <| allC (te10 rfl) <| allC (te10 rfl) <| allC (te14) <| allC (te14) <| allN⟩ (by unfold tp_s1_1110_10; exact allC (nofun) <| allC (nofun) <| allC (nofun) <| allC (nofun) <| allC (nofun) <| allC (nofun) <| allC (nofun) <| allC (nofun) <| allC (nofun) <| allC (fun _ => own_abs1 h1) <| allC (fun _ => own_abs1 h2) <| allN) allN (by unfold tb_s1_1110_10; exact allC (rfl) <| allC (rfl) <| allC (rfl) <| allC (rfl) <| allC (rfl) <| allC (rfl) <| allC (rfl) <| allC (rfl) <| allC (rfl) <| allC (rfl) <| allC (rfl) <| allC (rfl) <| allC (rfl) <| allC (rfl) <| allN) sg_s1_1110_10)
theorem own_lur_s1_1111_00 (m0 m1 m2 m3 : Int32) (h0 : m0 = 1 ∨ m0 = -1) (h1 : m1 = 1 ∨ m1 = -1) (h2 : m2 = 1 ∨ m2 = -1) (h3 : m3 = 1 ∨ m3 = -1) (hd : m0 * m3 - m1 * m2 ≠ 0) : LUR (LS 6) [FP.i2d m1, FP.i2d (m2 + ((-(m3 * m1)) * m0)), FP.i2d m0, FP.i2d (m3 * m1), FP.i2d m2, FP.i2d m3, FP.i2d (-(m3 * m1)), FP.i2d ((-(m3 * m1)) * m0)] (Int32.toInt m0) (Int32.toInt m1) (Int32.toInt m2) (Int32.toInt m3) := by
  rcases h0 with rfl | rfl <;> rcases h1 with rfl | rfl <;> rcases h2 with rfl | rfl <;> rcases h3 with rfl | rfl
  all_goals first | exact absurd rfl hd | exact ⟨6, _, _, _, _, rfl, i2d_int _, i2d_int _, i2d_int _, i2d_int _, by decide, by decide, by decide, by decide, (show _ ∧ _ ∧ _ ∧ _ ∧ _ ∧ _ from ⟨by decide, by decide, by decide, by decide, trivial, trivial⟩)⟩
theorem own_s1_1111_00 (hw : HWt a0 Z) (p0 e v0 v1 : Int32) (m0 m1 m2 m3 : Int32) (h0 : m0 = 1 ∨ m0 = -1) (h1 : m1 = 1 ∨ m1 = -1) (h2 : m2 = 1 ∨ m2 = -1) (h3 : m3 = 1 ∨ m3 = -1) (hd : m0 * m3 - m1 * m2 ≠ 0) (T1 T2 F U V : Gp) : SL l Z (mkA bs (SG p0 e v0 v1 m0 m1 m2 m3 0 0 (LS 6) [FP.i2d m1, FP.i2d (m2 + ((-(m3 * m1)) * m0)), FP.i2d m0, FP.i2d (m3 * m1), FP.i2d m2, FP.i2d m3, FP.i2d (-(m3 * m1)), FP.i2d ((-(m3 * m1)) * m0)]) T1 T2 F U V) bs 79 la_2 [] [] 0 0 214 la_3 [] hp_0 68 762 := by
  have hdd : (m2 + ((-(m3 * m1)) * m0)) = 2 ∨ (m2 + ((-(m3 * m1)) * m0)) = -2 := by
    rcases h0 with rfl | rfl <;> rcases h1 with rfl | rfl <;> rcases h2 with rfl | rfl <;> rcases h3 with rfl | rfl <;> first | decide | exact absurd rfl hd
  exact Seg.trans (Seg.same (tab := [(.int 0, .float 18), (.int 0, .float 19)]) rfl (allC (rfl) <| allC (rfl) <| allN) (by decide +kernel)) (sgL hw mkA_ad ⟨mkA_c, by unfold tp_s1_1111_00; exact allC (te13n (own_nz h0)) <| allC (te13n (own_nz h2)) <| allC (te13n (own_nz h1)) <| allC (te13n (own_nz h3)) <| allC (te10 rfl) <| allC (te10 rfl) <| allC (te10 rfl) <| allC (te10 rfl) <| allC (te10 rfl) <| allC (te10 rfl) <| allC (te14) <| allC (te14) <| allC (teI (by decide) (own_div h3 h1) rfl) <| allC (te11 (own_neg (own_pm h3 h1))) <| allC (teI (by decide) (own_mul (own_ng (own_pm h3 h1)) h0) rfl) <| allC (teI (by decide) (own_add h2 (own_pm (own_ng (own_pm h3 h1)) h0)) rfl) <| allC (te14) <| allN⟩ (by unfold tp_s1_1111_00; exact allC (nofun) <| allC (nofun) <| allC (nofun) <| allC (nofun) <| allC (nofun) <| allC (nofun) <| allC (nofun) <| allC (nofun) <| allC (nofun) <| allC (nofun) <| allC (fun _ => own_abs1 h1) <| allC (fun _ => own_abs1 h3) <| allC (nofun) <| allC (nofun) <| allC (nofun) <| allC (nofun) <| allC (fun _ => own_abs2 hdd) <| allN) allN (by unfold tb_s1_1111_00; exact allC (rfl) <| allC (rfl) <| allC (rfl) <| allC (rfl) <| allC (rfl) <| allC (rfl) <| allC (rfl) <| allC (rfl) <| allC (rfl) <| allC (rfl) <| allC (rfl) <| allC (rfl) <| allC (rfl) <| allC (rfl) <| allN) sg_s1_1111_00)
theorem own_lur_s1_1111_01 (m0 m1 m2 m3 : Int32) (h0 : m0 = 1 ∨ m0 = -1) (h1 : m1 = 1 ∨ m1 = -1) (h2 : m2 = 1 ∨ m2 = -1) (h3 : m3 = 1 ∨ m3 = -1) (hd : m0 * m3 - m1 * m2 ≠ 0) : LUR (LS 7) [FP.i2d m3, FP.i2d (m0 + ((-(m1 * m3)) * m2)), FP.i2d m2, FP.i2d (m1 * m3), FP.i2d m0, FP.i2d m1, FP.i2d (-(m1 * m3)), FP.i2d ((-(m1 * m3)) * m2)] (Int32.toInt m0) (Int32.toInt m1) (Int32.toInt m2) (Int32.toInt m3) := by
  rcases h0 with rfl | rfl <;> rcases h1 with rfl | rfl <;> rcases h2 with rfl | rfl <;> rcases h3 with rfl | rfl
  all_goals first | exact absurd rfl hd | exact ⟨7, _, _, _, _, rfl, i2d_int _, i2d_int _, i2d_int _, i2d_int _, by decide, by decide, by decide, by decide, (show _ ∧ _ ∧ _ ∧ _ ∧ _ ∧ _ from ⟨by decide, by decide, by decide, by decide, trivial, trivial⟩)⟩
theorem own_s1_1111_01 (hw : HWt a0 Z) (p0 e v0 v1 : Int32) (m0 m1 m2 m3 : Int32) (h0 : m0 = 1 ∨ m0 = -1) (h1 : m1 = 1 ∨ m1 = -1) (h2 : m2 = 1 ∨ m2 = -1) (h3 : m3 = 1 ∨ m3 = -1) (hd : m0 * m3 - m1 * m2 ≠ 0) (T1 T2 F U V : Gp) : SL l Z (mkA bs (SG p0 e v0 v1 m0 m1 m2 m3 0 1 (LS 7) [FP.i2d m3, FP.i2d (m0 + ((-(m1 * m3)) * m2)), FP.i2d m2, FP.i2d (m1 * m3), FP.i2d m0, FP.i2d m1, FP.i2d (-(m1 * m3)), FP.i2d ((-(m1 * m3)) * m2)]) T1 T2 F U V) bs 79 la_2 [] [] 0 0 214 la_3 [] hp_0 68 762 := by
  have hdd : (m0 + ((-(m1 * m3)) * m2)) = 2 ∨ (m0 + ((-(m1 * m3)) * m2)) = -2 := by
    rcases h0 with rfl | rfl <;> rcases h1 with rfl | rfl <;> rcases h2 with rfl | rfl <;> rcases h3 with rfl | rfl <;> first | decide | exact absurd rfl hd
  exact Seg.trans (Seg.same (tab := [(.int 0, .float 18), (.int 1, .float 19)]) rfl (allC (rfl) <| allC (rfl) <| allN) (by decide +kernel)) (sgL hw mkA_ad ⟨mkA_c, by unfold tp_s1_1111_01; exact allC (te13n (own_nz h0)) <| allC (te13n (own_nz h2)) <| allC (te13n (own_nz h1)) <| allC (te13n (own_nz h3)) <| allC (te10 rfl) <| allC (te10 rfl) <| allC (te10 rfl) <| allC (te10 rfl) <| allC (te10 rfl) <| allC (te10 rfl) <| allC (te14) <| allC (te14) <| allC (teI (by decide) (own_div h1 h3) rfl) <| allC (te11 (own_neg (own_pm h1 h3))) <| allC (teI (by decide) (own_mul (own_ng (own_pm h1 h3)) h2) rfl) <| allC (teI (by decide) (own_add h0 (own_pm (own_ng (own_pm h1 h3)) h2)) rfl) <| allC (te14) <| allN⟩ (by unfold tp_s1_1111_01; exact allC (nofun) <| allC (nofun) <| allC (nofun) <| allC (nofun) <| allC (nofun) <| allC (nofun) <| allC (nofun) <| allC (nofun) <| allC (nofun) <| allC (nofun) <| allC (fun _ => own_abs1 h3) <| allC (fun _ => own_abs1 h1) <| allC (nofun) <| allC (nofun) <| allC (nofun) <| allC (nofun) <| allC (fun _ => own_abs2 hdd) <| allN) allN (by unfold tb_s1_1111_01; exact allC (rfl) <| allC (rfl) <| allC (rfl) <| allC (rfl) <| allC (rfl) <| allC (rfl) <| allC (rfl) <| allC (rfl) <| allC (rfl) <| allC (rfl) <| allC (rfl) <| allC (rfl) <| allC (rfl) <| allC (rfl) <| allN) sg_s1_1111_01)
theorem own_lur_s1_1111_10 (m0 m1 m2 m3 : Int32) (h0 : m0 = 1 ∨ m0 = -1) (h1 : m1 = 1 ∨ m1 = -1) (h2 : m2 = 1 ∨ m2 = -1) (h3 : m3 = 1 ∨ m3 = -1) (hd : m0 * m3 - m1 * m2 ≠ 0) : LUR (LS 6) [FP.i2d m1, FP.i2d (m2 + ((-(m3 * m1)) * m0)), FP.i2d m0, FP.i2d (m3 * m1), FP.i2d m2, FP.i2d m3, FP.i2d (-(m3 * m1)), FP.i2d ((-(m3 * m1)) * m0)] (Int32.toInt m0) (Int32.toInt m1) (Int32.toInt m2) (Int32.toInt m3) := by
  rcases h0 with rfl | rfl <;> rcases h1 with rfl | rfl <;> rcases h2 with rfl | rfl <;> rcases h3 with rfl | rfl
  all_goals first | exact absurd rfl hd | exact ⟨6, _, _, _, _, rfl, i2d_int _, i2d_int _, i2d_int _, i2d_int _, by decide, by decide, by decide, by decide, (show _ ∧ _ ∧ _ ∧ _ ∧ _ ∧ _ from ⟨by decide, by decide, by decide, by decide, trivial, trivial⟩)⟩
theorem own_s1_1111_10 (hw : HWt a0 Z) (p0 e v0 v1 : Int32) (m0 m1 m2 m3 : Int32) (h0 : m0 = 1 ∨ m0 = -1) (h1 : m1 = 1 ∨ m1 = -1) (h2 : m2 = 1 ∨ m2 = -1) (h3 : m3 = 1 ∨ m3 = -1) (hd : m0 * m3 - m1 * m2 ≠ 0) (T1 T2 F U V : Gp) : SL l Z (mkA bs (SG p0 e v0 v1 m0 m1 m2 m3 1 0 (LS 6) [FP.i2d m1, FP.i2d (m2 + ((-(m3 * m1)) * m0)), FP.i2d m0, FP.i2d (m3 * m1), FP.i2d m2, FP.i2d m3, FP.i2d (-(m3 * m1)), FP.i2d ((-(m3 * m1)) * m0)]) T1 T2 F U V) bs 79 la_2 [] [] 0 0 214 la_3 [] hp_0 68 762 := by
  have hdd : (m2 + ((-(m3 * m1)) * m0)) = 2 ∨ (m2 + ((-(m3 * m1)) * m0)) = -2 := by
    rcases h0 with rfl | rfl <;> rcases h1 with rfl | rfl <;> rcases h2 with rfl | rfl <;> rcases h3 with rfl | rfl <;> first | decide | exact absurd rfl hd
  exact Seg.trans (Seg.same (tab := [(.int 1, .float 18), (.int 0, .float 19)]) rfl (allC (rfl) <| allC (rfl) <| allN) (by decide +kernel)) (sgL hw mkA_ad ⟨mkA_c, by unfold tp_s1_1111_10; exact allC (te13n (own_nz h0)) <| allC (te13n (own_nz h2)) <| allC (te13n (own_nz h1)) <| allC (te13n (own_nz h3)) <| allC (te10 rfl) <| allC (te10 rfl) <| allC (te10 rfl) <| allC (te10 rfl) <| allC (te10 rfl) <| allC (te10 rfl) <| allC (te14) <| allC (te14) <| allC (teI (by decide) (own_div h3 h1) rfl) <| allC (te11 (own_neg (own_pm h3 h1))) <| allC (teI (by decide) (own_mul (own_ng (own_pm h3 h1)) h0) rfl) <| allC (teI (by decide) (own_add h2 (own_pm (own_ng (own_pm h3 h1)) h0)) rfl) <| allC (te14) <| allN⟩ (by unfold tp_s1_1111_10; exact allC (nofun) <| allC (nofun) <| allC (nofun) <| allC (nofun) <| allC (nofun) <| allC (nofun) <| allC (nofun) <| allC (nofun) <| allC (nofun) <| allC (nofun) <| allC (fun _ => own_abs1 h1) <| allC (fun _ => own_abs1 h3) <| allC (nofun) <| allC (nofun) <| allC (nofun) <| allC (nofun) <| allC (fun _ => own_abs2 hdd) <| allN) allN (by unfold tb_s1_1111_10; exact allC (rfl) <| allC (rfl) <| allC (rfl) <| allC (rfl) <| allC (rfl) <| allC (rfl) <| allC (rfl) <| allC (rfl) <| allC (rfl) <| allC (rfl) <| allC (rfl) <| allC (rfl) <| allC (rfl) <| allC (rfl) <| allN) sg_s1_1111_10)
theorem own_lur_s1_1111_11 (m0 m1 m2 m3 : Int32) (h0 : m0 = 1 ∨ m0 = -1) (h1 : m1 = 1 ∨ m1 = -1) (h2 : m2 = 1 ∨ m2 = -1) (h3 : m3 = 1 ∨ m3 = -1) (hd : m0 * m3 - m1 * m2 ≠ 0) : LUR (LS 7) [FP.i2d m3, FP.i2d (m0 + ((-(m1 * m3)) * m2)), FP.i2d m2, FP.i2d (m1 * m3), FP.i2d m0, FP.i2d m1, FP.i2d (-(m1 * m3)), FP.i2d ((-(m1 * m3)) * m2)] (Int32.toInt m0) (Int32.toInt m1) (Int32.toInt m2) (Int32.toInt m3) := by
  rcases h0 with rfl | rfl <;> rcases h1 with rfl | rfl <;> rcases h2 with rfl | rfl <;> rcases h3 with rfl | rfl
  all_goals first | exact absurd rfl hd | exact ⟨7, _, _, _, _, rfl, i2d_int _, i2d_int _, i2d_int _, i2d_int _, by decide, by decide, by decide, by decide, (show _ ∧ _ ∧ _ ∧ _ ∧ _ ∧ _ from ⟨by decide, by decide, by decide, by decide, trivial, trivial⟩)⟩
theorem own_s1_1111_11 (hw : HWt a0 Z) (p0 e v0 v1 : Int32) (m0 m1 m2 m3 : Int32) (h0 : m0 = 1 ∨ m0 = -1) (h1 : m1 = 1 ∨ m1 = -1) (h2 : m2 = 1 ∨ m2 = -1) (h3 : m3 = 1 ∨ m3 = -1) (hd : m0 * m3 - m1 * m2 ≠ 0) (T1 T2 F U V : Gp) : SL l Z (mkA bs (SG p0 e v0 v1 m0 m1 m2 m3 1 1 (LS 7) [FP.i2d m3, FP.i2d (m0 + ((-(m1 * m3)) * m2)), FP.i2d m2, FP.i2d (m1 * m3), FP.i2d m0, FP.i2d m1, FP.i2d (-(m1 * m3)), FP.i2d ((-(m1 * m3)) * m2)]) T1 T2 F U V) bs 79 la_2 [] [] 0 0 214 la_3 [] hp_0 68 762 := by
  have hdd : (m0 + ((-(m1 * m3)) * m2)) = 2 ∨ (m0 + ((-(m1 * m3)) * m2)) = -2 := by
    rcases h0 with rfl | rfl <;> rcases h1 with rfl | rfl <;> rcases h2 with rfl | rfl <;> rcases h3 with rfl | rfl <;> first | decide | exact absurd rfl hd
  exact Seg.trans (Seg.same (tab := [(.int 1, .float 18), (.int 1, .float 19)]) rfl (allC (rfl) <| allC (rfl) <| allN) (by decide +kernel)) (sgL hw mkA_ad ⟨mkA_c, by unfold tp_s1_1111_11; exact allC (te13n (own_nz h0)) <| allC (te13n (own_nz h2)) <| allC (te13n (own_nz h1)) <| allC (te13n (own_nz h3)) <| allC (te10 rfl) <| allC (te10 rfl) <| allC (te10 rfl) <| allC (te10 rfl) <| allC (te10 rfl) <| allC (te10 rfl) <| allC (te14) <| allC (te14) <| allC (teI (by decide) (own_div h1 h3) rfl) <| allC (te11 (own_neg (own_pm h1 h3))) <| allC (teI (by decide) (own_mul (own_ng (own_pm h1 h3)) h2) rfl) <| allC (teI (by decide) (own_add h0 (own_pm (own_ng (own_pm h1 h3)) h2)) rfl) <| allC (te14) <| allN⟩ (by unfold tp_s1_1111_11; exact allC (nofun) <| allC (nofun) <| allC (nofun) <| allC (nofun) <| allC (nofun) <| allC (nofun) <| allC (nofun) <| allC (nofun) <| allC (nofun) <| allC (nofun) <| allC (fun _ => own_abs1 h3) <| allC (fun _ => own_abs1 h1) <| allC (nofun) <| allC (nofun) <| allC (nofun) <| allC (nofun) <| allC (fun _ => own_abs2 hdd) <| allN) allN (by unfold tb_s1_1111_11; exact allC (rfl) <| allC (rfl) <| allC (rfl) <| allC (rfl) <| allC (rfl) <| allC (rfl) <| allC (rfl) <| allC (rfl) <| allC (rfl) <| allC (rfl) <| allC (rfl) <| allC (rfl) <| allC (rfl) <| allC (rfl) <| allN) sg_s1_1111_11)
theorem own_s1 (hw : HWt a0 Z) (p0 e v0 v1 : Int32) (m0 m1 m2 m3 s0 s1 : Int32) (h0 : m0 = 0 ∨ m0 = 1 ∨ m0 = -1) (h1 : m1 = 0 ∨ m1 = 1 ∨ m1 = -1) (h2 : m2 = 0 ∨ m2 = 1 ∨ m2 = -1) (h3 : m3 = 0 ∨ m3 = 1 ∨ m3 = -1) (hd : m0 * m3 - m1 * m2 ≠ 0) (hs0 : s0 = 0 ∨ s0 = 1) (hs1 : s1 = 0 ∨ s1 = 1) : ∃ lu ds, LUR lu ds m0.toInt m1.toInt m2.toInt m3.toInt ∧ ∀ T1 T2 F U V, SL l Z (mkA bs (SG p0 e v0 v1 m0 m1 m2 m3 s0 s1 lu ds) T1 T2 F U V) bs 79 la_2 [] [] 0 0 214 la_3 [] hp_0 68 762 := by
  rcases h0 with rfl | h0 <;> rcases h1 with rfl | h1 <;> rcases h2 with rfl | h2 <;> rcases h3 with rfl | h3
  · exact absurd (by simp) hd
  · exact absurd (by simp) hd
  · exact absurd (by simp) hd
  · exact absurd (by simp) hd
  · exact absurd (by simp) hd
  · exact absurd (by simp) hd
  · exact ⟨_, _, own_lur_s1_0110_00 m1 m2 h1 h2, own_s1_0110_00 hw p0 e v0 v1 m1 m2 s0 s1 h1 h2⟩
  · rcases hs1 with rfl | rfl
    · exact ⟨_, _, own_lur_s1_0111_00 m1 m2 m3 h1 h2 h3, own_s1_0111_00 hw p0 e v0 v1 m1 m2 m3 s0 h1 h2 h3⟩
    · exact ⟨_, _, own_lur_s1_0111_01 m1 m2 m3 h1 h2 h3, own_s1_0111_01 hw p0 e v0 v1 m1 m2 m3 s0 h1 h2 h3⟩
  · exact absurd (by simp) hd
  · exact ⟨_, _, own_lur_s1_1001_00 m0 m3 h0 h3, own_s1_1001_00 hw p0 e v0 v1 m0 m3 s0 s1 h0 h3⟩
  · exact absurd (by simp) hd
  · rcases hs0 with rfl | rfl
    · exact ⟨_, _, own_lur_s1_1011_00 m0 m2 m3 h0 h2 h3, own_s1_1011_00 hw p0 e v0 v1 m0 m2 m3 s1 h0 h2 h3⟩
    · exact ⟨_, _, own_lur_s1_1011_10 m0 m2 m3 h0 h2 h3, own_s1_1011_10 hw p0 e v0 v1 m0 m2 m3 s1 h0 h2 h3⟩
  · exact absurd (by simp) hd
  · rcases hs1 with rfl | rfl
    · exact ⟨_, _, own_lur_s1_1101_00 m0 m1 m3 h0 h1 h3, own_s1_1101_00 hw p0 e v0 v1 m0 m1 m3 s0 h0 h1 h3⟩
    · exact ⟨_, _, own_lur_s1_1101_01 m0 m1 m3 h0 h1 h3, own_s1_1101_01 hw p0 e v0 v1 m0 m1 m3 s0 h0 h1 h3⟩
  · rcases hs0 with rfl | rfl
    · exact ⟨_, _, own_lur_s1_1110_00 m0 m1 m2 h0 h1 h2, own_s1_1110_00 hw p0 e v0 v1 m0 m1 m2 s1 h0 h1 h2⟩
    · exact ⟨_, _, own_lur_s1_1110_10 m0 m1 m2 h0 h1 h2, own_s1_1110_10 hw p0 e v0 v1 m0 m1 m2 s1 h0 h1 h2⟩
  · rcases hs0 with rfl | rfl <;> rcases hs1 with rfl | rfl
    · exact ⟨_, _, own_lur_s1_1111_00 m0 m1 m2 m3 h0 h1 h2 h3 hd, own_s1_1111_00 hw p0 e v0 v1 m0 m1 m2 m3 h0 h1 h2 h3 hd⟩
    · exact ⟨_, _, own_lur_s1_1111_01 m0 m1 m2 m3 h0 h1 h2 h3 hd, own_s1_1111_01 hw p0 e v0 v1 m0 m1 m2 m3 h0 h1 h2 h3 hd⟩
    · exact ⟨_, _, own_lur_s1_1111_10 m0 m1 m2 m3 h0 h1 h2 h3 hd, own_s1_1111_10 hw p0 e v0 v1 m0 m1 m2 m3 h0 h1 h2 h3 hd⟩
    · exact ⟨_, _, own_lur_s1_1111_11 m0 m1 m2 m3 h0 h1 h2 h3 hd, own_s1_1111_11 hw p0 e v0 v1 m0 m1 m2 m3 h0 h1 h2 h3 hd⟩
def T1G (n c m0 m1 m2 m3 s0 s1 o a0 a1 a2 a3 ps oi : Int32) (od pd : UInt64) : Gp := ([n, c, iop 24 c 1, iop 23 (iop 24 c 1) 1, iop 24 c 2, o, m0 * s0, m1 * s1, m0 * s0 + m1 * s1, m2 * s0, m3 * s1, m2 * s0 + m3 * s1, a0, a1, a2, a3, ps, oi], [od, pd])
def T2G (c m0 m1 m2 m3 s0 s1 o ps oi : Int32) (od pd : UInt64) : Gp := ([c, iop 24 c 1, iop 23 (iop 24 c 1) 1, iop 24 c 2, o, m0 * s0, m1 * s1, m0 * s0 + m1 * s1, m2 * s0, m3 * s1, m2 * s0 + m3 * s1, ps, oi], [od, pd])
def G2b (z : Bool) : AH := if z then hp_4 else hp_2
def GA1b (z : Bool) : AH := if z then hp_5 else hp_3
def GA2b (y z : Bool) : AH := if y then (if z then hp_9 else hp_7) else (if z then hp_8 else hp_6)
theorem own_na_0 (hw : HWt a0 Z) (p0 e v0 v1 m0 m1 m2 m3 s0 s1 : Int32) (lu : List Int32) (ds : List UInt64) (ti : List Int32) (td : List UInt64) (T2 F U V : Gp) (hn : iop 23 e 3 = 0) : SL l Z (mkA bs (SG p0 e v0 v1 m0 m1 m2 m3 s0 s1 lu ds) (0 :: ti, td) T2 F U V) bs 214 la_3 [] hp_0 68 762 237 la_12 [] hp_0 68 762 :=
  sgL hw mkA_ad ⟨mkA_c, allN⟩ (taN (by decide)) (by unfold tq_na_0; exact allC (tqc rfl hn.symm) <| allN) (by unfold tb_na_0; exact allC (rfl) <| allN) sg_na_0
theorem own_na_1 (hw : HWt a0 Z) (p0 e v0 v1 m0 m1 m2 m3 s0 s1 : Int32) (lu : List Int32) (ds : List UInt64) (ti : List Int32) (td : List UInt64) (T2 F U V : Gp) (hn : iop 23 e 3 = 1) : SL l Z (mkA bs (SG p0 e v0 v1 m0 m1 m2 m3 s0 s1 lu ds) (1 :: ti, td) T2 F U V) bs 214 la_3 [] hp_0 68 762 225 la_12 [] hp_0 68 762 :=
  sgL hw mkA_ad ⟨mkA_c, allN⟩ (taN (by decide)) (by unfold tq_na_1; exact allC (tqc rfl hn.symm) <| allN) (by unfold tb_na_1; exact allC (rfl) <| allN) sg_na_1
theorem own_na_2 (hw : HWt a0 Z) (p0 e v0 v1 m0 m1 m2 m3 s0 s1 : Int32) (lu : List Int32) (ds : List UInt64) (ti : List Int32) (td : List UInt64) (T2 F U V : Gp) (hn : iop 23 e 3 = 2) : SL l Z (mkA bs (SG p0 e v0 v1 m0 m1 m2 m3 s0 s1 lu ds) (2 :: ti, td) T2 F U V) bs 214 la_3 [] hp_0 68 762 225 la_12 [] hp_0 68 762 :=
  sgL hw mkA_ad ⟨mkA_c, allN⟩ (taN (by decide)) (by unfold tq_na_2; exact allC (tqc rfl hn.symm) <| allN) (by unfold tb_na_2; exact allC (rfl) <| allN) sg_na_2
theorem own_na_3 (hw : HWt a0 Z) (p0 e v0 v1 m0 m1 m2 m3 s0 s1 : Int32) (lu : List Int32) (ds : List UInt64) (ti : List Int32) (td : List UInt64) (T2 F U V : Gp) (hn : iop 23 e 3 = 3) : SL l Z (mkA bs (SG p0 e v0 v1 m0 m1 m2 m3 s0 s1 lu ds) (3 :: ti, td) T2 F U V) bs 214 la_3 [] hp_0 68 762 225 la_12 [] hp_0 68 762 :=
  sgL hw mkA_ad ⟨mkA_c, allN⟩ (taN (by decide)) (by unfold tq_na_3; exact allC (tqc rfl hn.symm) <| allN) (by unfold tb_na_3; exact allC (rfl) <| allN) sg_na_3
theorem own_nb_0 (hw : HWt a0 Z) (p0 e v0 v1 m0 m1 m2 m3 s0 s1 : Int32) (lu : List Int32) (ds : List UInt64) (ti fi : List Int32) (td fd : List UInt64) (T2 U V : Gp) : SL l Z (mkA bs (SG p0 e v0 v1 m0 m1 m2 m3 s0 s1 lu ds) (0 :: ti, td) T2 (m0 :: m1 :: m2 :: m3 :: fi, fd) U V) bs 237 la_12 [] hp_0 68 762 256 la_12 [] hp_1 68 762 :=
  Seg.trans (Seg.same (tab := [(.int 0, .float 32)]) rfl (allC (rfl) <| allN) (by decide +kernel)) (sgL hw mkA_ad ⟨mkA_c, allN⟩ (taN (by decide)) allN (by unfold tb_nb_0; exact allC (rfl) <| allC (tbf (m0) rfl rfl) <| allC (tbf (m1) rfl rfl) <| allC (tbf (m2) rfl rfl) <| allC (tbf (m3) rfl rfl) <| allN) sg_nb_0)
theorem own_nb_1_0 (hw : HWt a0 Z) (p0 e v0 v1 m0 m1 m2 m3 s0 s1 : Int32) (lu : List Int32) (ds : List UInt64) (c k0 k1 k2 k3 t0 t1 oo a0 a1 a2 a3 ps oi : Int32) (od pd : UInt64) (fi : List Int32) (fd : List UInt64) (T2 U V : Gp) : SL l Z (mkA bs (SG p0 e v0 v1 m0 m1 m2 m3 s0 s1 lu ds) (T1G 1 c k0 k1 k2 k3 t0 t1 oo a0 a1 a2 a3 ps oi od pd) T2 (a0 :: a1 :: a2 :: a3 :: fi, fd) U V) bs 237 la_12 [] hp_2 68 762 256 la_12 [] hp_3 68 762 :=
  Seg.trans (Seg.same (tab := [(.int 1, .float 32)]) rfl (allC (rfl) <| allN) (by decide +kernel)) (sgL hw mkA_ad ⟨mkA_c, allN⟩ (taN (by decide)) allN (by unfold tb_nb_1_0; exact allC (rfl) <| allC (tbf (a0) rfl rfl) <| allC (tbf (a1) rfl rfl) <| allC (tbf (a2) rfl rfl) <| allC (tbf (a3) rfl rfl) <| allN) sg_nb_1_0)
theorem own_nb_1_1 (hw : HWt a0 Z) (p0 e v0 v1 m0 m1 m2 m3 s0 s1 : Int32) (lu : List Int32) (ds : List UInt64) (c k0 k1 k2 k3 t0 t1 oo a0 a1 a2 a3 ps oi : Int32) (od pd : UInt64) (fi : List Int32) (fd : List UInt64) (T2 U V : Gp) : SL l Z (mkA bs (SG p0 e v0 v1 m0 m1 m2 m3 s0 s1 lu ds) (T1G 1 c k0 k1 k2 k3 t0 t1 oo a0 a1 a2 a3 ps oi od pd) T2 (a0 :: a1 :: a2 :: a3 :: fi, fd) U V) bs 237 la_12 [] hp_4 68 762 256 la_12 [] hp_5 68 762 :=
  Seg.trans (Seg.same (tab := [(.int 1, .float 32)]) rfl (allC (rfl) <| allN) (by decide +kernel)) (sgL hw mkA_ad ⟨mkA_c, allN⟩ (taN (by decide)) allN (by unfold tb_nb_1_1; exact allC (rfl) <| allC (tbf (a0) rfl rfl) <| allC (tbf (a1) rfl rfl) <| allC (tbf (a2) rfl rfl) <| allC (tbf (a3) rfl rfl) <| allN) sg_nb_1_1)
theorem own_nb_2_0 (hw : HWt a0 Z) (p0 e v0 v1 m0 m1 m2 m3 s0 s1 : Int32) (lu : List Int32) (ds : List UInt64) (c k0 k1 k2 k3 t0 t1 oo a0 a1 a2 a3 ps oi : Int32) (od pd : UInt64) (T2 F U V : Gp) : SL l Z (mkA bs (SG p0 e v0 v1 m0 m1 m2 m3 s0 s1 lu ds) (T1G 2 c k0 k1 k2 k3 t0 t1 oo a0 a1 a2 a3 ps oi od pd) T2 F U V) bs 237 la_12 [] hp_2 68 762 243 la_12 [] hp_2 68 762 :=
  Seg.trans (Seg.same (tab := [(.int 2, .float 32)]) rfl (allC (rfl) <| allN) (by decide +kernel)) (sgL hw mkA_ad ⟨mkA_c, allN⟩ (taN (by decide)) allN (by unfold tb_nb_2_0; exact allC (rfl) <| allN) sg_nb_2_0)
theorem own_nb_2_1 (hw : HWt a0 Z) (p0 e v0 v1 m0 m1 m2 m3 s0 s1 : Int32) (lu : List Int32) (ds : List UInt64) (c k0 k1 k2 k3 t0 t1 oo a0 a1 a2 a3 ps oi : Int32) (od pd : UInt64) (T2 F U V : Gp) : SL l Z (mkA bs (SG p0 e v0 v1 m0 m1 m2 m3 s0 s1 lu ds) (T1G 2 c k0 k1 k2 k3 t0 t1 oo a0 a1 a2 a3 ps oi od pd) T2 F U V) bs 237 la_12 [] hp_4 68 762 243 la_12 [] hp_4 68 762 :=
  Seg.trans (Seg.same (tab := [(.int 2, .float 32)]) rfl (allC (rfl) <| allN) (by decide +kernel)) (sgL hw mkA_ad ⟨mkA_c, allN⟩ (taN (by decide)) allN (by unfold tb_nb_2_1; exact allC (rfl) <| allN) sg_nb_2_1)
theorem own_nb_3_0 (hw : HWt a0 Z) (p0 e v0 v1 m0 m1 m2 m3 s0 s1 : Int32) (lu : List Int32) (ds : List UInt64) (c k0 k1 k2 k3 t0 t1 oo a0 a1 a2 a3 ps oi : Int32) (od pd : UInt64) (T2 F U V : Gp) : SL l Z (mkA bs (SG p0 e v0 v1 m0 m1 m2 m3 s0 s1 lu ds) (T1G 3 c k0 k1 k2 k3 t0 t1 oo a0 a1 a2 a3 ps oi od pd) T2 F U V) bs 237 la_12 [] hp_2 68 762 243 la_12 [] hp_2 68 762 :=
  Seg.trans (Seg.same (tab := [(.int 3, .float 32)]) rfl (allC (rfl) <| allN) (by decide +kernel)) (sgL hw mkA_ad ⟨mkA_c, allN⟩ (taN (by decide)) allN (by unfold tb_nb_3_0; exact allC (rfl) <| allN) sg_nb_3_0)
theorem own_nb_3_1 (hw : HWt a0 Z) (p0 e v0 v1 m0 m1 m2 m3 s0 s1 : Int32) (lu : List Int32) (ds : List UInt64) (c k0 k1 k2 k3 t0 t1 oo a0 a1 a2 a3 ps oi : Int32) (od pd : UInt64) (T2 F U V : Gp) : SL l Z (mkA bs (SG p0 e v0 v1 m0 m1 m2 m3 s0 s1 lu ds) (T1G 3 c k0 k1 k2 k3 t0 t1 oo a0 a1 a2 a3 ps oi od pd) T2 F U V) bs 237 la_12 [] hp_4 68 762 243 la_12 [] hp_4 68 762 :=
  Seg.trans (Seg.same (tab := [(.int 3, .float 32)]) rfl (allC (rfl) <| allN) (by decide +kernel)) (sgL hw mkA_ad ⟨mkA_c, allN⟩ (taN (by decide)) allN (by unfold tb_nb_3_1; exact allC (rfl) <| allN) sg_nb_3_1)
theorem own_ca_000 (hw : HWt a0 Z) (p0 e v0 v1 m0 m1 m2 m3 s0 s1 : Int32) (lu : List Int32) (ds : List UInt64) (n : Int32) (T2 F U V : Gp) (hp : iop 23 (iop 24 e 2) 1 = 0) (hv : iop 23 (iop 24 (iop 24 e 2) 1) 1 = 0) (hz : entW (iop 24 (iop 24 e 2) 2) = 1 ∨ entW (iop 24 (iop 24 e 2) 2) = -1) : SL l Z (mkA bs (SG p0 e v0 v1 m0 m1 m2 m3 s0 s1 lu ds) (T1G n (iop 24 e 2) m0 m1 m2 m3 1 (entW (iop 24 (iop 24 e 2) 2)) (entW (iop 24 (iop 24 e 2) 2)) (m0 * 1 + m1 * (entW (iop 24 (iop 24 e 2) 2))) m1 (m2 * 1 + m3 * (entW (iop 24 (iop 24 e 2) 2))) m3 0 1 (FP.i2d (entW (iop 24 (iop 24 e 2) 2))) 4607182418800017408) T2 F U V) bs 225 la_12 [] hp_0 68 762 237 la_12 [] hp_2 68 762 :=
  sgL hw mkA_ad ⟨mkA_c, by unfold tp_ca_000; exact allC (te13z hv) <| allC (te10 rfl) <| allC (te14) <| allN⟩ (by unfold tp_ca_000; exact allC (nofun) <| allC (nofun) <| allC (fun _ => own_abs1 hz) <| allN) (by unfold tq_ca_000; exact allC (tqc rfl rfl) <| allC (tqc rfl hp.symm) <| allC (tqc rfl rfl) <| allC (tqc rfl rfl) <| allC (tqc rfl rfl) <| allC (tqc rfl rfl) <| allC (tqc rfl rfl) <| allC (tqc rfl rfl) <| allC (tqc rfl rfl) <| allC (tqc rfl rfl) <| allC (tqc rfl rfl) <| allC (tqc rfl rfl) <| allN) (by unfold tb_ca_000; exact allC (rfl) <| allC (tbf ((m0 * 1 + m1 * (entW (iop 24 (iop 24 e 2) 2)))) rfl rfl) <| allC (tbf (m1) rfl rfl) <| allC (tbf ((m2 * 1 + m3 * (entW (iop 24 (iop 24 e 2) 2)))) rfl rfl) <| allC (tbf (m3) rfl rfl) <| allC (rfl) <| allC (rfl) <| allN) sg_ca_000
theorem own_cb_0_000 (hw : HWt a0 Z) (p0 e v0 v1 m0 m1 m2 m3 s0 s1 : Int32) (lu : List Int32) (ds : List UInt64) (n c k0 k1 k2 k3 t0 t1 oo b0 b1 b2 b3 ps oi : Int32) (od pd : UInt64) (fi : List Int32) (fd : List UInt64) (U V : Gp) (hp : iop 23 (iop 24 e 6) 1 = 0) (hv : iop 23 (iop 24 (iop 24 e 6) 1) 1 = 0) (hz : entW (iop 24 (iop 24 e 6) 2) = 1 ∨ entW (iop 24 (iop 24 e 6) 2) = -1) : SL l Z (mkA bs (SG p0 e v0 v1 m0 m1 m2 m3 s0 s1 lu ds) (T1G n c k0 k1 k2 k3 t0 t1 oo b0 b1 b2 b3 ps oi od pd) (T2G (iop 24 e 6) b0 b1 b2 b3 1 (entW (iop 24 (iop 24 e 6) 2)) (entW (iop 24 (iop 24 e 6) 2)) 0 1 (FP.i2d (entW (iop 24 (iop 24 e 6) 2))) 4607182418800017408) ((b0 * 1 + b1 * (entW (iop 24 (iop 24 e 6) 2))) :: b1 :: (b2 * 1 + b3 * (entW (iop 24 (iop 24 e 6) 2))) :: b3 :: fi, fd) U V) bs 243 la_12 [] hp_2 68 762 256 la_12 [] hp_6 68 762 :=
  sgL hw mkA_ad ⟨mkA_c, by unfold tp_cb_0_000; exact allC (te13z hv) <| allC (te10 rfl) <| allC (te14) <| allN⟩ (by unfold tp_cb_0_000; exact allC (nofun) <| allC (nofun) <| allC (fun _ => own_abs1 hz) <| allN) (by unfold tq_cb_0_000; exact allC (tqc rfl rfl) <| allC (tqc rfl hp.symm) <| allC (tqc rfl rfl) <| allC (tqc rfl rfl) <| allC (tqc rfl rfl) <| allC (tqc rfl rfl) <| allC (tqc rfl rfl) <| allC (tqc rfl rfl) <| allC (tqc rfl rfl) <| allC (tqc rfl rfl) <| allC (tqc rfl rfl) <| allC (tqc rfl rfl) <| allN) (by unfold tb_cb_0_000; exact allC (rfl) <| allC (rfl) <| allC (rfl) <| allC (tbf ((b0 * 1 + b1 * (entW (iop 24 (iop 24 e 6) 2)))) rfl rfl) <| allC (tbf (b1) rfl rfl) <| allC (tbf ((b2 * 1 + b3 * (entW (iop 24 (iop 24 e 6) 2)))) rfl rfl) <| allC (tbf (b3) rfl rfl) <| allN) sg_cb_0_000
theorem own_cb_1_000 (hw : HWt a0 Z) (p0 e v0 v1 m0 m1 m2 m3 s0 s1 : Int32) (lu : List Int32) (ds : List UInt64) (n c k0 k1 k2 k3 t0 t1 oo b0 b1 b2 b3 ps oi : Int32) (od pd : UInt64) (fi : List Int32) (fd : List UInt64) (U V : Gp) (hp : iop 23 (iop 24 e 6) 1 = 0) (hv : iop 23 (iop 24 (iop 24 e 6) 1) 1 = 0) (hz : entW (iop 24 (iop 24 e 6) 2) = 1 ∨ entW (iop 24 (iop 24 e 6) 2) = -1) : SL l Z (mkA bs (SG p0 e v0 v1 m0 m1 m2 m3 s0 s1 lu ds) (T1G n c k0 k1 k2 k3 t0 t1 oo b0 b1 b2 b3 ps oi od pd) (T2G (iop 24 e 6) b0 b1 b2 b3 1 (entW (iop 24 (iop 24 e 6) 2)) (entW (iop 24 (iop 24 e 6) 2)) 0 1 (FP.i2d (entW (iop 24 (iop 24 e 6) 2))) 4607182418800017408) ((b0 * 1 + b1 * (entW (iop 24 (iop 24 e 6) 2))) :: b1 :: (b2 * 1 + b3 * (entW (iop 24 (iop 24 e 6) 2))) :: b3 :: fi, fd) U V) bs 243 la_12 [] hp_4 68 762 256 la_12 [] hp_7 68 762 :=
  sgL hw mkA_ad ⟨mkA_c, by unfold tp_cb_1_000; exact allC (te13z hv) <| allC (te10 rfl) <| allC (te14) <| allN⟩ (by unfold tp_cb_1_000; exact allC (nofun) <| allC (nofun) <| allC (fun _ => own_abs1 hz) <| allN) (by unfold tq_cb_1_000; exact allC (tqc rfl rfl) <| allC (tqc rfl hp.symm) <| allC (tqc rfl rfl) <| allC (tqc rfl rfl) <| allC (tqc rfl rfl) <| allC (tqc rfl rfl) <| allC (tqc rfl rfl) <| allC (tqc rfl rfl) <| allC (tqc rfl rfl) <| allC (tqc rfl rfl) <| allC (tqc rfl rfl) <| allC (tqc rfl rfl) <| allN) (by unfold tb_cb_1_000; exact allC (rfl) <| allC (rfl) <| allC (rfl) <| allC (tbf ((b0 * 1 + b1 * (entW (iop 24 (iop 24 e 6) 2)))) rfl rfl) <| allC (tbf (b1) rfl rfl) <| allC (tbf ((b2 * 1 + b3 * (entW (iop 24 (iop 24 e 6) 2)))) rfl rfl) <| allC (tbf (b3) rfl rfl) <| allN) sg_cb_1_000
theorem own_ca_001 (hw : HWt a0 Z) (p0 e v0 v1 m0 m1 m2 m3 s0 s1 : Int32) (lu : List Int32) (ds : List UInt64) (n : Int32) (T2 F U V : Gp) (hp : iop 23 (iop 24 e 2) 1 = 0) (hv : iop 23 (iop 24 (iop 24 e 2) 1) 1 = 0) (hz : entW (iop 24 (iop 24 e 2) 2) = 0) : SL l Z (mkA bs (SG p0 e v0 v1 m0 m1 m2 m3 s0 s1 lu ds) (T1G n (iop 24 e 2) m0 m1 m2 m3 1 0 (entW (iop 24 (iop 24 e 2) 2)) (m0 * 1 + m1 * 0) m1 (m2 * 1 + m3 * 0) m3 0 1 (FP.i2d (entW (iop 24 (iop 24 e 2) 2))) 4607182418800017408) T2 F U V) bs 225 la_12 [] hp_0 68 762 237 la_12 [] hp_4 68 762 :=
  sgL hw mkA_ad ⟨mkA_c, by unfold tp_ca_001; exact allC (te13z hv) <| allN⟩ (taN (by decide)) (by unfold tq_ca_001; exact allC (tqc rfl rfl) <| allC (tqc rfl hp.symm) <| allC (tqc rfl rfl) <| allC (tqc rfl rfl) <| allC (tqc rfl rfl) <| allC (tqc rfl hz.symm) <| allC (tqc rfl rfl) <| allC (tqc rfl rfl) <| allC (tqc rfl rfl) <| allC (tqc rfl rfl) <| allC (tqc rfl rfl) <| allC (tqc rfl rfl) <| allN) (by unfold tb_ca_001; exact allC (rfl) <| allC (tbf ((m0 * 1 + m1 * 0)) rfl rfl) <| allC (tbf (m1) rfl rfl) <| allC (tbf ((m2 * 1 + m3 * 0)) rfl rfl) <| allC (tbf (m3) rfl rfl) <| allC (rfl) <| allN) sg_ca_001
theorem own_cb_0_001 (hw : HWt a0 Z) (p0 e v0 v1 m0 m1 m2 m3 s0 s1 : Int32) (lu : List Int32) (ds : List UInt64) (n c k0 k1 k2 k3 t0 t1 oo b0 b1 b2 b3 ps oi : Int32) (od pd : UInt64) (fi : List Int32) (fd : List UInt64) (U V : Gp) (hp : iop 23 (iop 24 e 6) 1 = 0) (hv : iop 23 (iop 24 (iop 24 e 6) 1) 1 = 0) (hz : entW (iop 24 (iop 24 e 6) 2) = 0) : SL l Z (mkA bs (SG p0 e v0 v1 m0 m1 m2 m3 s0 s1 lu ds) (T1G n c k0 k1 k2 k3 t0 t1 oo b0 b1 b2 b3 ps oi od pd) (T2G (iop 24 e 6) b0 b1 b2 b3 1 0 (entW (iop 24 (iop 24 e 6) 2)) 0 1 (FP.i2d (entW (iop 24 (iop 24 e 6) 2))) 4607182418800017408) ((b0 * 1 + b1 * 0) :: b1 :: (b2 * 1 + b3 * 0) :: b3 :: fi, fd) U V) bs 243 la_12 [] hp_2 68 762 256 la_12 [] hp_8 68 762 :=
  sgL hw mkA_ad ⟨mkA_c, by unfold tp_cb_0_001; exact allC (te13z hv) <| allN⟩ (taN (by decide)) (by unfold tq_cb_0_001; exact allC (tqc rfl rfl) <| allC (tqc rfl hp.symm) <| allC (tqc rfl rfl) <| allC (tqc rfl rfl) <| allC (tqc rfl rfl) <| allC (tqc rfl hz.symm) <| allC (tqc rfl rfl) <| allC (tqc rfl rfl) <| allC (tqc rfl rfl) <| allC (tqc rfl rfl) <| allC (tqc rfl rfl) <| allC (tqc rfl rfl) <| allN) (by unfold tb_cb_0_001; exact allC (rfl) <| allC (rfl) <| allC (tbf ((b0 * 1 + b1 * 0)) rfl rfl) <| allC (tbf (b1) rfl rfl) <| allC (tbf ((b2 * 1 + b3 * 0)) rfl rfl) <| allC (tbf (b3) rfl rfl) <| allN) sg_cb_0_001
theorem own_cb_1_001 (hw : HWt a0 Z) (p0 e v0 v1 m0 m1 m2 m3 s0 s1 : Int32) (lu : List Int32) (ds : List UInt64) (n c k0 k1 k2 k3 t0 t1 oo b0 b1 b2 b3 ps oi : Int32) (od pd : UInt64) (fi : List Int32) (fd : List UInt64) (U V : Gp) (hp : iop 23 (iop 24 e 6) 1 = 0) (hv : iop 23 (iop 24 (iop 24 e 6) 1) 1 = 0) (hz : entW (iop 24 (iop 24 e 6) 2) = 0) : SL l Z (mkA bs (SG p0 e v0 v1 m0 m1 m2 m3 s0 s1 lu ds) (T1G n c k0 k1 k2 k3 t0 t1 oo b0 b1 b2 b3 ps oi od pd) (T2G (iop 24 e 6) b0 b1 b2 b3 1 0 (entW (iop 24 (iop 24 e 6) 2)) 0 1 (FP.i2d (entW (iop 24 (iop 24 e 6) 2))) 4607182418800017408) ((b0 * 1 + b1 * 0) :: b1 :: (b2 * 1 + b3 * 0) :: b3 :: fi, fd) U V) bs 243 la_12 [] hp_4 68 762 256 la_12 [] hp_9 68 762 :=
  sgL hw mkA_ad ⟨mkA_c, by unfold tp_cb_1_001; exact allC (te13z hv) <| allN⟩ (taN (by decide)) (by unfold tq_cb_1_001; exact allC (tqc rfl rfl) <| allC (tqc rfl hp.symm) <| allC (tqc rfl rfl) <| allC (tqc rfl rfl) <| allC (tqc rfl rfl) <| allC (tqc rfl hz.symm) <| allC (tqc rfl rfl) <| allC (tqc rfl rfl) <| allC (tqc rfl rfl) <| allC (tqc rfl rfl) <| allC (tqc rfl rfl) <| allC (tqc rfl rfl) <| allN) (by unfold tb_cb_1_001; exact allC (rfl) <| allC (rfl) <| allC (tbf ((b0 * 1 + b1 * 0)) rfl rfl) <| allC (tbf (b1) rfl rfl) <| allC (tbf ((b2 * 1 + b3 * 0)) rfl rfl) <| allC (tbf (b3) rfl rfl) <| allN) sg_cb_1_001
theorem own_ca_010 (hw : HWt a0 Z) (p0 e v0 v1 m0 m1 m2 m3 s0 s1 : Int32) (lu : List Int32) (ds : List UInt64) (n : Int32) (T2 F U V : Gp) (hp : iop 23 (iop 24 e 2) 1 = 0) (hv : iop 23 (iop 24 (iop 24 e 2) 1) 1 ≠ 0) (hz : entW (iop 24 (iop 24 e 2) 2) = 1 ∨ entW (iop 24 (iop 24 e 2) 2) = -1) : SL l Z (mkA bs (SG p0 e v0 v1 m0 m1 m2 m3 s0 s1 lu ds) (T1G n (iop 24 e 2) m0 m1 m2 m3 (-1) (entW (iop 24 (iop 24 e 2) 2)) (entW (iop 24 (iop 24 e 2) 2)) (m0 * (-1) + m1 * (entW (iop 24 (iop 24 e 2) 2))) m1 (m2 * (-1) + m3 * (entW (iop 24 (iop 24 e 2) 2))) m3 0 1 (FP.i2d (entW (iop 24 (iop 24 e 2) 2))) 13830554455654793216) T2 F U V) bs 225 la_12 [] hp_0 68 762 237 la_12 [] hp_2 68 762 :=
  sgL hw mkA_ad ⟨mkA_c, by unfold tp_ca_010; exact allC (te13n hv) <| allC (te10 rfl) <| allC (te14) <| allN⟩ (by unfold tp_ca_010; exact allC (nofun) <| allC (nofun) <| allC (fun _ => own_abs1 hz) <| allN) (by unfold tq_ca_010; exact allC (tqc rfl rfl) <| allC (tqc rfl hp.symm) <| allC (tqc rfl rfl) <| allC (tqc rfl rfl) <| allC (tqc rfl rfl) <| allC (tqc rfl rfl) <| allC (tqc rfl rfl) <| allC (tqc rfl rfl) <| allC (tqc rfl rfl) <| allC (tqc rfl rfl) <| allC (tqc rfl rfl) <| allC (tqc rfl rfl) <| allN) (by unfold tb_ca_010; exact allC (rfl) <| allC (tbf ((m0 * (-1) + m1 * (entW (iop 24 (iop 24 e 2) 2)))) rfl rfl) <| allC (tbf (m1) rfl rfl) <| allC (tbf ((m2 * (-1) + m3 * (entW (iop 24 (iop 24 e 2) 2)))) rfl rfl) <| allC (tbf (m3) rfl rfl) <| allC (rfl) <| allC (rfl) <| allN) sg_ca_010
theorem own_cb_0_010 (hw : HWt a0 Z) (p0 e v0 v1 m0 m1 m2 m3 s0 s1 : Int32) (lu : List Int32) (ds : List UInt64) (n c k0 k1 k2 k3 t0 t1 oo b0 b1 b2 b3 ps oi : Int32) (od pd : UInt64) (fi : List Int32) (fd : List UInt64) (U V : Gp) (hp : iop 23 (iop 24 e 6) 1 = 0) (hv : iop 23 (iop 24 (iop 24 e 6) 1) 1 ≠ 0) (hz : entW (iop 24 (iop 24 e 6) 2) = 1 ∨ entW (iop 24 (iop 24 e 6) 2) = -1) : SL l Z (mkA bs (SG p0 e v0 v1 m0 m1 m2 m3 s0 s1 lu ds) (T1G n c k0 k1 k2 k3 t0 t1 oo b0 b1 b2 b3 ps oi od pd) (T2G (iop 24 e 6) b0 b1 b2 b3 (-1) (entW (iop 24 (iop 24 e 6) 2)) (entW (iop 24 (iop 24 e 6) 2)) 0 1 (FP.i2d (entW (iop 24 (iop 24 e 6) 2))) 13830554455654793216) ((b0 * (-1) + b1 * (entW (iop 24 (iop 24 e 6) 2))) :: b1 :: (b2 * (-1) + b3 * (entW (iop 24 (iop 24 e 6) 2))) :: b3 :: fi, fd) U V) bs 243 la_12 [] hp_2 68 762 256 la_12 [] hp_6 68 762 :=
  sgL hw mkA_ad ⟨mkA_c, by unfold tp_cb_0_010; exact allC (te13n hv) <| allC (te10 rfl) <| allC (te14) <| allN⟩ (by unfold tp_cb_0_010; exact allC (nofun) <| allC (nofun) <| allC (fun _ => own_abs1 hz) <| allN) (by unfold tq_cb_0_010; exact allC (tqc rfl rfl) <| allC (tqc rfl hp.symm) <| allC (tqc rfl rfl) <| allC (tqc rfl rfl) <| allC (tqc rfl rfl) <| allC (tqc rfl rfl) <| allC (tqc rfl rfl) <| allC (tqc rfl rfl) <| allC (tqc rfl rfl) <| allC (tqc rfl rfl) <| allC (tqc rfl rfl) <| allC (tqc rfl rfl) <| allN) (by unfold tb_cb_0_010; exact allC (rfl) <| allC (rfl) <| allC (rfl) <| allC (tbf ((b0 * (-1) + b1 * (entW (iop 24 (iop 24 e 6) 2)))) rfl rfl) <| allC (tbf (b1) rfl rfl) <| allC (tbf ((b2 * (-1) + b3 * (entW (iop 24 (iop 24 e 6) 2)))) rfl rfl) <| allC (tbf (b3) rfl rfl) <| allN) sg_cb_0_010
theorem own_cb_1_010 (hw : HWt a0 Z) (p0 e v0 v1 m0 m1 m2 m3 s0 s1 : Int32) (lu : List Int32) (ds : List UInt64) (n c k0 k1 k2 k3 t0 t1 oo b0 b1 b2 b3 ps oi : Int32) (od pd : UInt64) (fi : List Int32) (fd : List UInt64) (U V : Gp) (hp : iop 23 (iop 24 e 6) 1 = 0) (hv : iop 23 (iop 24 (iop 24 e 6) 1) 1 ≠ 0) (hz : entW (iop 24 (iop 24 e 6) 2) = 1 ∨ entW (iop 24 (iop 24 e 6) 2) = -1) : SL l Z (mkA bs (SG p0 e v0 v1 m0 m1 m2 m3 s0 s1 lu ds) (T1G n c k0 k1 k2 k3 t0 t1 oo b0 b1 b2 b3 ps oi od pd) (T2G (iop 24 e 6) b0 b1 b2 b3 (-1) (entW (iop 24 (iop 24 e 6) 2)) (entW (iop 24 (iop 24 e 6) 2)) 0 1 (FP.i2d (entW (iop 24 (iop 24 e 6) 2))) 13830554455654793216) ((b0 * (-1) + b1 * (entW (iop 24 (iop 24 e 6) 2))) :: b1 :: (b2 * (-1) + b3 * (entW (iop 24 (iop 24 e 6) 2))) :: b3 :: fi, fd) U V) bs 243 la_12 [] hp_4 68 762 256 la_12 [] hp_7 68 762 :=
  sgL hw mkA_ad ⟨mkA_c, by unfold tp_cb_1_010; exact allC (te13n hv) <| allC (te10 rfl) <| allC (te14) <| allN⟩ (by unfold tp_cb_1_010; exact allC (nofun) <| allC (nofun) <| allC (fun _ => own_abs1 hz) <| allN) (by unfold tq_cb_1_010; exact allC (tqc rfl rfl) <| allC (tqc rfl hp.symm) <| allC (tqc rfl rfl) <| allC (tqc rfl rfl) <| allC (tqc rfl rfl) <| allC (tqc rfl rfl) <| allC (tqc rfl rfl) <| allC (tqc rfl rfl) <| allC (tqc rfl rfl) <| allC (tqc rfl rfl) <| allC (tqc rfl rfl) <| allC (tqc rfl rfl) <| allN) (by unfold tb_cb_1_010; exact allC (rfl) <| allC (rfl) <| allC (rfl) <| allC (tbf ((b0 * (-1) + b1 * (entW (iop 24 (iop 24 e 6) 2)))) rfl rfl) <| allC (tbf (b1) rfl rfl) <| allC (tbf ((b2 * (-1) + b3 * (entW (iop 24 (iop 24 e 6) 2)))) rfl rfl) <| allC (tbf (b3) rfl rfl) <| allN) sg_cb_1_010
theorem own_ca_011 (hw : HWt a0 Z) (p0 e v0 v1 m0 m1 m2 m3 s0 s1 : Int32) (lu : List Int32) (ds : List UInt64) (n : Int32) (T2 F U V : Gp) (hp : iop 23 (iop 24 e 2) 1 = 0) (hv : iop 23 (iop 24 (iop 24 e 2) 1) 1 ≠ 0) (hz : entW (iop 24 (iop 24 e 2) 2) = 0) : SL l Z (mkA bs (SG p0 e v0 v1 m0 m1 m2 m3 s0 s1 lu ds) (T1G n (iop 24 e 2) m0 m1 m2 m3 (-1) 0 (entW (iop 24 (iop 24 e 2) 2)) (m0 * (-1) + m1 * 0) m1 (m2 * (-1) + m3 * 0) m3 0 1 (FP.i2d (entW (iop 24 (iop 24 e 2) 2))) 13830554455654793216) T2 F U V) bs 225 la_12 [] hp_0 68 762 237 la_12 [] hp_4 68 762 :=
  sgL hw mkA_ad ⟨mkA_c, by unfold tp_ca_011; exact allC (te13n hv) <| allN⟩ (taN (by decide)) (by unfold tq_ca_011; exact allC (tqc rfl rfl) <| allC (tqc rfl hp.symm) <| allC (tqc rfl rfl) <| allC (tqc rfl rfl) <| allC (tqc rfl rfl) <| allC (tqc rfl hz.symm) <| allC (tqc rfl rfl) <| allC (tqc rfl rfl) <| allC (tqc rfl rfl) <| allC (tqc rfl rfl) <| allC (tqc rfl rfl) <| allC (tqc rfl rfl) <| allN) (by unfold tb_ca_011; exact allC (rfl) <| allC (tbf ((m0 * (-1) + m1 * 0)) rfl rfl) <| allC (tbf (m1) rfl rfl) <| allC (tbf ((m2 * (-1) + m3 * 0)) rfl rfl) <| allC (tbf (m3) rfl rfl) <| allC (rfl) <| allN) sg_ca_011
theorem own_cb_0_011 (hw : HWt a0 Z) (p0 e v0 v1 m0 m1 m2 m3 s0 s1 : Int32) (lu : List Int32) (ds : List UInt64) (n c k0 k1 k2 k3 t0 t1 oo b0 b1 b2 b3 ps oi : Int32) (od pd : UInt64) (fi : List Int32) (fd : List UInt64) (U V : Gp) (hp : iop 23 (iop 24 e 6) 1 = 0) (hv : iop 23 (iop 24 (iop 24 e 6) 1) 1 ≠ 0) (hz : entW (iop 24 (iop 24 e 6) 2) = 0) : SL l Z (mkA bs (SG p0 e v0 v1 m0 m1 m2 m3 s0 s1 lu ds) (T1G n c k0 k1 k2 k3 t0 t1 oo b0 b1 b2 b3 ps oi od pd) (T2G (iop 24 e 6) b0 b1 b2 b3 (-1) 0 (entW (iop 24 (iop 24 e 6) 2)) 0 1 (FP.i2d (entW (iop 24 (iop 24 e 6) 2))) 13830554455654793216) ((b0 * (-1) + b1 * 0) :: b1 :: (b2 * (-1) + b3 * 0) :: b3 :: fi, fd) U V) bs 243 la_12 [] hp_2 68 762 256 la_12 [] hp_8 68 762 :=
  sgL hw mkA_ad ⟨mkA_c, by unfold tp_cb_0_011; exact allC (te13n hv) <| allN⟩ (taN (by decide)) (by unfold tq_cb_0_011; exact allC (tqc rfl rfl) <| allC (tqc rfl hp.symm) <| allC (tqc rfl rfl) <| allC (tqc rfl rfl) <| allC (tqc rfl rfl) <| allC (tqc rfl hz.symm) <| allC (tqc rfl rfl) <| allC (tqc rfl rfl) <| allC (tqc rfl rfl) <| allC (tqc rfl rfl) <| allC (tqc rfl rfl) <| allC (tqc rfl rfl) <| allN) (by unfold tb_cb_0_011; exact allC (rfl) <| allC (rfl) <| allC (tbf ((b0 * (-1) + b1 * 0)) rfl rfl) <| allC (tbf (b1) rfl rfl) <| allC (tbf ((b2 * (-1) + b3 * 0)) rfl rfl) <| allC (tbf (b3) rfl rfl) <| allN) sg_cb_0_011
theorem own_cb_1_011 (hw : HWt a0 Z) (p0 e v0 v1 m0 m1 m2 m3 s0 s1 : Int32) (lu : List Int32) (ds : List UInt64) (n c k0 k1 k2 k3 t0 t1 oo b0 b1 b2 b3 ps oi : Int32) (od pd : UInt64) (fi : List Int32) (fd : List UInt64) (U V : Gp) (hp : iop 23 (iop 24 e 6) 1 = 0) (hv : iop 23 (iop 24 (iop 24 e 6) 1) 1 ≠ 0) (hz : entW (iop 24 (iop 24 e 6) 2) = 0) : SL l Z (mkA bs (SG p0 e v0 v1 m0 m1 m2 m3 s0 s1 lu ds) (T1G n c k0 k1 k2 k3 t0 t1 oo b0 b1 b2 b3 ps oi od pd) (T2G (iop 24 e 6) b0 b1 b2 b3 (-1) 0 (entW (iop 24 (iop 24 e 6) 2)) 0 1 (FP.i2d (entW (iop 24 (iop 24 e 6) 2))) 13830554455654793216) ((b0 * (-1) + b1 * 0) :: b1 :: (b2 * (-1) + b3 * 0) :: b3 :: fi, fd) U V) bs 243 la_12 [] hp_4 68 762 256 la_12 [] hp_9 68 762 :=
  sgL hw mkA_ad ⟨mkA_c, by unfold tp_cb_1_011; exact allC (te13n hv) <| allN⟩ (taN (by decide)) (by unfold tq_cb_1_011; exact allC (tqc rfl rfl) <| allC (tqc rfl hp.symm) <| allC (tqc rfl rfl) <| allC (tqc rfl rfl) <| allC (tqc rfl rfl) <| allC (tqc rfl hz.symm) <| allC (tqc rfl rfl) <| allC (tqc rfl rfl) <| allC (tqc rfl rfl) <| allC (tqc rfl rfl) <| allC (tqc rfl rfl) <| allC (tqc rfl rfl) <| allN) (by unfold tb_cb_1_011; exact allC (rfl) <| allC (rfl) <| allC (tbf ((b0 * (-1) + b1 * 0)) rfl rfl) <| allC (tbf (b1) rfl rfl) <| allC (tbf ((b2 * (-1) + b3 * 0)) rfl rfl) <| allC (tbf (b3) rfl rfl) <| allN) sg_cb_1_011
theorem own_ca_100 (hw : HWt a0 Z) (p0 e v0 v1 m0 m1 m2 m3 s0 s1 : Int32) (lu : List Int32) (ds : List UInt64) (n : Int32) (T2 F U V : Gp) (hp : iop 23 (iop 24 e 2) 1 = 1) (hv : iop 23 (iop 24 (iop 24 e 2) 1) 1 = 0) (hz : entW (iop 24 (iop 24 e 2) 2) = 1 ∨ entW (iop 24 (iop 24 e 2) 2) = -1) : SL l Z (mkA bs (SG p0 e v0 v1 m0 m1 m2 m3 s0 s1 lu ds) (T1G n (iop 24 e 2) m0 m1 m2 m3 (entW (iop 24 (iop 24 e 2) 2)) 1 (entW (iop 24 (iop 24 e 2) 2)) m0 (m0 * (entW (iop 24 (iop 24 e 2) 2)) + m1 * 1) m2 (m2 * (entW (iop 24 (iop 24 e 2) 2)) + m3 * 1) 1 0 (FP.i2d (entW (iop 24 (iop 24 e 2) 2))) 4607182418800017408) T2 F U V) bs 225 la_12 [] hp_0 68 762 237 la_12 [] hp_2 68 762 :=
  sgL hw mkA_ad ⟨mkA_c, by unfold tp_ca_100; exact allC (te13z hv) <| allC (te10 rfl) <| allC (te14) <| allN⟩ (by unfold tp_ca_100; exact allC (nofun) <| allC (nofun) <| allC (fun _ => own_abs1 hz) <| allN) (by unfold tq_ca_100; exact allC (tqc rfl rfl) <| allC (tqc rfl hp.symm) <| allC (tqc rfl rfl) <| allC (tqc rfl rfl) <| allC (tqc rfl rfl) <| allC (tqc rfl rfl) <| allC (tqc rfl rfl) <| allC (tqc rfl rfl) <| allC (tqc rfl rfl) <| allC (tqc rfl rfl) <| allC (tqc rfl rfl) <| allC (tqc rfl rfl) <| allN) (by unfold tb_ca_100; exact allC (rfl) <| allC (tbf (m0) rfl rfl) <| allC (tbf ((m0 * (entW (iop 24 (iop 24 e 2) 2)) + m1 * 1)) rfl rfl) <| allC (tbf (m2) rfl rfl) <| allC (tbf ((m2 * (entW (iop 24 (iop 24 e 2) 2)) + m3 * 1)) rfl rfl) <| allC (rfl) <| allC (rfl) <| allN) sg_ca_100
theorem own_cb_0_100 (hw : HWt a0 Z) (p0 e v0 v1 m0 m1 m2 m3 s0 s1 : Int32) (lu : List Int32) (ds : List UInt64) (n c k0 k1 k2 k3 t0 t1 oo b0 b1 b2 b3 ps oi : Int32) (od pd : UInt64) (fi : List Int32) (fd : List UInt64) (U V : Gp) (hp : iop 23 (iop 24 e 6) 1 = 1) (hv : iop 23 (iop 24 (iop 24 e 6) 1) 1 = 0) (hz : entW (iop 24 (iop 24 e 6) 2) = 1 ∨ entW (iop 24 (iop 24 e 6) 2) = -1) : SL l Z (mkA bs (SG p0 e v0 v1 m0 m1 m2 m3 s0 s1 lu ds) (T1G n c k0 k1 k2 k3 t0 t1 oo b0 b1 b2 b3 ps oi od pd) (T2G (iop 24 e 6) b0 b1 b2 b3 (entW (iop 24 (iop 24 e 6) 2)) 1 (entW (iop 24 (iop 24 e 6) 2)) 1 0 (FP.i2d (entW (iop 24 (iop 24 e 6) 2))) 4607182418800017408) (b0 :: (b0 * (entW (iop 24 (iop 24 e 6) 2)) + b1 * 1) :: b2 :: (b2 * (entW (iop 24 (iop 24 e 6) 2)) + b3 * 1) :: fi, fd) U V) bs 243 la_12 [] hp_2 68 762 256 la_12 [] hp_6 68 762 :=
  sgL hw mkA_ad ⟨mkA_c, by unfold tp_cb_0_100; exact allC (te13z hv) <| allC (te10 rfl) <| allC (te14) <| allN⟩ (by unfold tp_cb_0_100; exact allC (nofun) <| allC (nofun) <| allC (fun _ => own_abs1 hz) <| allN) (by unfold tq_cb_0_100; exact allC (tqc rfl rfl) <| allC (tqc rfl hp.symm) <| allC (tqc rfl rfl) <| allC (tqc rfl rfl) <| allC (tqc rfl rfl) <| allC (tqc rfl rfl) <| allC (tqc rfl rfl) <| allC (tqc rfl rfl) <| allC (tqc rfl rfl) <| allC (tqc rfl rfl) <| allC (tqc rfl rfl) <| allC (tqc rfl rfl) <| allN) (by unfold tb_cb_0_100; exact allC (rfl) <| allC (rfl) <| allC (rfl) <| allC (tbf (b0) rfl rfl) <| allC (tbf ((b0 * (entW (iop 24 (iop 24 e 6) 2)) + b1 * 1)) rfl rfl) <| allC (tbf (b2) rfl rfl) <| allC (tbf ((b2 * (entW (iop 24 (iop 24 e 6) 2)) + b3 * 1)) rfl rfl) <| allN) sg_cb_0_100
theorem own_cb_1_100 (hw : HWt a0 Z) (p0 e v0 v1 m0 m1 m2 m3 s0 s1 : Int32) (lu : List Int32) (ds : List UInt64) (n c k0 k1 k2 k3 t0 t1 oo b0 b1 b2 b3 ps oi : Int32) (od pd : UInt64) (fi : List Int32) (fd : List UInt64) (U V : Gp) (hp : iop 23 (iop 24 e 6) 1 = 1) (hv : iop 23 (iop 24 (iop 24 e 6) 1) 1 = 0) (hz : entW (iop 24 (iop 24 e 6) 2) = 1 ∨ entW (iop 24 (iop 24 e 6) 2) = -1) : SL l Z (mkA bs (SG p0 e v0 v1 m0 m1 m2 m3 s0 s1 lu ds) (T1G n c k0 k1 k2 k3 t0 t1 oo b0 b1 b2 b3 ps oi od pd) (T2G (iop 24 e 6) b0 b1 b2 b3 (entW (iop 24 (iop 24 e 6) 2)) 1 (entW (iop 24 (iop 24 e 6) 2)) 1 0 (FP.i2d (entW (iop 24 (iop 24 e 6) 2))) 4607182418800017408) (b0 :: (b0 * (entW (iop 24 (iop 24 e 6) 2)) + b1 * 1) :: b2 :: (b2 * (entW (iop 24 (iop 24 e 6) 2)) + b3 * 1) :: fi, fd) U V) bs 243 la_12 [] hp_4 68 762 256 la_12 [] hp_7 68 762 :=
  sgL hw mkA_ad ⟨mkA_c, by unfold tp_cb_1_100; exact allC (te13z hv) <| allC (te10 rfl) <| allC (te14) <| allN⟩ (by unfold tp_cb_1_100; exact allC (nofun) <| allC (nofun) <| allC (fun _ => own_abs1 hz) <| allN) (by unfold tq_cb_1_100; exact allC (tqc rfl rfl) <| allC (tqc rfl hp.symm) <| allC (tqc rfl rfl) <| allC (tqc rfl rfl) <| allC (tqc rfl rfl) <| allC (tqc rfl rfl) <| allC (tqc rfl rfl) <| allC (tqc rfl rfl) <| allC (tqc rfl rfl) <| allC (tqc rfl rfl) <| allC (tqc rfl rfl) <| allC (tqc rfl rfl) <| allN) (by unfold tb_cb_1_100; exact allC (rfl) <| allC (rfl) <| allC (rfl) <| allC (tbf (b0) rfl rfl) <| allC (tbf ((b0 * (entW (iop 24 (iop 24 e 6) 2)) + b1 * 1)) rfl rfl) <| allC (tbf (b2) rfl rfl) <| allC (tbf ((b2 * (entW (iop 24 (iop 24 e 6) 2)) + b3 * 1)) rfl rfl) <| allN) sg_cb_1_100
theorem own_ca_101 (hw : HWt a0 Z) (p0 e v0 v1 m0 m1 m2 m3 s0 s1 : Int32) (lu : List Int32) (ds : List UInt64) (n : Int32) (T2 F U V : Gp) (hp : iop 23 (iop 24 e 2) 1 = 1) (hv : iop 23 (iop 24 (iop 24 e 2) 1) 1 = 0) (hz : entW (iop 24 (iop 24 e 2) 2) = 0) : SL l Z (mkA bs (SG p0 e v0 v1 m0 m1 m2 m3 s0 s1 lu ds) (T1G n (iop 24 e 2) m0 m1 m2 m3 0 1 (entW (iop 24 (iop 24 e 2) 2)) m0 (m0 * 0 + m1 * 1) m2 (m2 * 0 + m3 * 1) 1 0 (FP.i2d (entW (iop 24 (iop 24 e 2) 2))) 4607182418800017408) T2 F U V) bs 225 la_12 [] hp_0 68 762 237 la_12 [] hp_4 68 762 :=
  sgL hw mkA_ad ⟨mkA_c, by unfold tp_ca_101; exact allC (te13z hv) <| allN⟩ (taN (by decide)) (by unfold tq_ca_101; exact allC (tqc rfl rfl) <| allC (tqc rfl hp.symm) <| allC (tqc rfl rfl) <| allC (tqc rfl rfl) <| allC (tqc rfl rfl) <| allC (tqc rfl hz.symm) <| allC (tqc rfl rfl) <| allC (tqc rfl rfl) <| allC (tqc rfl rfl) <| allC (tqc rfl rfl) <| allC (tqc rfl rfl) <| allC (tqc rfl rfl) <| allN) (by unfold tb_ca_101; exact allC (rfl) <| allC (tbf (m0) rfl rfl) <| allC (tbf ((m0 * 0 + m1 * 1)) rfl rfl) <| allC (tbf (m2) rfl rfl) <| allC (tbf ((m2 * 0 + m3 * 1)) rfl rfl) <| allC (rfl) <| allN) sg_ca_101
theorem own_cb_0_101 (hw : HWt a0 Z) (p0 e v0 v1 m0 m1 m2 m3 s0 s1 : Int32) (lu : List Int32) (ds : List UInt64) (n c k0 k1 k2 k3 t0 t1 oo b0 b1 b2 b3 ps oi : Int32) (od pd : UInt64) (fi : List Int32) (fd : List UInt64) (U V : Gp) (hp : iop 23 (iop 24 e 6) 1 = 1) (hv : iop 23 (iop 24 (iop 24 e 6) 1) 1 = 0) (hz : entW (iop 24 (iop 24 e 6) 2) = 0) : SL l Z (mkA bs (SG p0 e v0 v1 m0 m1 m2 m3 s0 s1 lu ds) (T1G n c k0 k1 k2 k3 t0 t1 oo b0 b1 b2 b3 ps oi od pd) (T2G (iop 24 e 6) b0 b1 b2 b3 0 1 (entW (iop 24 (iop 24 e 6) 2)) 1 0 (FP.i2d (entW (iop 24 (iop 24 e 6) 2))) 4607182418800017408) (b0 :: (b0 * 0 + b1 * 1) :: b2 :: (b2 * 0 + b3 * 1) :: fi, fd) U V) bs 243 la_12 [] hp_2 68 762 256 la_12 [] hp_8 68 762 :=
  sgL hw mkA_ad ⟨mkA_c, by unfold tp_cb_0_101; exact allC (te13z hv) <| allN⟩ (taN (by decide)) (by unfold tq_cb_0_101; exact allC (tqc rfl rfl) <| allC (tqc rfl hp.symm) <| allC (tqc rfl rfl) <| allC (tqc rfl rfl) <| allC (tqc rfl rfl) <| allC (tqc rfl hz.symm) <| allC (tqc rfl rfl) <| allC (tqc rfl rfl) <| allC (tqc rfl rfl) <| allC (tqc rfl rfl) <| allC (tqc rfl rfl) <| allC (tqc rfl rfl) <| allN) (by unfold tb_cb_0_101; exact allC (rfl) <| allC (rfl) <| allC (tbf (b0) rfl rfl) <| allC (tbf ((b0 * 0 + b1 * 1)) rfl rfl) <| allC (tbf (b2) rfl rfl) <| allC (tbf ((b2 * 0 + b3 * 1)) rfl rfl) <| allN) sg_cb_0_101
theorem own_cb_1_101 (hw : HWt a0 Z) (p0 e v0 v1 m0 m1 m2 m3 s0 s1 : Int32) (lu : List Int32) (ds : List UInt64) (n c k0 k1 k2 k3 t0 t1 oo b0 b1 b2 b3 ps oi : Int32) (od pd : UInt64) (fi : List Int32) (fd : List UInt64) (U V : Gp) (hp : iop 23 (iop 24 e 6) 1 = 1) (hv : iop 23 (iop 24 (iop 24 e 6) 1) 1 = 0) (hz : entW (iop 24 (iop 24 e 6) 2) = 0) : SL l Z (mkA bs (SG p0 e v0 v1 m0 m1 m2 m3 s0 s1 lu ds) (T1G n c k0 k1 k2 k3 t0 t1 oo b0 b1 b2 b3 ps oi od pd) (T2G (iop 24 e 6) b0 b1 b2 b3 0 1 (entW (iop 24 (iop 24 e 6) 2)) 1 0 (FP.i2d (entW (iop 24 (iop 24 e 6) 2))) 4607182418800017408) (b0 :: (b0 * 0 + b1 * 1) :: b2 :: (b2 * 0 + b3 * 1) :: fi, fd) U V) bs 243 la_12 [] hp_4 68 762 256 la_12 [] hp_9 68 762 :=
  sgL hw mkA_ad ⟨mkA_c, by unfold tp_cb_1_101; exact allC (te13z hv) <| allN⟩ (taN (by decide)) (by unfold tq_cb_1_101; exact allC (tqc rfl rfl) <| allC (tqc rfl hp.symm) <| allC (tqc rfl rfl) <| allC (tqc rfl rfl) <| allC (tqc rfl rfl) <| allC (tqc rfl hz.symm) <| allC (tqc rfl rfl) <| allC (tqc rfl rfl) <| allC (tqc rfl rfl) <| allC (tqc rfl rfl) <| allC (tqc rfl rfl) <| allC (tqc rfl rfl) <| allN) (by unfold tb_cb_1_101; exact allC (rfl) <| allC (rfl) <| allC (tbf (b0) rfl rfl) <| allC (tbf ((b0 * 0 + b1 * 1)) rfl rfl) <| allC (tbf (b2) rfl rfl) <| allC (tbf ((b2 * 0 + b3 * 1)) rfl rfl) <| allN) sg_cb_1_101
theorem own_ca_110 (hw : HWt a0 Z) (p0 e v0 v1 m0 m1 m2 m3 s0 s1 : Int32) (lu : List Int32) (ds : List UInt64) (n : Int32) (T2 F U V : Gp) (hp : iop 23 (iop 24 e 2) 1 = 1) (hv : iop 23 (iop 24 (iop 24 e 2) 1) 1 ≠ 0) (hz : entW (iop 24 (iop 24 e 2) 2) = 1 ∨ entW (iop 24 (iop 24 e 2) 2) = -1) : SL l Z (mkA bs (SG p0 e v0 v1 m0 m1 m2 m3 s0 s1 lu ds) (T1G n (iop 24 e 2) m0 m1 m2 m3 (entW (iop 24 (iop 24 e 2) 2)) (-1) (entW (iop 24 (iop 24 e 2) 2)) m0 (m0 * (entW (iop 24 (iop 24 e 2) 2)) + m1 * (-1)) m2 (m2 * (entW (iop 24 (iop 24 e 2) 2)) + m3 * (-1)) 1 0 (FP.i2d (entW (iop 24 (iop 24 e 2) 2))) 13830554455654793216) T2 F U V) bs 225 la_12 [] hp_0 68 762 237 la_12 [] hp_2 68 762 :=
  sgL hw mkA_ad ⟨mkA_c, by unfold tp_ca_110; exact allC (te13n hv) <| allC (te10 rfl) <| allC (te14) <| allN⟩ (by unfold tp_ca_110; exact allC (nofun) <| allC (nofun) <| allC (fun _ => own_abs1 hz) <| allN) (by unfold tq_ca_110; exact allC (tqc rfl rfl) <| allC (tqc rfl hp.symm) <| allC (tqc rfl rfl) <| allC (tqc rfl rfl) <| allC (tqc rfl rfl) <| allC (tqc rfl rfl) <| allC (tqc rfl rfl) <| allC (tqc rfl rfl) <| allC (tqc rfl rfl) <| allC (tqc rfl rfl) <| allC (tqc rfl rfl) <| allC (tqc rfl rfl) <| allN) (by unfold tb_ca_110; exact allC (rfl) <| allC (tbf (m0) rfl rfl) <| allC (tbf ((m0 * (entW (iop 24 (iop 24 e 2) 2)) + m1 * (-1))) rfl rfl) <| allC (tbf (m2) rfl rfl) <| allC (tbf ((m2 * (entW (iop 24 (iop 24 e 2) 2)) + m3 * (-1))) rfl rfl) <| allC (rfl) <| allC (rfl) <| allN) sg_ca_110
theorem own_cb_0_110 (hw : HWt a0 Z) (p0 e v0 v1 m0 m1 m2 m3 s0 s1 : Int32) (lu : List Int32) (ds : List UInt64) (n c k0 k1 k2 k3 t0 t1 oo b0 b1 b2 b3 ps oi : Int32) (od pd : UInt64) (fi : List Int32) (fd : List UInt64) (U V : Gp) (hp : iop 23 (iop 24 e 6) 1 = 1) (hv : iop 23 (iop 24 (iop 24 e 6) 1) 1 ≠ 0) (hz : entW (iop 24 (iop 24 e 6) 2) = 1 ∨ entW (iop 24 (iop 24 e 6) 2) = -1) : SL l Z (mkA bs (SG p0 e v0 v1 m0 m1 m2 m3 s0 s1 lu ds) (T1G n c k0 k1 k2 k3 t0 t1 oo b0 b1 b2 b3 ps oi od pd) (T2G (iop 24 e 6) b0 b1 b2 b3 (entW (iop 24 (iop 24 e 6) 2)) (-1) (entW (iop 24 (iop 24 e 6) 2)) 1 0 (FP.i2d (entW (iop 24 (iop 24 e 6) 2))) 13830554455654793216) (b0 :: (b0 * (entW (iop 24 (iop 24 e 6) 2)) + b1 * (-1)) :: b2 :: (b2 * (entW (iop 24 (iop 24 e 6) 2)) + b3 * (-1)) :: fi, fd) U V) bs 243 la_12 [] hp_2 68 762 256 la_12 [] hp_6 68 762 :=
  sgL hw mkA_ad ⟨mkA_c, by unfold tp_cb_0_110; exact allC (te13n hv) <| allC (te10 rfl) <| allC (te14) <| allN⟩ (by unfold tp_cb_0_110; exact allC (nofun) <| allC (nofun) <| allC (fun _ => own_abs1 hz) <| allN) (by unfold tq_cb_0_110; exact allC (tqc rfl rfl) <| allC (tqc rfl hp.symm) <| allC (tqc rfl rfl) <| allC (tqc rfl rfl) <| allC (tqc rfl rfl) <| allC (tqc rfl rfl) <| allC (tqc rfl rfl) <| allC (tqc rfl rfl) <| allC (tqc rfl rfl) <| allC (tqc rfl rfl) <| allC (tqc rfl rfl) <| allC (tqc rfl rfl) <| allN) (by unfold tb_cb_0_110; exact allC (rfl) <| allC (rfl) <| allC (rfl) <| allC (tbf (b0) rfl rfl) <| allC (tbf ((b0 * (entW (iop 24 (iop 24 e 6) 2)) + b1 * (-1))) rfl rfl) <| allC (tbf (b2) rfl rfl) <| allC (tbf ((b2 * (entW (iop 24 (iop 24 e 6) 2)) + b3 * (-1))) rfl rfl) <| allN) sg_cb_0_110
theorem own_cb_1_110 (hw : HWt a0 Z) (p0 e v0 v1 m0 m1 m2 m3 s0 s1 : Int32) (lu : List Int32) (ds : List UInt64) (n c k0 k1 k2 k3 t0 t1 oo b0 b1 b2 b3 ps oi : Int32) (od pd : UInt64) (fi : List Int32) (fd : List UInt64) (U V : Gp) (hp : iop 23 (iop 24 e 6) 1 = 1) (hv : iop 23 (iop 24 (iop 24 e 6) 1) 1 ≠ 0) (hz : entW (iop 24 (iop 24 e 6) 2) = 1 ∨ entW (iop 24 (iop 24 e 6) 2) = -1) : SL l Z (mkA bs (SG p0 e v0 v1 m0 m1 m2 m3 s0 s1 lu ds) (T1G n c k0 k1 k2 k3 t0 t1 oo b0 b1 b2 b3 ps oi od pd) (T2G (iop 24 e 6) b0 b1 b2 b3 (entW (iop 24 (iop 24 e 6) 2)) (-1) (entW (iop 24 (iop 24 e 6) 2)) 1 0 (FP.i2d (entW (iop 24 (iop 24 e 6) 2))) 13830554455654793216) (b0 :: (b0 * (entW (iop 24 (iop 24 e 6) 2)) + b1 * (-1)) :: b2 :: (b2 * (entW (iop 24 (iop 24 e 6) 2)) + b3 * (-1)) :: fi, fd) U V) bs 243 la_12 [] hp_4 68 762 256 la_12 [] hp_7 68 762 :=
  sgL hw mkA_ad ⟨mkA_c, by unfold tp_cb_1_110; exact allC (te13n hv) <| allC (te10 rfl) <| allC (te14) <| allN⟩ (by unfold tp_cb_1_110; exact allC (nofun) <| allC (nofun) <| allC (fun _ => own_abs1 hz) <| allN) (by unfold tq_cb_1_110; exact allC (tqc rfl rfl) <| allC (tqc rfl hp.symm) <| allC (tqc rfl rfl) <| allC (tqc rfl rfl) <| allC (tqc rfl rfl) <| allC (tqc rfl rfl) <| allC (tqc rfl rfl) <| allC (tqc rfl rfl) <| allC (tqc rfl rfl) <| allC (tqc rfl rfl) <| allC (tqc rfl rfl) <| allC (tqc rfl rfl) <| allN) (by unfold tb_cb_1_110; exact allC (rfl) <| allC (rfl) <| allC (rfl) <| allC (tbf (b0) rfl rfl) <| allC (tbf ((b0 * (entW (iop 24 (iop 24 e 6) 2)) + b1 * (-1))) rfl rfl) <| allC (tbf (b2) rfl rfl) <| allC (tbf ((b2 * (entW (iop 24 (iop 24 e 6) 2)) + b3 * (-1))) rfl rfl) <| allN) sg_cb_1_110
theorem own_ca_111 (hw : HWt a0 Z) (p0 e v0 v1 m0 m1 m2 m3 s0 s1 : Int32) (lu : List Int32) (ds : List UInt64) (n : Int32) (T2 F U V : Gp) (hp : iop 23 (iop 24 e 2) 1 = 1) (hv : iop 23 (iop 24 (iop 24 e 2) 1) 1 ≠ 0) (hz : entW (iop 24 (iop 24 e 2) 2) = 0) : SL l Z (mkA bs (SG p0 e v0 v1 m0 m1 m2 m3 s0 s1 lu ds) (T1G n (iop 24 e 2) m0 m1 m2 m3 0 (-1) (entW (iop 24 (iop 24 e 2) 2)) m0 (m0 * 0 + m1 * (-1)) m2 (m2 * 0 + m3 * (-1)) 1 0 (FP.i2d (entW (iop 24 (iop 24 e 2) 2))) 13830554455654793216) T2 F U V) bs 225 la_12 [] hp_0 68 762 237 la_12 [] hp_4 68 762 :=
  sgL hw mkA_ad ⟨mkA_c, by unfold tp_ca_111; exact allC (te13n hv) <| allN⟩ (taN (by decide)) (by unfold tq_ca_111; exact allC (tqc rfl rfl) <| allC (tqc rfl hp.symm) <| allC (tqc rfl rfl) <| allC (tqc rfl rfl) <| allC (tqc rfl rfl) <| allC (tqc rfl hz.symm) <| allC (tqc rfl rfl) <| allC (tqc rfl rfl) <| allC (tqc rfl rfl) <| allC (tqc rfl rfl) <| allC (tqc rfl rfl) <| allC (tqc rfl rfl) <| allN) (by unfold tb_ca_111; exact allC (rfl) <| allC (tbf (m0) rfl rfl) <| allC (tbf ((m0 * 0 + m1 * (-1))) rfl rfl) <| allC (tbf (m2) rfl rfl) <| allC (tbf ((m2 * 0 + m3 * (-1))) rfl rfl) <| allC (rfl) <| allN) sg_ca_111
theorem own_cb_0_111 (hw : HWt a0 Z) (p0 e v0 v1 m0 m1 m2 m3 s0 s1 : Int32) (lu : List Int32) (ds : List UInt64) (n c k0 k1 k2 k3 t0 t1 oo b0 b1 b2 b3 ps oi : Int32) (od pd : UInt64) (fi : List Int32) (fd : List UInt64) (U V : Gp) (hp : iop 23 (iop 24 e 6) 1 = 1) (hv : iop 23 (iop 24 (iop 24 e 6) 1) 1 ≠ 0) (hz : entW (iop 24 (iop 24 e 6) 2) = 0) : SL l Z (mkA bs (SG p0 e v0 v1 m0 m1 m2 m3 s0 s1 lu ds) (T1G n c k0 k1 k2 k3 t0 t1 oo b0 b1 b2 b3 ps oi od pd) (T2G (iop 24 e 6) b0 b1 b2 b3 0 (-1) (entW (iop 24 (iop 24 e 6) 2)) 1 0 (FP.i2d (entW (iop 24 (iop 24 e 6) 2))) 13830554455654793216) (b0 :: (b0 * 0 + b1 * (-1)) :: b2 :: (b2 * 0 + b3 * (-1)) :: fi, fd) U V) bs 243 la_12 [] hp_2 68 762 256 la_12 [] hp_8 68 762 :=
  sgL hw mkA_ad ⟨mkA_c, by unfold tp_cb_0_111; exact allC (te13n hv) <| allN⟩ (taN (by decide)) (by unfold tq_cb_0_111; exact allC (tqc rfl rfl) <| allC (tqc rfl hp.symm) <| allC (tqc rfl rfl) <| allC (tqc rfl rfl) <| allC (tqc rfl rfl) <| allC (tqc rfl hz.symm) <| allC (tqc rfl rfl) <| allC (tqc rfl rfl) <| allC (tqc rfl rfl) <| allC (tqc rfl rfl) <| allC (tqc rfl rfl) <| allC (tqc rfl rfl) <| allN) (by unfold tb_cb_0_111; exact allC (rfl) <| allC (rfl) <| allC (tbf (b0) rfl rfl) <| allC (tbf ((b0 * 0 + b1 * (-1))) rfl rfl) <| allC (tbf (b2) rfl rfl) <| allC (tbf ((b2 * 0 + b3 * (-1))) rfl rfl) <| allN) sg_cb_0_111
theorem own_cb_1_111 (hw : HWt a0 Z) (p0 e v0 v1 m0 m1 m2 m3 s0 s1 : Int32) (lu : List Int32) (ds : List UInt64) (n c k0 k1 k2 k3 t0 t1 oo b0 b1 b2 b3 ps oi : Int32) (od pd : UInt64) (fi : List Int32) (fd : List UInt64) (U V : Gp) (hp : iop 23 (iop 24 e 6) 1 = 1) (hv : iop 23 (iop 24 (iop 24 e 6) 1) 1 ≠ 0) (hz : entW (iop 24 (iop 24 e 6) 2) = 0) : SL l Z (mkA bs (SG p0 e v0 v1 m0 m1 m2 m3 s0 s1 lu ds) (T1G n c k0 k1 k2 k3 t0 t1 oo b0 b1 b2 b3 ps oi od pd) (T2G (iop 24 e 6) b0 b1 b2 b3 0 (-1) (entW (iop 24 (iop 24 e 6) 2)) 1 0 (FP.i2d (entW (iop 24 (iop 24 e 6) 2))) 13830554455654793216) (b0 :: (b0 * 0 + b1 * (-1)) :: b2 :: (b2 * 0 + b3 * (-1)) :: fi, fd) U V) bs 243 la_12 [] hp_4 68 762 256 la_12 [] hp_9 68 762 :=
  sgL hw mkA_ad ⟨mkA_c, by unfold tp_cb_1_111; exact allC (te13n hv) <| allN⟩ (taN (by decide)) (by unfold tq_cb_1_111; exact allC (tqc rfl rfl) <| allC (tqc rfl hp.symm) <| allC (tqc rfl rfl) <| allC (tqc rfl rfl) <| allC (tqc rfl rfl) <| allC (tqc rfl hz.symm) <| allC (tqc rfl rfl) <| allC (tqc rfl rfl) <| allC (tqc rfl rfl) <| allC (tqc rfl rfl) <| allC (tqc rfl rfl) <| allC (tqc rfl rfl) <| allN) (by unfold tb_cb_1_111; exact allC (rfl) <| allC (rfl) <| allC (tbf (b0) rfl rfl) <| allC (tbf ((b0 * 0 + b1 * (-1))) rfl rfl) <| allC (tbf (b2) rfl rfl) <| allC (tbf ((b2 * 0 + b3 * (-1))) rfl rfl) <| allN) sg_cb_1_111
theorem own_bit (c : Int32) : iop 23 c 1 = 0 ∨ iop 23 c 1 = 1 := by
  show c &&& 1 = 0 ∨ c &&& 1 = 1
  have h : (c &&& 1).toBitVec = 0#32 ∨ (c &&& 1).toBitVec = 1#32 := by
    show c.toBitVec &&& 1#32 = 0#32 ∨ c.toBitVec &&& 1#32 = 1#32
    generalize c.toBitVec = b
    have q : (b &&& 1#32).toNat = b.toNat % 2 := by rw [BitVec.toNat_and]; exact Nat.and_one_is_mod _
    have q2 : (b &&& 1#32).toNat = 0 ∨ (b &&& 1#32).toNat = 1 := by omega
    rcases q2 with q2 | q2
    · exact Or.inl (BitVec.eq_of_toNat_eq q2)
    · exact Or.inr (BitVec.eq_of_toNat_eq q2)
  rcases h with h | h
  · exact Or.inl (Int32.toBitVec_inj.mp h)
  · exact Or.inr (Int32.toBitVec_inj.mp h)
theorem own_b2 {m : Int32} (h : m = 0 ∨ m = 1 ∨ m = -1) : m.toInt.natAbs ≤ 1 := by rcases h with rfl | rfl | rfl <;> decide
theorem own_ca (hw : HWt a0 Z) (p0 e v0 v1 m0 m1 m2 m3 s0 s1 : Int32) (lu : List Int32) (ds : List UInt64) (n : Int32) (hb0 : m0.toInt.natAbs ≤ 2) (hb1 : m1.toInt.natAbs ≤ 2) (hb2 : m2.toInt.natAbs ≤ 2) (hb3 : m3.toInt.natAbs ≤ 2) : ∃ (z : Bool) (c k0 k1 k2 k3 t0 t1 oo a0 a1 a2 a3 ps oi : Int32) (od pd : UInt64), CHG z ps oi od pd m0.toInt m1.toInt m2.toInt m3.toInt a0.toInt a1.toInt a2.toInt a3.toInt ∧ ∀ T2 F U V, SL l Z (mkA bs (SG p0 e v0 v1 m0 m1 m2 m3 s0 s1 lu ds) (T1G n c k0 k1 k2 k3 t0 t1 oo a0 a1 a2 a3 ps oi od pd) T2 F U V) bs 225 la_12 [] hp_0 68 762 237 la_12 [] (G2b z) 68 762 := by
  rcases own_bit (iop 24 e 2) with hp | hp <;> rcases (Decidable.em (iop 23 (iop 24 (iop 24 e 2) 1) 1 = 0)) with hv | hv <;> rcases own_entR (iop 24 (iop 24 e 2) 2) with hz | hz
  · exact ⟨true, _, _, _, _, _, _, _, _, _, _, _, _, _, _, _, _, ⟨Int32.toInt 1, Int32.toInt 0, by decide, lit_dy (n := 1) (by decide +kernel), fun _ => by decide, nofun, Or.inl ⟨rfl, rfl, (own_i32 hb0 hb1 (by decide) (by decide)), rfl, (own_i32 hb2 hb3 (by decide) (by decide)), rfl⟩⟩, fun T2 F U V => own_ca_001 hw p0 e v0 v1 m0 m1 m2 m3 s0 s1 lu ds n T2 F U V hp hv hz⟩
  · exact ⟨false, _, _, _, _, _, _, _, _, _, _, _, _, _, _, _, _, ⟨Int32.toInt 1, (entW (iop 24 (iop 24 e 2) 2)).toInt, by decide, lit_dy (n := 1) (by decide +kernel), nofun, fun _ => ⟨own_pmI hz, i2d_int _⟩, Or.inl ⟨rfl, rfl, (own_i32 hb0 hb1 (by decide) (own_b2 (Or.inr hz))), rfl, (own_i32 hb2 hb3 (by decide) (own_b2 (Or.inr hz))), rfl⟩⟩, fun T2 F U V => own_ca_000 hw p0 e v0 v1 m0 m1 m2 m3 s0 s1 lu ds n T2 F U V hp hv hz⟩
  · exact ⟨true, _, _, _, _, _, _, _, _, _, _, _, _, _, _, _, _, ⟨Int32.toInt (-1), Int32.toInt 0, by decide, lit_dy (n := (-1)) (by decide +kernel), fun _ => by decide, nofun, Or.inl ⟨rfl, rfl, (own_i32 hb0 hb1 (by decide) (by decide)), rfl, (own_i32 hb2 hb3 (by decide) (by decide)), rfl⟩⟩, fun T2 F U V => own_ca_011 hw p0 e v0 v1 m0 m1 m2 m3 s0 s1 lu ds n T2 F U V hp hv hz⟩
  · exact ⟨false, _, _, _, _, _, _, _, _, _, _, _, _, _, _, _, _, ⟨Int32.toInt (-1), (entW (iop 24 (iop 24 e 2) 2)).toInt, by decide, lit_dy (n := (-1)) (by decide +kernel), nofun, fun _ => ⟨own_pmI hz, i2d_int _⟩, Or.inl ⟨rfl, rfl, (own_i32 hb0 hb1 (by decide) (own_b2 (Or.inr hz))), rfl, (own_i32 hb2 hb3 (by decide) (own_b2 (Or.inr hz))), rfl⟩⟩, fun T2 F U V => own_ca_010 hw p0 e v0 v1 m0 m1 m2 m3 s0 s1 lu ds n T2 F U V hp hv hz⟩
  · exact ⟨true, _, _, _, _, _, _, _, _, _, _, _, _, _, _, _, _, ⟨Int32.toInt 1, Int32.toInt 0, by decide, lit_dy (n := 1) (by decide +kernel), fun _ => by decide, nofun, Or.inr ⟨rfl, rfl, rfl, (own_i32 hb0 hb1 (by decide) (by decide)), rfl, (own_i32 hb2 hb3 (by decide) (by decide))⟩⟩, fun T2 F U V => own_ca_101 hw p0 e v0 v1 m0 m1 m2 m3 s0 s1 lu ds n T2 F U V hp hv hz⟩
  · exact ⟨false, _, _, _, _, _, _, _, _, _, _, _, _, _, _, _, _, ⟨Int32.toInt 1, (entW (iop 24 (iop 24 e 2) 2)).toInt, by decide, lit_dy (n := 1) (by decide +kernel), nofun, fun _ => ⟨own_pmI hz, i2d_int _⟩, Or.inr ⟨rfl, rfl, rfl, (own_i32 hb0 hb1 (own_b2 (Or.inr hz)) (by decide)), rfl, (own_i32 hb2 hb3 (own_b2 (Or.inr hz)) (by decide))⟩⟩, fun T2 F U V => own_ca_100 hw p0 e v0 v1 m0 m1 m2 m3 s0 s1 lu ds n T2 F U V hp hv hz⟩
  · exact ⟨true, _, _, _, _, _, _, _, _, _, _, _, _, _, _, _, _, ⟨Int32.toInt (-1), Int32.toInt 0, by decide, lit_dy (n := (-1)) (by decide +kernel), fun _ => by decide, nofun, Or.inr ⟨rfl, rfl, rfl, (own_i32 hb0 hb1 (by decide) (by decide)), rfl, (own_i32 hb2 hb3 (by decide) (by decide))⟩⟩, fun T2 F U V => own_ca_111 hw p0 e v0 v1 m0 m1 m2 m3 s0 s1 lu ds n T2 F U V hp hv hz⟩
  · exact ⟨false, _, _, _, _, _, _, _, _, _, _, _, _, _, _, _, _, ⟨Int32.toInt (-1), (entW (iop 24 (iop 24 e 2) 2)).toInt, by decide, lit_dy (n := (-1)) (by decide +kernel), nofun, fun _ => ⟨own_pmI hz, i2d_int _⟩, Or.inr ⟨rfl, rfl, rfl, (own_i32 hb0 hb1 (own_b2 (Or.inr hz)) (by decide)), rfl, (own_i32 hb2 hb3 (own_b2 (Or.inr hz)) (by decide))⟩⟩, fun T2 F U V => own_ca_110 hw p0 e v0 v1 m0 m1 m2 m3 s0 s1 lu ds n T2 F U V hp hv hz⟩
theorem own_cb (hw : HWt a0 Z) (p0 e v0 v1 m0 m1 m2 m3 s0 s1 : Int32) (lu : List Int32) (ds : List UInt64) (n c k0 k1 k2 k3 t0 t1 oo b0 b1 b2 b3 ps oi : Int32) (od pd : UInt64) (y : Bool) (hb0 : b0.toInt.natAbs ≤ 2) (hb1 : b1.toInt.natAbs ≤ 2) (hb2 : b2.toInt.natAbs ≤ 2) (hb3 : b3.toInt.natAbs ≤ 2) : ∃ (z : Bool) (c' s0' s1' oo' ps' oi' a0 a1 a2 a3 : Int32) (od' pd' : UInt64), CHG z ps' oi' od' pd' b0.toInt b1.toInt b2.toInt b3.toInt a0.toInt a1.toInt a2.toInt a3.toInt ∧ ∀ fi fd U V, SL l Z (mkA bs (SG p0 e v0 v1 m0 m1 m2 m3 s0 s1 lu ds) (T1G n c k0 k1 k2 k3 t0 t1 oo b0 b1 b2 b3 ps oi od pd) (T2G c' b0 b1 b2 b3 s0' s1' oo' ps' oi' od' pd') (a0 :: a1 :: a2 :: a3 :: fi, fd) U V) bs 243 la_12 [] (G2b y) 68 762 256 la_12 [] (GA2b y z) 68 762 := by
  rcases own_bit (iop 24 e 6) with hp | hp <;> rcases (Decidable.em (iop 23 (iop 24 (iop 24 e 6) 1) 1 = 0)) with hv | hv <;> rcases own_entR (iop 24 (iop 24 e 6) 2) with hz | hz <;> cases y
  · exact ⟨true, _, _, _, _, _, _, _, _, _, _, _, _, ⟨Int32.toInt 1, Int32.toInt 0, by decide, lit_dy (n := 1) (by decide +kernel), fun _ => by decide, nofun, Or.inl ⟨rfl, rfl, (own_i32 hb0 hb1 (by decide) (by decide)), rfl, (own_i32 hb2 hb3 (by decide) (by decide)), rfl⟩⟩, fun fi fd U V => own_cb_0_001 hw p0 e v0 v1 m0 m1 m2 m3 s0 s1 lu ds n c k0 k1 k2 k3 t0 t1 oo b0 b1 b2 b3 ps oi od pd fi fd U V hp hv hz⟩
  · exact ⟨true, _, _, _, _, _, _, _, _, _, _, _, _, ⟨Int32.toInt 1, Int32.toInt 0, by decide, lit_dy (n := 1) (by decide +kernel), fun _ => by decide, nofun, Or.inl ⟨rfl, rfl, (own_i32 hb0 hb1 (by decide) (by decide)), rfl, (own_i32 hb2 hb3 (by decide) (by decide)), rfl⟩⟩, fun fi fd U V => own_cb_1_001 hw p0 e v0 v1 m0 m1 m2 m3 s0 s1 lu ds n c k0 k1 k2 k3 t0 t1 oo b0 b1 b2 b3 ps oi od pd fi fd U V hp hv hz⟩
  · exact ⟨false, _, _, _, _, _, _, _, _, _, _, _, _, ⟨Int32.toInt 1, (entW (iop 24 (iop 24 e 6) 2)).toInt, by decide, lit_dy (n := 1) (by decide +kernel), nofun, fun _ => ⟨own_pmI hz, i2d_int _⟩, Or.inl ⟨rfl, rfl, (own_i32 hb0 hb1 (by decide) (own_b2 (Or.inr hz))), rfl, (own_i32 hb2 hb3 (by decide) (own_b2 (Or.inr hz))), rfl⟩⟩, fun fi fd U V => own_cb_0_000 hw p0 e v0 v1 m0 m1 m2 m3 s0 s1 lu ds n c k0 k1 k2 k3 t0 t1 oo b0 b1 b2 b3 ps oi od pd fi fd U V hp hv hz⟩
  · exact ⟨false, _, _, _, _, _, _, _, _, _, _, _, _, ⟨Int32.toInt 1, (entW (iop 24 (iop 24 e 6) 2)).toInt, by decide, lit_dy (n := 1) (by decide +kernel), nofun, fun _ => ⟨own_pmI hz, i2d_int _⟩, Or.inl ⟨rfl, rfl, (own_i32 hb0 hb1 (by decide) (own_b2 (Or.inr hz))), rfl, (own_i32 hb2 hb3 (by decide) (own_b2 (Or.inr hz))), rfl⟩⟩, fun fi fd U V => own_cb_1_000 hw p0 e v0 v1 m0 m1 m2 m3 s0 s1 lu ds n c k0 k1 k2 k3 t0 t1 oo b0 b1 b2 b3 ps oi od pd fi fd U V hp hv hz⟩
  · exact ⟨true, _, _, _, _, _, _, _, _, _, _, _, _, ⟨Int32.toInt (-1), Int32.toInt 0, by decide, lit_dy (n := (-1)) (by decide +kernel), fun _ => by decide, nofun, Or.inl ⟨rfl, rfl, (own_i32 hb0 hb1 (by decide) (by decide)), rfl, (own_i32 hb2 hb3 (by decide) (by decide)), rfl⟩⟩, fun fi fd U V => own_cb_0_011 hw p0 e v0 v1 m0 m1 m2 m3 s0 s1 lu ds n c k0 k1 k2 k3 t0 t1 oo b0 b1 b2 b3 ps oi od pd fi fd U V hp hv hz⟩
  · exact ⟨true, _, _, _, _, _, _, _, _, _, _, _, _, ⟨Int32.toInt (-1), Int32.toInt 0, by decide, lit_dy (n := (-1)) (by decide +kernel), fun _ => by decide, nofun, Or.inl ⟨rfl, rfl, (own_i32 hb0 hb1 (by decide) (by decide)), rfl, (own_i32 hb2 hb3 (by decide) (by decide)), rfl⟩⟩, fun fi fd U V => own_cb_1_011 hw p0 e v0 v1 m0 m1 m2 m3 s0 s1 lu ds n c k0 k1 k2 k3 t0 t1 oo b0 b1 b2 b3 ps oi od pd fi fd U V hp hv hz⟩
  · exact ⟨false, _, _, _, _, _, _, _, _, _, _, _, _, ⟨Int32.toInt (-1), (entW (iop 24 (iop 24 e 6) 2)).toInt, by decide, lit_dy (n := (-1)) (by decide +kernel), nofun, fun _ => ⟨own_pmI hz, i2d_int _⟩, Or.inl ⟨rfl, rfl, (own_i32 hb0 hb1 (by decide) (own_b2 (Or.inr hz))), rfl, (own_i32 hb2 hb3 (by decide) (own_b2 (Or.inr hz))), rfl⟩⟩, fun fi fd U V => own_cb_0_010 hw p0 e v0 v1 m0 m1 m2 m3 s0 s1 lu ds n c k0 k1 k2 k3 t0 t1 oo b0 b1 b2 b3 ps oi od pd fi fd U V hp hv hz⟩
  · exact ⟨false, _, _, _, _, _, _, _, _, _, _, _, _, ⟨Int32.toInt (-1), (entW (iop 24 (iop 24 e 6) 2)).toInt, by decide, lit_dy (n := (-1)) (by decide +kernel), nofun, fun _ => ⟨own_pmI hz, i2d_int _⟩, Or.inl ⟨rfl, rfl, (own_i32 hb0 hb1 (by decide) (own_b2 (Or.inr hz))), rfl, (own_i32 hb2 hb3 (by decide) (own_b2 (Or.inr hz))), rfl⟩⟩, fun fi fd U V => own_cb_1_010 hw p0 e v0 v1 m0 m1 m2 m3 s0 s1 lu ds n c k0 k1 k2 k3 t0 t1 oo b0 b1 b2 b3 ps oi od pd fi fd U V hp hv hz⟩
  · exact ⟨true, _, _, _, _, _, _, _, _, _, _, _, _, ⟨Int32.toInt 1, Int32.toInt 0, by decide, lit_dy (n := 1) (by decide +kernel), fun _ => by decide, nofun, Or.inr ⟨rfl, rfl, rfl, (own_i32 hb0 hb1 (by decide) (by decide)), rfl, (own_i32 hb2 hb3 (by decide) (by decide))⟩⟩, fun fi fd U V => own_cb_0_101 hw p0 e v0 v1 m0 m1 m2 m3 s0 s1 lu ds n c k0 k1 k2 k3 t0 t1 oo b0 b1 b2 b3 ps oi od pd fi fd U V hp hv hz⟩
  · exact ⟨true, _, _, _, _, _, _, _, _, _, _, _, _, ⟨Int32.toInt 1, Int32.toInt 0, by decide, lit_dy (n := 1) (by decide +kernel), fun _ => by decide, nofun, Or.inr ⟨rfl, rfl, rfl, (own_i32 hb0 hb1 (by decide) (by decide)), rfl, (own_i32 hb2 hb3 (by decide) (by decide))⟩⟩, fun fi fd U V => own_cb_1_101 hw p0 e v0 v1 m0 m1 m2 m3 s0 s1 lu ds n c k0 k1 k2 k3 t0 t1 oo b0 b1 b2 b3 ps oi od pd fi fd U V hp hv hz⟩
  · exact ⟨false, _, _, _, _, _, _, _, _, _, _, _, _, ⟨Int32.toInt 1, (entW (iop 24 (iop 24 e 6) 2)).toInt, by decide, lit_dy (n := 1) (by decide +kernel), nofun, fun _ => ⟨own_pmI hz, i2d_int _⟩, Or.inr ⟨rfl, rfl, rfl, (own_i32 hb0 hb1 (own_b2 (Or.inr hz)) (by decide)), rfl, (own_i32 hb2 hb3 (own_b2 (Or.inr hz)) (by decide))⟩⟩, fun fi fd U V => own_cb_0_100 hw p0 e v0 v1 m0 m1 m2 m3 s0 s1 lu ds n c k0 k1 k2 k3 t0 t1 oo b0 b1 b2 b3 ps oi od pd fi fd U V hp hv hz⟩
  · exact ⟨false, _, _, _, _, _, _, _, _, _, _, _, _, ⟨Int32.toInt 1, (entW (iop 24 (iop 24 e 6) 2)).toInt, by decide, lit_dy (n := 1) (by decide +kernel), nofun, fun _ => ⟨own_pmI hz, i2d_int _⟩, Or.inr ⟨rfl, rfl, rfl, (own_i32 hb0 hb1 (own_b2 (Or.inr hz)) (by decide)), rfl, (own_i32 hb2 hb3 (own_b2 (Or.inr hz)) (by decide))⟩⟩, fun fi fd U V => own_cb_1_100 hw p0 e v0 v1 m0 m1 m2 m3 s0 s1 lu ds n c k0 k1 k2 k3 t0 t1 oo b0 b1 b2 b3 ps oi od pd fi fd U V hp hv hz⟩
  · exact ⟨true, _, _, _, _, _, _, _, _, _, _, _, _, ⟨Int32.toInt (-1), Int32.toInt 0, by decide, lit_dy (n := (-1)) (by decide +kernel), fun _ => by decide, nofun, Or.inr ⟨rfl, rfl, rfl, (own_i32 hb0 hb1 (by decide) (by decide)), rfl, (own_i32 hb2 hb3 (by decide) (by decide))⟩⟩, fun fi fd U V => own_cb_0_111 hw p0 e v0 v1 m0 m1 m2 m3 s0 s1 lu ds n c k0 k1 k2 k3 t0 t1 oo b0 b1 b2 b3 ps oi od pd fi fd U V hp hv hz⟩
  · exact ⟨true, _, _, _, _, _, _, _, _, _, _, _, _, ⟨Int32.toInt (-1), Int32.toInt 0, by decide, lit_dy (n := (-1)) (by decide +kernel), fun _ => by decide, nofun, Or.inr ⟨rfl, rfl, rfl, (own_i32 hb0 hb1 (by decide) (by decide)), rfl, (own_i32 hb2 hb3 (by decide) (by decide))⟩⟩, fun fi fd U V => own_cb_1_111 hw p0 e v0 v1 m0 m1 m2 m3 s0 s1 lu ds n c k0 k1 k2 k3 t0 t1 oo b0 b1 b2 b3 ps oi od pd fi fd U V hp hv hz⟩
  · exact ⟨false, _, _, _, _, _, _, _, _, _, _, _, _, ⟨Int32.toInt (-1), (entW (iop 24 (iop 24 e 6) 2)).toInt, by decide, lit_dy (n := (-1)) (by decide +kernel), nofun, fun _ => ⟨own_pmI hz, i2d_int _⟩, Or.inr ⟨rfl, rfl, rfl, (own_i32 hb0 hb1 (own_b2 (Or.inr hz)) (by decide)), rfl, (own_i32 hb2 hb3 (own_b2 (Or.inr hz)) (by decide))⟩⟩, fun fi fd U V => own_cb_0_110 hw p0 e v0 v1 m0 m1 m2 m3 s0 s1 lu ds n c k0 k1 k2 k3 t0 t1 oo b0 b1 b2 b3 ps oi od pd fi fd U V hp hv hz⟩
  · exact ⟨false, _, _, _, _, _, _, _, _, _, _, _, _, ⟨Int32.toInt (-1), (entW (iop 24 (iop 24 e 6) 2)).toInt, by decide, lit_dy (n := (-1)) (by decide +kernel), nofun, fun _ => ⟨own_pmI hz, i2d_int _⟩, Or.inr ⟨rfl, rfl, rfl, (own_i32 hb0 hb1 (own_b2 (Or.inr hz)) (by decide)), rfl, (own_i32 hb2 hb3 (own_b2 (Or.inr hz)) (by decide))⟩⟩, fun fi fd U V => own_cb_1_110 hw p0 e v0 v1 m0 m1 m2 m3 s0 s1 lu ds n c k0 k1 k2 k3 t0 t1 oo b0 b1 b2 b3 ps oi od pd fi fd U V hp hv hz⟩
theorem own_v32 (v : Int32) : v.toInt.natAbs ≤ 2147483648 := by have := rng32 v; omega
theorem own_e0 (hw : HWt a0 Z) (p0 e v0 v1 m0 m1 m2 m3 s0 s1 : Int32) (lu : List Int32) (ds : List UInt64) (T1 T2 U V : Gp) (f0 f1 f2 f3 : Int32) (fi : List Int32) : ST l Z (mkA bs (SG p0 e v0 v1 m0 m1 m2 m3 s0 s1 lu ds) T1 T2 (f0 :: f1 :: f2 :: f3 :: fi, [0, 0, 0, 0, 0, 0, FP.i2d v0, FP.i2d v1]) U V) bs 0 la_17 [] hp_1 0 0 108 la_18 [] hp_10 0 0 :=
  sgT hw mkA_ad ⟨mkA_c, allN⟩ (taN (by decide)) allN (by unfold tb_e0; exact allC (tbd (FP.i2d v0) rfl rfl) <| allC (tbd (FP.i2d v1) rfl rfl) <| allN) sg_e0
theorem own_e1_00 (hw : HWt a0 Z) (p0 e v0 v1 m0 m1 m2 m3 s0 s1 : Int32) (lu : List Int32) (ds : List UInt64) (n c k0 k1 k2 k3 t0 t1 oo b0 b1 b2 b3 f0 f1 f2 f3 : Int32) (od pd : UInt64) (T2 U V : Gp) (n70 : NaNo (FP.dmul od (FP.i2d v1))) (n71 : NaNo (FP.dsub (FP.i2d v0) (FP.dmul od (FP.i2d v1)))) (n72 : NaNo (FP.ddiv (FP.dsub (FP.i2d v0) (FP.dmul od (FP.i2d v1))) pd)) : ST l Z (mkA bs (SG p0 e v0 v1 m0 m1 m2 m3 s0 s1 lu ds) (T1G n c k0 k1 k2 k3 t0 t1 oo b0 b1 b2 b3 0 1 od pd) T2 (f0 :: f1 :: f2 :: f3 :: [0, 1], [(FP.dmul od (FP.i2d v1)), (FP.dsub (FP.i2d v0) (FP.dmul od (FP.i2d v1))), (FP.ddiv (FP.dsub (FP.i2d v0) (FP.dmul od (FP.i2d v1))) pd), 0, 0, 0, (FP.ddiv (FP.dsub (FP.i2d v0) (FP.dmul od (FP.i2d v1))) pd), (FP.i2d v1), (FP.dsub (FP.i2d v0) (FP.dmul od (FP.i2d v1)))]) U V) bs 0 la_17 [] hp_3 0 0 108 la_19 [] hp_10 0 0 :=
  Seg.trans (Seg.same (tab := [(.int 0, .float 48), (.int 1, .float 49)]) rfl (allC (rfl) <| allC (rfl) <| allN) (by decide +kernel)) (sgT hw mkA_ad ⟨mkA_c, by unfold tp_e1_00; exact allC (teF (by decide) n70 rfl) <| allC (teF (by decide) n71 rfl) <| allC (teF (by decide) n72 rfl) <| allN⟩ (taN (by decide)) allN (by unfold tb_e1_00; exact allC (tbd ((FP.ddiv (FP.dsub (FP.i2d v0) (FP.dmul od (FP.i2d v1))) pd)) rfl rfl) <| allC (tbd ((FP.i2d v1)) rfl rfl) <| allC (tbd ((FP.dsub (FP.i2d v0) (FP.dmul od (FP.i2d v1)))) rfl rfl) <| allC (rfl) <| allC (rfl) <| allN) sg_e1_00)
theorem own_e1_01 (hw : HWt a0 Z) (p0 e v0 v1 m0 m1 m2 m3 s0 s1 : Int32) (lu : List Int32) (ds : List UInt64) (n c k0 k1 k2 k3 t0 t1 oo b0 b1 b2 b3 f0 f1 f2 f3 : Int32) (od pd : UInt64) (T2 U V : Gp) (n70 : NaNo (FP.dmul od (FP.i2d v0))) (n71 : NaNo (FP.dsub (FP.i2d v1) (FP.dmul od (FP.i2d v0)))) (n72 : NaNo (FP.ddiv (FP.dsub (FP.i2d v1) (FP.dmul od (FP.i2d v0))) pd)) : ST l Z (mkA bs (SG p0 e v0 v1 m0 m1 m2 m3 s0 s1 lu ds) (T1G n c k0 k1 k2 k3 t0 t1 oo b0 b1 b2 b3 1 0 od pd) T2 (f0 :: f1 :: f2 :: f3 :: [1, 1], [(FP.dmul od (FP.i2d v0)), (FP.dsub (FP.i2d v1) (FP.dmul od (FP.i2d v0))), (FP.ddiv (FP.dsub (FP.i2d v1) (FP.dmul od (FP.i2d v0))) pd), 0, 0, 0, (FP.i2d v0), (FP.ddiv (FP.dsub (FP.i2d v1) (FP.dmul od (FP.i2d v0))) pd), (FP.dsub (FP.i2d v1) (FP.dmul od (FP.i2d v0)))]) U V) bs 0 la_17 [] hp_3 0 0 108 la_19 [] hp_10 0 0 :=
  Seg.trans (Seg.same (tab := [(.int 1, .float 48), (.int 0, .float 49)]) rfl (allC (rfl) <| allC (rfl) <| allN) (by decide +kernel)) (sgT hw mkA_ad ⟨mkA_c, by unfold tp_e1_01; exact allC (teF (by decide) n70 rfl) <| allC (teF (by decide) n71 rfl) <| allC (teF (by decide) n72 rfl) <| allN⟩ (taN (by decide)) allN (by unfold tb_e1_01; exact allC (tbd ((FP.i2d v0)) rfl rfl) <| allC (tbd ((FP.ddiv (FP.dsub (FP.i2d v1) (FP.dmul od (FP.i2d v0))) pd)) rfl rfl) <| allC (tbd ((FP.dsub (FP.i2d v1) (FP.dmul od (FP.i2d v0)))) rfl rfl) <| allC (rfl) <| allC (rfl) <| allN) sg_e1_01)
theorem own_e1_10 (hw : HWt a0 Z) (p0 e v0 v1 m0 m1 m2 m3 s0 s1 : Int32) (lu : List Int32) (ds : List UInt64) (n c k0 k1 k2 k3 t0 t1 oo b0 b1 b2 b3 f0 f1 f2 f3 : Int32) (od pd : UInt64) (T2 U V : Gp) (n72 : NaNo (FP.ddiv (FP.i2d v0) pd)) : ST l Z (mkA bs (SG p0 e v0 v1 m0 m1 m2 m3 s0 s1 lu ds) (T1G n c k0 k1 k2 k3 t0 t1 oo b0 b1 b2 b3 0 1 od pd) T2 (f0 :: f1 :: f2 :: f3 :: [0, 0], [0, 0, (FP.ddiv (FP.i2d v0) pd), 0, 0, 0, (FP.ddiv (FP.i2d v0) pd), (FP.i2d v1), (FP.i2d v0)]) U V) bs 0 la_17 [] hp_5 0 0 108 la_19 [] hp_10 0 0 :=
  Seg.trans (Seg.same (tab := [(.int 0, .float 48), (.int 1, .float 49)]) rfl (allC (rfl) <| allC (rfl) <| allN) (by decide +kernel)) (sgT hw mkA_ad ⟨mkA_c, by unfold tp_e1_10; exact allC (teF (by decide) n72 rfl) <| allN⟩ (taN (by decide)) allN (by unfold tb_e1_10; exact allC (tbd ((FP.ddiv (FP.i2d v0) pd)) rfl rfl) <| allC (tbd ((FP.i2d v1)) rfl rfl) <| allC (tbd ((FP.i2d v0)) rfl rfl) <| allC (rfl) <| allC (rfl) <| allN) sg_e1_10)
theorem own_e1_11 (hw : HWt a0 Z) (p0 e v0 v1 m0 m1 m2 m3 s0 s1 : Int32) (lu : List Int32) (ds : List UInt64) (n c k0 k1 k2 k3 t0 t1 oo b0 b1 b2 b3 f0 f1 f2 f3 : Int32) (od pd : UInt64) (T2 U V : Gp) (n72 : NaNo (FP.ddiv (FP.i2d v1) pd)) : ST l Z (mkA bs (SG p0 e v0 v1 m0 m1 m2 m3 s0 s1 lu ds) (T1G n c k0 k1 k2 k3 t0 t1 oo b0 b1 b2 b3 1 0 od pd) T2 (f0 :: f1 :: f2 :: f3 :: [1, 0], [0, 0, (FP.ddiv (FP.i2d v1) pd), 0, 0, 0, (FP.i2d v0), (FP.ddiv (FP.i2d v1) pd), (FP.i2d v1)]) U V) bs 0 la_17 [] hp_5 0 0 108 la_19 [] hp_10 0 0 :=
  Seg.trans (Seg.same (tab := [(.int 1, .float 48), (.int 0, .float 49)]) rfl (allC (rfl) <| allC (rfl) <| allN) (by decide +kernel)) (sgT hw mkA_ad ⟨mkA_c, by unfold tp_e1_11; exact allC (teF (by decide) n72 rfl) <| allN⟩ (taN (by decide)) allN (by unfold tb_e1_11; exact allC (tbd ((FP.i2d v0)) rfl rfl) <| allC (tbd ((FP.ddiv (FP.i2d v1) pd)) rfl rfl) <| allC (tbd ((FP.i2d v1)) rfl rfl) <| allC (rfl) <| allC (rfl) <| allN) sg_e1_11)
theorem own_e2_00_00 (hw : HWt a0 Z) (p0 e v0 v1 m0 m1 m2 m3 s0 s1 : Int32) (lu : List Int32) (ds : List UInt64) (n c k0 k1 k2 k3 t0 t1 oo b0 b1 b2 b3 f0 f1 f2 f3 : Int32) (od pd : UInt64) (c' j0 j1 j2 j3 s0' s1' oo' : Int32) (od' pd' : UInt64) (U V : Gp) (n70 : NaNo (FP.dmul od' (FP.i2d v1))) (n71 : NaNo (FP.dsub (FP.i2d v0) (FP.dmul od' (FP.i2d v1)))) (n72 : NaNo (FP.ddiv (FP.dsub (FP.i2d v0) (FP.dmul od' (FP.i2d v1))) pd')) (n73 : NaNo (FP.dmul od (FP.i2d v1))) (n74 : NaNo (FP.dsub (FP.ddiv (FP.dsub (FP.i2d v0) (FP.dmul od' (FP.i2d v1))) pd') (FP.dmul od (FP.i2d v1)))) (n75 : NaNo (FP.ddiv (FP.dsub (FP.ddiv (FP.dsub (FP.i2d v0) (FP.dmul od' (FP.i2d v1))) pd') (FP.dmul od (FP.i2d v1))) pd)) : ST l Z (mkA bs (SG p0 e v0 v1 m0 m1 m2 m3 s0 s1 lu ds) (T1G n c k0 k1 k2 k3 t0 t1 oo b0 b1 b2 b3 0 1 od pd) (T2G c' j0 j1 j2 j3 s0' s1' oo' 0 1 od' pd') (f0 :: f1 :: f2 :: f3 :: [0, 1], [(FP.dmul od' (FP.i2d v1)), (FP.dsub (FP.i2d v0) (FP.dmul od' (FP.i2d v1))), (FP.ddiv (FP.dsub (FP.i2d v0) (FP.dmul od' (FP.i2d v1))) pd'), (FP.dmul od (FP.i2d v1)), (FP.dsub (FP.ddiv (FP.dsub (FP.i2d v0) (FP.dmul od' (FP.i2d v1))) pd') (FP.dmul od (FP.i2d v1))), (FP.ddiv (FP.dsub (FP.ddiv (FP.dsub (FP.i2d v0) (FP.dmul od' (FP.i2d v1))) pd') (FP.dmul od (FP.i2d v1))) pd), (FP.ddiv (FP.dsub (FP.ddiv (FP.dsub (FP.i2d v0) (FP.dmul od' (FP.i2d v1))) pd') (FP.dmul od (FP.i2d v1))) pd), (FP.i2d v1), (FP.dsub (FP.ddiv (FP.dsub (FP.i2d v0) (FP.dmul od' (FP.i2d v1))) pd') (FP.dmul od (FP.i2d v1)))]) U V) bs 0 la_17 [] hp_6 0 0 108 la_19 [] hp_10 0 0 :=
  Seg.trans (Seg.same (tab := [(.int 0, .float 48), (.int 1, .float 49), (.int 0, .float 61), (.int 1, .float 62)]) rfl (allC (rfl) <| allC (rfl) <| allC (rfl) <| allC (rfl) <| allN) (by decide +kernel)) (sgT hw mkA_ad ⟨mkA_c, by unfold tp_e2_00_00; exact allC (teF (by decide) n70 rfl) <| allC (teF (by decide) n71 rfl) <| allC (teF (by decide) n72 rfl) <| allC (teF (by decide) n73 rfl) <| allC (teF (by decide) n74 rfl) <| allC (teF (by decide) n75 rfl) <| allN⟩ (taN (by decide)) allN (by unfold tb_e2_00_00; exact allC (tbd ((FP.ddiv (FP.dsub (FP.ddiv (FP.dsub (FP.i2d v0) (FP.dmul od' (FP.i2d v1))) pd') (FP.dmul od (FP.i2d v1))) pd)) rfl rfl) <| allC (tbd ((FP.i2d v1)) rfl rfl) <| allC (tbd ((FP.dsub (FP.ddiv (FP.dsub (FP.i2d v0) (FP.dmul od' (FP.i2d v1))) pd') (FP.dmul od (FP.i2d v1)))) rfl rfl) <| allC (rfl) <| allC (rfl) <| allN) sg_e2_00_00)
theorem own_e2_00_01 (hw : HWt a0 Z) (p0 e v0 v1 m0 m1 m2 m3 s0 s1 : Int32) (lu : List Int32) (ds : List UInt64) (n c k0 k1 k2 k3 t0 t1 oo b0 b1 b2 b3 f0 f1 f2 f3 : Int32) (od pd : UInt64) (c' j0 j1 j2 j3 s0' s1' oo' : Int32) (od' pd' : UInt64) (U V : Gp) (n70 : NaNo (FP.dmul od' (FP.i2d v0))) (n71 : NaNo (FP.dsub (FP.i2d v1) (FP.dmul od' (FP.i2d v0)))) (n72 : NaNo (FP.ddiv (FP.dsub (FP.i2d v1) (FP.dmul od' (FP.i2d v0))) pd')) (n73 : NaNo (FP.dmul od (FP.ddiv (FP.dsub (FP.i2d v1) (FP.dmul od' (FP.i2d v0))) pd'))) (n74 : NaNo (FP.dsub (FP.i2d v0) (FP.dmul od (FP.ddiv (FP.dsub (FP.i2d v1) (FP.dmul od' (FP.i2d v0))) pd')))) (n75 : NaNo (FP.ddiv (FP.dsub (FP.i2d v0) (FP.dmul od (FP.ddiv (FP.dsub (FP.i2d v1) (FP.dmul od' (FP.i2d v0))) pd'))) pd)) : ST l Z (mkA bs (SG p0 e v0 v1 m0 m1 m2 m3 s0 s1 lu ds) (T1G n c k0 k1 k2 k3 t0 t1 oo b0 b1 b2 b3 0 1 od pd) (T2G c' j0 j1 j2 j3 s0' s1' oo' 1 0 od' pd') (f0 :: f1 :: f2 :: f3 :: [0, 1], [(FP.dmul od' (FP.i2d v0)), (FP.dsub (FP.i2d v1) (FP.dmul od' (FP.i2d v0))), (FP.ddiv (FP.dsub (FP.i2d v1) (FP.dmul od' (FP.i2d v0))) pd'), (FP.dmul od (FP.ddiv (FP.dsub (FP.i2d v1) (FP.dmul od' (FP.i2d v0))) pd')), (FP.dsub (FP.i2d v0) (FP.dmul od (FP.ddiv (FP.dsub (FP.i2d v1) (FP.dmul od' (FP.i2d v0))) pd'))), (FP.ddiv (FP.dsub (FP.i2d v0) (FP.dmul od (FP.ddiv (FP.dsub (FP.i2d v1) (FP.dmul od' (FP.i2d v0))) pd'))) pd), (FP.ddiv (FP.dsub (FP.i2d v0) (FP.dmul od (FP.ddiv (FP.dsub (FP.i2d v1) (FP.dmul od' (FP.i2d v0))) pd'))) pd), (FP.ddiv (FP.dsub (FP.i2d v1) (FP.dmul od' (FP.i2d v0))) pd'), (FP.dsub (FP.i2d v0) (FP.dmul od (FP.ddiv (FP.dsub (FP.i2d v1) (FP.dmul od' (FP.i2d v0))) pd')))]) U V) bs 0 la_17 [] hp_6 0 0 108 la_19 [] hp_10 0 0 :=
  Seg.trans (Seg.same (tab := [(.int 0, .float 48), (.int 1, .float 49), (.int 1, .float 61), (.int 0, .float 62)]) rfl (allC (rfl) <| allC (rfl) <| allC (rfl) <| allC (rfl) <| allN) (by decide +kernel)) (sgT hw mkA_ad ⟨mkA_c, by unfold tp_e2_00_01; exact allC (teF (by decide) n70 rfl) <| allC (teF (by decide) n71 rfl) <| allC (teF (by decide) n72 rfl) <| allC (teF (by decide) n73 rfl) <| allC (teF (by decide) n74 rfl) <| allC (teF (by decide) n75 rfl) <| allN⟩ (taN (by decide)) allN (by unfold tb_e2_00_01; exact allC (tbd ((FP.ddiv (FP.dsub (FP.i2d v0) (FP.dmul od (FP.ddiv (FP.dsub (FP.i2d v1) (FP.dmul od' (FP.i2d v0))) pd'))) pd)) rfl rfl) <| allC (tbd ((FP.ddiv (FP.dsub (FP.i2d v1) (FP.dmul od' (FP.i2d v0))) pd')) rfl rfl) <| allC (tbd ((FP.dsub (FP.i2d v0) (FP.dmul od (FP.ddiv (FP.dsub (FP.i2d v1) (FP.dmul od' (FP.i2d v0))) pd')))) rfl rfl) <| allC (rfl) <| allC (rfl) <| allN) sg_e2_00_01)
theorem own_e2_00_10 (hw : HWt a0 Z) (p0 e v0 v1 m0 m1 m2 m3 s0 s1 : Int32) (lu : List Int32) (ds : List UInt64) (n c k0 k1 k2 k3 t0 t1 oo b0 b1 b2 b3 f0 f1 f2 f3 : Int32) (od pd : UInt64) (c' j0 j1 j2 j3 s0' s1' oo' : Int32) (od' pd' : UInt64) (U V : Gp) (n72 : NaNo (FP.ddiv (FP.i2d v0) pd')) (n73 : NaNo (FP.dmul od (FP.i2d v1))) (n74 : NaNo (FP.dsub (FP.ddiv (FP.i2d v0) pd') (FP.dmul od (FP.i2d v1)))) (n75 : NaNo (FP.ddiv (FP.dsub (FP.ddiv (FP.i2d v0) pd') (FP.dmul od (FP.i2d v1))) pd)) : ST l Z (mkA bs (SG p0 e v0 v1 m0 m1 m2 m3 s0 s1 lu ds) (T1G n c k0 k1 k2 k3 t0 t1 oo b0 b1 b2 b3 0 1 od pd) (T2G c' j0 j1 j2 j3 s0' s1' oo' 0 1 od' pd') (f0 :: f1 :: f2 :: f3 :: [0, 1], [0, 0, (FP.ddiv (FP.i2d v0) pd'), (FP.dmul od (FP.i2d v1)), (FP.dsub (FP.ddiv (FP.i2d v0) pd') (FP.dmul od (FP.i2d v1))), (FP.ddiv (FP.dsub (FP.ddiv (FP.i2d v0) pd') (FP.dmul od (FP.i2d v1))) pd), (FP.ddiv (FP.dsub (FP.ddiv (FP.i2d v0) pd') (FP.dmul od (FP.i2d v1))) pd), (FP.i2d v1), (FP.dsub (FP.ddiv (FP.i2d v0) pd') (FP.dmul od (FP.i2d v1)))]) U V) bs 0 la_17 [] hp_8 0 0 108 la_19 [] hp_10 0 0 :=
  Seg.trans (Seg.same (tab := [(.int 0, .float 48), (.int 1, .float 49), (.int 0, .float 61), (.int 1, .float 62)]) rfl (allC (rfl) <| allC (rfl) <| allC (rfl) <| allC (rfl) <| allN) (by decide +kernel)) (sgT hw mkA_ad ⟨mkA_c, by unfold tp_e2_00_10; exact allC (teF (by decide) n72 rfl) <| allC (teF (by decide) n73 rfl) <| allC (teF (by decide) n74 rfl) <| allC (teF (by decide) n75 rfl) <| allN⟩ (taN (by decide)) allN (by unfold tb_e2_00_10; exact allC (tbd ((FP.ddiv (FP.dsub (FP.ddiv (FP.i2d v0) pd') (FP.dmul od (FP.i2d v1))) pd)) rfl rfl) <| allC (tbd ((FP.i2d v1)) rfl rfl) <| allC (tbd ((FP.dsub (FP.ddiv (FP.i2d v0) pd') (FP.dmul od (FP.i2d v1)))) rfl rfl) <| allC (rfl) <| allC (rfl) <| allN) sg_e2_00_10)
theorem own_e2_00_11 (hw : HWt a0 Z) (p0 e v0 v1 m0 m1 m2 m3 s0 s1 : Int32) (lu : List Int32) (ds : List UInt64) (n c k0 k1 k2 k3 t0 t1 oo b0 b1 b2 b3 f0 f1 f2 f3 : Int32) (od pd : UInt64) (c' j0 j1 j2 j3 s0' s1' oo' : Int32) (od' pd' : UInt64) (U V : Gp) (n72 : NaNo (FP.ddiv (FP.i2d v1) pd')) (n73 : NaNo (FP.dmul od (FP.ddiv (FP.i2d v1) pd'))) (n74 : NaNo (FP.dsub (FP.i2d v0) (FP.dmul od (FP.ddiv (FP.i2d v1) pd')))) (n75 : NaNo (FP.ddiv (FP.dsub (FP.i2d v0) (FP.dmul od (FP.ddiv (FP.i2d v1) pd'))) pd)) : ST l Z (mkA bs (SG p0 e v0 v1 m0 m1 m2 m3 s0 s1 lu ds) (T1G n c k0 k1 k2 k3 t0 t1 oo b0 b1 b2 b3 0 1 od pd) (T2G c' j0 j1 j2 j3 s0' s1' oo' 1 0 od' pd') (f0 :: f1 :: f2 :: f3 :: [0, 1], [0, 0, (FP.ddiv (FP.i2d v1) pd'), (FP.dmul od (FP.ddiv (FP.i2d v1) pd')), (FP.dsub (FP.i2d v0) (FP.dmul od (FP.ddiv (FP.i2d v1) pd'))), (FP.ddiv (FP.dsub (FP.i2d v0) (FP.dmul od (FP.ddiv (FP.i2d v1) pd'))) pd), (FP.ddiv (FP.dsub (FP.i2d v0) (FP.dmul od (FP.ddiv (FP.i2d v1) pd'))) pd), (FP.ddiv (FP.i2d v1) pd'), (FP.dsub (FP.i2d v0) (FP.dmul od (FP.ddiv (FP.i2d v1) pd')))]) U V) bs 0 la_17 [] hp_8 0 0 108 la_19 [] hp_10 0 0 :=
  Seg.trans (Seg.same (tab := [(.int 0, .float 48), (.int 1, .float 49), (.int 1, .float 61), (.int 0, .float 62)]) rfl (allC (rfl) <| allC (rfl) <| allC (rfl) <| allC (rfl) <| allN) (by decide +kernel)) (sgT hw mkA_ad ⟨mkA_c, by unfold tp_e2_00_11; exact allC (teF (by decide) n72 rfl) <| allC (teF (by decide) n73 rfl) <| allC (teF (by decide) n74 rfl) <| allC (teF (by decide) n75 rfl) <| allN⟩ (taN (by decide)) allN (by unfold tb_e2_00_11; exact allC (tbd ((FP.ddiv (FP.dsub (FP.i2d v0) (FP.dmul od (FP.ddiv (FP.i2d v1) pd'))) pd)) rfl rfl) <| allC (tbd ((FP.ddiv (FP.i2d v1) pd')) rfl rfl) <| allC (tbd ((FP.dsub (FP.i2d v0) (FP.dmul od (FP.ddiv (FP.i2d v1) pd')))) rfl rfl) <| allC (rfl) <| allC (rfl) <| allN) sg_e2_00_11)
theorem own_e2_01_00 (hw : HWt a0 Z) (p0 e v0 v1 m0 m1 m2 m3 s0 s1 : Int32) (lu : List Int32) (ds : List UInt64) (n c k0 k1 k2 k3 t0 t1 oo b0 b1 b2 b3 f0 f1 f2 f3 : Int32) (od pd : UInt64) (c' j0 j1 j2 j3 s0' s1' oo' : Int32) (od' pd' : UInt64) (U V : Gp) (n70 : NaNo (FP.dmul od' (FP.i2d v1))) (n71 : NaNo (FP.dsub (FP.i2d v0) (FP.dmul od' (FP.i2d v1)))) (n72 : NaNo (FP.ddiv (FP.dsub (FP.i2d v0) (FP.dmul od' (FP.i2d v1))) pd')) (n73 : NaNo (FP.dmul od (FP.ddiv (FP.dsub (FP.i2d v0) (FP.dmul od' (FP.i2d v1))) pd'))) (n74 : NaNo (FP.dsub (FP.i2d v1) (FP.dmul od (FP.ddiv (FP.dsub (FP.i2d v0) (FP.dmul od' (FP.i2d v1))) pd')))) (n75 : NaNo (FP.ddiv (FP.dsub (FP.i2d v1) (FP.dmul od (FP.ddiv (FP.dsub (FP.i2d v0) (FP.dmul od' (FP.i2d v1))) pd'))) pd)) : ST l Z (mkA bs (SG p0 e v0 v1 m0 m1 m2 m3 s0 s1 lu ds) (T1G n c k0 k1 k2 k3 t0 t1 oo b0 b1 b2 b3 1 0 od pd) (T2G c' j0 j1 j2 j3 s0' s1' oo' 0 1 od' pd') (f0 :: f1 :: f2 :: f3 :: [1, 1], [(FP.dmul od' (FP.i2d v1)), (FP.dsub (FP.i2d v0) (FP.dmul od' (FP.i2d v1))), (FP.ddiv (FP.dsub (FP.i2d v0) (FP.dmul od' (FP.i2d v1))) pd'), (FP.dmul od (FP.ddiv (FP.dsub (FP.i2d v0) (FP.dmul od' (FP.i2d v1))) pd')), (FP.dsub (FP.i2d v1) (FP.dmul od (FP.ddiv (FP.dsub (FP.i2d v0) (FP.dmul od' (FP.i2d v1))) pd'))), (FP.ddiv (FP.dsub (FP.i2d v1) (FP.dmul od (FP.ddiv (FP.dsub (FP.i2d v0) (FP.dmul od' (FP.i2d v1))) pd'))) pd), (FP.ddiv (FP.dsub (FP.i2d v0) (FP.dmul od' (FP.i2d v1))) pd'), (FP.ddiv (FP.dsub (FP.i2d v1) (FP.dmul od (FP.ddiv (FP.dsub (FP.i2d v0) (FP.dmul od' (FP.i2d v1))) pd'))) pd), (FP.dsub (FP.i2d v1) (FP.dmul od (FP.ddiv (FP.dsub (FP.i2d v0) (FP.dmul od' (FP.i2d v1))) pd')))]) U V) bs 0 la_17 [] hp_6 0 0 108 la_19 [] hp_10 0 0 :=
  Seg.trans (Seg.same (tab := [(.int 1, .float 48), (.int 0, .float 49), (.int 0, .float 61), (.int 1, .float 62)]) rfl (allC (rfl) <| allC (rfl) <| allC (rfl) <| allC (rfl) <| allN) (by decide +kernel)) (sgT hw mkA_ad ⟨mkA_c, by unfold tp_e2_01_00; exact allC (teF (by decide) n70 rfl) <| allC (teF (by decide) n71 rfl) <| allC (teF (by decide) n72 rfl) <| allC (teF (by decide) n73 rfl) <| allC (teF (by decide) n74 rfl) <| allC (teF (by decide) n75 rfl) <| allN⟩ (taN (by decide)) allN (by unfold tb_e2_01_00; exact allC (tbd ((FP.ddiv (FP.dsub (FP.i2d v0) (FP.dmul od' (FP.i2d v1))) pd')) rfl rfl) <| allC (tbd ((FP.ddiv (FP.dsub (FP.i2d v1) (FP.dmul od (FP.ddiv (FP.dsub (FP.i2d v0) (FP.dmul od' (FP.i2d v1))) pd'))) pd)) rfl rfl) <| allC (tbd ((FP.dsub (FP.i2d v1) (FP.dmul od (FP.ddiv (FP.dsub (FP.i2d v0) (FP.dmul od' (FP.i2d v1))) pd')))) rfl rfl) <| allC (rfl) <| allC (rfl) <| allN) sg_e2_01_00)
theorem own_e2_01_01 (hw : HWt a0 Z) (p0 e v0 v1 m0 m1 m2 m3 s0 s1 : Int32) (lu : List Int32) (ds : List UInt64) (n c k0 k1 k2 k3 t0 t1 oo b0 b1 b2 b3 f0 f1 f2 f3 : Int32) (od pd : UInt64) (c' j0 j1 j2 j3 s0' s1' oo' : Int32) (od' pd' : UInt64) (U V : Gp) (n70 : NaNo (FP.dmul od' (FP.i2d v0))) (n71 : NaNo (FP.dsub (FP.i2d v1) (FP.dmul od' (FP.i2d v0)))) (n72 : NaNo (FP.ddiv (FP.dsub (FP.i2d v1) (FP.dmul od' (FP.i2d v0))) pd')) (n73 : NaNo (FP.dmul od (FP.i2d v0))) (n74 : NaNo (FP.dsub (FP.ddiv (FP.dsub (FP.i2d v1) (FP.dmul od' (FP.i2d v0))) pd') (FP.dmul od (FP.i2d v0)))) (n75 : NaNo (FP.ddiv (FP.dsub (FP.ddiv (FP.dsub (FP.i2d v1) (FP.dmul od' (FP.i2d v0))) pd') (FP.dmul od (FP.i2d v0))) pd)) : ST l Z (mkA bs (SG p0 e v0 v1 m0 m1 m2 m3 s0 s1 lu ds) (T1G n c k0 k1 k2 k3 t0 t1 oo b0 b1 b2 b3 1 0 od pd) (T2G c' j0 j1 j2 j3 s0' s1' oo' 1 0 od' pd') (f0 :: f1 :: f2 :: f3 :: [1, 1], [(FP.dmul od' (FP.i2d v0)), (FP.dsub (FP.i2d v1) (FP.dmul od' (FP.i2d v0))), (FP.ddiv (FP.dsub (FP.i2d v1) (FP.dmul od' (FP.i2d v0))) pd'), (FP.dmul od (FP.i2d v0)), (FP.dsub (FP.ddiv (FP.dsub (FP.i2d v1) (FP.dmul od' (FP.i2d v0))) pd') (FP.dmul od (FP.i2d v0))), (FP.ddiv (FP.dsub (FP.ddiv (FP.dsub (FP.i2d v1) (FP.dmul od' (FP.i2d v0))) pd') (FP.dmul od (FP.i2d v0))) pd), (FP.i2d v0), (FP.ddiv (FP.dsub (FP.ddiv (FP.dsub (FP.i2d v1) (FP.dmul od' (FP.i2d v0))) pd') (FP.dmul od (FP.i2d v0))) pd), (FP.dsub (FP.ddiv (FP.dsub (FP.i2d v1) (FP.dmul od' (FP.i2d v0))) pd') (FP.dmul od (FP.i2d v0)))]) U V) bs 0 la_17 [] hp_6 0 0 108 la_19 [] hp_10 0 0 :=
  Seg.trans (Seg.same (tab := [(.int 1, .float 48), (.int 0, .float 49), (.int 1, .float 61), (.int 0, .float 62)]) rfl (allC (rfl) <| allC (rfl) <| allC (rfl) <| allC (rfl) <| allN) (by decide +kernel)) (sgT hw mkA_ad ⟨mkA_c, by unfold tp_e2_01_01; exact allC (teF (by decide) n70 rfl) <| allC (teF (by decide) n71 rfl) <| allC (teF (by decide) n72 rfl) <| allC (teF (by decide) n73 rfl) <| allC (teF (by decide) n74 rfl) <| allC (teF (by decide) n75 rfl) <| allN⟩ (taN (by decide)) allN (by unfold tb_e2_01_01; exact allC (tbd ((FP.i2d v0)) rfl rfl) <| allC (tbd ((FP.ddiv (FP.dsub (FP.ddiv (FP.dsub (FP.i2d v1) (FP.dmul od' (FP.i2d v0))) pd') (FP.dmul od (FP.i2d v0))) pd)) rfl rfl) <| allC (tbd ((FP.dsub (FP.ddiv (FP.dsub (FP.i2d v1) (FP.dmul od' (FP.i2d v0))) pd') (FP.dmul od (FP.i2d v0)))) rfl rfl) <| allC (rfl) <| allC (rfl) <| allN) sg_e2_01_01)
theorem own_e2_01_10 (hw : HWt a0 Z) (p0 e v0 v1 m0 m1 m2 m3 s0 s1 : Int32) (lu : List Int32) (ds : List UInt64) (n c k0 k1 k2 k3 t0 t1 oo b0 b1 b2 b3 f0 f1 f2 f3 : Int32) (od pd : UInt64) (c' j0 j1 j2 j3 s0' s1' oo' : Int32) (od' pd' : UInt64) (U V : Gp) (n72 : NaNo (FP.ddiv (FP.i2d v0) pd')) (n73 : NaNo (FP.dmul od (FP.ddiv (FP.i2d v0) pd'))) (n74 : NaNo (FP.dsub (FP.i2d v1) (FP.dmul od (FP.ddiv (FP.i2d v0) pd')))) (n75 : NaNo (FP.ddiv (FP.dsub (FP.i2d v1) (FP.dmul od (FP.ddiv (FP.i2d v0) pd'))) pd)) : ST l Z (mkA bs (SG p0 e v0 v1 m0 m1 m2 m3 s0 s1 lu ds) (T1G n c k0 k1 k2 k3 t0 t1 oo b0 b1 b2 b3 1 0 od pd) (T2G c' j0 j1 j2 j3 s0' s1' oo' 0 1 od' pd') (f0 :: f1 :: f2 :: f3 :: [1, 1], [0, 0, (FP.ddiv (FP.i2d v0) pd'), (FP.dmul od (FP.ddiv (FP.i2d v0) pd')), (FP.dsub (FP.i2d v1) (FP.dmul od (FP.ddiv (FP.i2d v0) pd'))), (FP.ddiv (FP.dsub (FP.i2d v1) (FP.dmul od (FP.ddiv (FP.i2d v0) pd'))) pd), (FP.ddiv (FP.i2d v0) pd'), (FP.ddiv (FP.dsub (FP.i2d v1) (FP.dmul od (FP.ddiv (FP.i2d v0) pd'))) pd), (FP.dsub (FP.i2d v1) (FP.dmul od (FP.ddiv (FP.i2d v0) pd')))]) U V) bs 0 la_17 [] hp_8 0 0 108 la_19 [] hp_10 0 0 :=
  Seg.trans (Seg.same (tab := [(.int 1, .float 48), (.int 0, .float 49), (.int 0, .float 61), (.int 1, .float 62)]) rfl (allC (rfl) <| allC (rfl) <| allC (rfl) <| allC (rfl) <| allN) (by decide +kernel)) (sgT hw mkA_ad ⟨mkA_c, by unfold tp_e2_01_10; exact allC (teF (by decide) n72 rfl) <| allC (teF (by decide) n73 rfl) <| allC (teF (by decide) n74 rfl) <| allC (teF (by decide) n75 rfl) <| allN⟩ (taN (by decide)) allN (by unfold tb_e2_01_10; exact allC (tbd ((FP.ddiv (FP.i2d v0) pd')) rfl rfl) <| allC (tbd ((FP.ddiv (FP.dsub (FP.i2d v1) (FP.dmul od (FP.ddiv (FP.i2d v0) pd'))) pd)) rfl rfl) <| allC (tbd ((FP.dsub (FP.i2d v1) (FP.dmul od (FP.ddiv (FP.i2d v0) pd')))) rfl rfl) <| allC (rfl) <| allC (rfl) <| allN) sg_e2_01_10)
theorem own_e2_01_11 (hw : HWt a0 Z) (p0 e v0 v1 m0 m1 m2 m3 s0 s1 : Int32) (lu : List Int32) (ds : List UInt64) (n c k0 k1 k2 k3 t0 t1 oo b0 b1 b2 b3 f0 f1 f2 f3 : Int32) (od pd : UInt64) (c' j0 j1 j2 j3 s0' s1' oo' : Int32) (od' pd' : UInt64) (U V : Gp) (n72 : NaNo (FP.ddiv (FP.i2d v1) pd')) (n73 : NaNo (FP.dmul od (FP.i2d v0))) (n74 : NaNo (FP.dsub (FP.ddiv (FP.i2d v1) pd') (FP.dmul od (FP.i2d v0)))) (n75 : NaNo (FP.ddiv (FP.dsub (FP.ddiv (FP.i2d v1) pd') (FP.dmul od (FP.i2d v0))) pd)) : ST l Z (mkA bs (SG p0 e v0 v1 m0 m1 m2 m3 s0 s1 lu ds) (T1G n c k0 k1 k2 k3 t0 t1 oo b0 b1 b2 b3 1 0 od pd) (T2G c' j0 j1 j2 j3 s0' s1' oo' 1 0 od' pd') (f0 :: f1 :: f2 :: f3 :: [1, 1], [0, 0, (FP.ddiv (FP.i2d v1) pd'), (FP.dmul od (FP.i2d v0)), (FP.dsub (FP.ddiv (FP.i2d v1) pd') (FP.dmul od (FP.i2d v0))), (FP.ddiv (FP.dsub (FP.ddiv (FP.i2d v1) pd') (FP.dmul od (FP.i2d v0))) pd), (FP.i2d v0), (FP.ddiv (FP.dsub (FP.ddiv (FP.i2d v1) pd') (FP.dmul od (FP.i2d v0))) pd), (FP.dsub (FP.ddiv (FP.i2d v1) pd') (FP.dmul od (FP.i2d v0)))]) U V) bs 0 la_17 [] hp_8 0 0 108 la_19 [] hp_10 0 0 :=
  Seg.trans (Seg.same (tab := [(.int 1, .float 48), (.int 0, .float 49), (.int 1, .float 61), (.int 0, .float 62)]) rfl (allC (rfl) <| allC (rfl) <| allC (rfl) <| allC (rfl) <| allN) (by decide +kernel)) (sgT hw mkA_ad ⟨mkA_c, by unfold tp_e2_01_11; exact allC (teF (by decide) n72 rfl) <| allC (teF (by decide) n73 rfl) <| allC (teF (by decide) n74 rfl) <| allC (teF (by decide) n75 rfl) <| allN⟩ (taN (by decide)) allN (by unfold tb_e2_01_11; exact allC (tbd ((FP.i2d v0)) rfl rfl) <| allC (tbd ((FP.ddiv (FP.dsub (FP.ddiv (FP.i2d v1) pd') (FP.dmul od (FP.i2d v0))) pd)) rfl rfl) <| allC (tbd ((FP.dsub (FP.ddiv (FP.i2d v1) pd') (FP.dmul od (FP.i2d v0)))) rfl rfl) <| allC (rfl) <| allC (rfl) <| allN) sg_e2_01_11)
theorem own_e2_10_00 (hw : HWt a0 Z) (p0 e v0 v1 m0 m1 m2 m3 s0 s1 : Int32) (lu : List Int32) (ds : List UInt64) (n c k0 k1 k2 k3 t0 t1 oo b0 b1 b2 b3 f0 f1 f2 f3 : Int32) (od pd : UInt64) (c' j0 j1 j2 j3 s0' s1' oo' : Int32) (od' pd' : UInt64) (U V : Gp) (n70 : NaNo (FP.dmul od' (FP.i2d v1))) (n71 : NaNo (FP.dsub (FP.i2d v0) (FP.dmul od' (FP.i2d v1)))) (n72 : NaNo (FP.ddiv (FP.dsub (FP.i2d v0) (FP.dmul od' (FP.i2d v1))) pd')) (n75 : NaNo (FP.ddiv (FP.ddiv (FP.dsub (FP.i2d v0) (FP.dmul od' (FP.i2d v1))) pd') pd)) : ST l Z (mkA bs (SG p0 e v0 v1 m0 m1 m2 m3 s0 s1 lu ds) (T1G n c k0 k1 k2 k3 t0 t1 oo b0 b1 b2 b3 0 1 od pd) (T2G c' j0 j1 j2 j3 s0' s1' oo' 0 1 od' pd') (f0 :: f1 :: f2 :: f3 :: [0, 0], [(FP.dmul od' (FP.i2d v1)), (FP.dsub (FP.i2d v0) (FP.dmul od' (FP.i2d v1))), (FP.ddiv (FP.dsub (FP.i2d v0) (FP.dmul od' (FP.i2d v1))) pd'), 0, 0, (FP.ddiv (FP.ddiv (FP.dsub (FP.i2d v0) (FP.dmul od' (FP.i2d v1))) pd') pd), (FP.ddiv (FP.ddiv (FP.dsub (FP.i2d v0) (FP.dmul od' (FP.i2d v1))) pd') pd), (FP.i2d v1), (FP.ddiv (FP.dsub (FP.i2d v0) (FP.dmul od' (FP.i2d v1))) pd')]) U V) bs 0 la_17 [] hp_7 0 0 108 la_19 [] hp_10 0 0 :=
  Seg.trans (Seg.same (tab := [(.int 0, .float 48), (.int 1, .float 49), (.int 0, .float 61), (.int 1, .float 62)]) rfl (allC (rfl) <| allC (rfl) <| allC (rfl) <| allC (rfl) <| allN) (by decide +kernel)) (sgT hw mkA_ad ⟨mkA_c, by unfold tp_e2_10_00; exact allC (teF (by decide) n70 rfl) <| allC (teF (by decide) n71 rfl) <| allC (teF (by decide) n72 rfl) <| allC (teF (by decide) n75 rfl) <| allN⟩ (taN (by decide)) allN (by unfold tb_e2_10_00; exact allC (tbd ((FP.ddiv (FP.ddiv (FP.dsub (FP.i2d v0) (FP.dmul od' (FP.i2d v1))) pd') pd)) rfl rfl) <| allC (tbd ((FP.i2d v1)) rfl rfl) <| allC (tbd ((FP.ddiv (FP.dsub (FP.i2d v0) (FP.dmul od' (FP.i2d v1))) pd')) rfl rfl) <| allC (rfl) <| allC (rfl) <| allN) sg_e2_10_00)
theorem own_e2_10_01 (hw : HWt a0 Z) (p0 e v0 v1 m0 m1 m2 m3 s0 s1 : Int32) (lu : List Int32) (ds : List UInt64) (n c k0 k1 k2 k3 t0 t1 oo b0 b1 b2 b3 f0 f1 f2 f3 : Int32) (od pd : UInt64) (c' j0 j1 j2 j3 s0' s1' oo' : Int32) (od' pd' : UInt64) (U V : Gp) (n70 : NaNo (FP.dmul od' (FP.i2d v0))) (n71 : NaNo (FP.dsub (FP.i2d v1) (FP.dmul od' (FP.i2d v0)))) (n72 : NaNo (FP.ddiv (FP.dsub (FP.i2d v1) (FP.dmul od' (FP.i2d v0))) pd')) (n75 : NaNo (FP.ddiv (FP.i2d v0) pd)) : ST l Z (mkA bs (SG p0 e v0 v1 m0 m1 m2 m3 s0 s1 lu ds) (T1G n c k0 k1 k2 k3 t0 t1 oo b0 b1 b2 b3 0 1 od pd) (T2G c' j0 j1 j2 j3 s0' s1' oo' 1 0 od' pd') (f0 :: f1 :: f2 :: f3 :: [0, 0], [(FP.dmul od' (FP.i2d v0)), (FP.dsub (FP.i2d v1) (FP.dmul od' (FP.i2d v0))), (FP.ddiv (FP.dsub (FP.i2d v1) (FP.dmul od' (FP.i2d v0))) pd'), 0, 0, (FP.ddiv (FP.i2d v0) pd), (FP.ddiv (FP.i2d v0) pd), (FP.ddiv (FP.dsub (FP.i2d v1) (FP.dmul od' (FP.i2d v0))) pd'), (FP.i2d v0)]) U V) bs 0 la_17 [] hp_7 0 0 108 la_19 [] hp_10 0 0 :=
  Seg.trans (Seg.same (tab := [(.int 0, .float 48), (.int 1, .float 49), (.int 1, .float 61), (.int 0, .float 62)]) rfl (allC (rfl) <| allC (rfl) <| allC (rfl) <| allC (rfl) <| allN) (by decide +kernel)) (sgT hw mkA_ad ⟨mkA_c, by unfold tp_e2_10_01; exact allC (teF (by decide) n70 rfl) <| allC (teF (by decide) n71 rfl) <| allC (teF (by decide) n72 rfl) <| allC (teF (by decide) n75 rfl) <| allN⟩ (taN (by decide)) allN (by unfold tb_e2_10_01; exact allC (tbd ((FP.ddiv (FP.i2d v0) pd)) rfl rfl) <| allC (tbd ((FP.ddiv (FP.dsub (FP.i2d v1) (FP.dmul od' (FP.i2d v0))) pd')) rfl rfl) <| allC (tbd ((FP.i2d v0)) rfl rfl) <| allC (rfl) <| allC (rfl) <| allN) sg_e2_10_01)
theorem own_e2_10_10 (hw : HWt a0 Z) (p0 e v0 v1 m0 m1 m2 m3 s0 s1 : Int32) (lu : List Int32) (ds : List UInt64) (n c k0 k1 k2 k3 t0 t1 oo b0 b1 b2 b3 f0 f1 f2 f3 : Int32) (od pd : UInt64) (c' j0 j1 j2 j3 s0' s1' oo' : Int32) (od' pd' : UInt64) (U V : Gp) (n72 : NaNo (FP.ddiv (FP.i2d v0) pd')) (n75 : NaNo (FP.ddiv (FP.ddiv (FP.i2d v0) pd') pd)) : ST l Z (mkA bs (SG p0 e v0 v1 m0 m1 m2 m3 s0 s1 lu ds) (T1G n c k0 k1 k2 k3 t0 t1 oo b0 b1 b2 b3 0 1 od pd) (T2G c' j0 j1 j2 j3 s0' s1' oo' 0 1 od' pd') (f0 :: f1 :: f2 :: f3 :: [0, 0], [0, 0, (FP.ddiv (FP.i2d v0) pd'), 0, 0, (FP.ddiv (FP.ddiv (FP.i2d v0) pd') pd), (FP.ddiv (FP.ddiv (FP.i2d v0) pd') pd), (FP.i2d v1), (FP.ddiv (FP.i2d v0) pd')]) U V) bs 0 la_17 [] hp_9 0 0 108 la_19 [] hp_10 0 0 :=
  Seg.trans (Seg.same (tab := [(.int 0, .float 48), (.int 1, .float 49), (.int 0, .float 61), (.int 1, .float 62)]) rfl (allC (rfl) <| allC (rfl) <| allC (rfl) <| allC (rfl) <| allN) (by decide +kernel)) (sgT hw mkA_ad ⟨mkA_c, by unfold tp_e2_10_10; exact allC (teF (by decide) n72 rfl) <| allC (teF (by decide) n75 rfl) <| allN⟩ (taN (by decide)) allN (by unfold tb_e2_10_10; exact allC (tbd ((FP.ddiv (FP.ddiv (FP.i2d v0) pd') pd)) rfl rfl) <| allC (tbd ((FP.i2d v1)) rfl rfl) <| allC (tbd ((FP.ddiv (FP.i2d v0) pd')) rfl rfl) <| allC (rfl) <| allC (rfl) <| allN) sg_e2_10_10)
theorem own_e2_10_11 (hw : HWt a0 Z) (p0 e v0 v1 m0 m1 m2 m3 s0 s1 : Int32) (lu : List Int32) (ds : List UInt64) (n c k0 k1 k2 k3 t0 t1 oo b0 b1 b2 b3 f0 f1 f2 f3 : Int32) (od pd : UInt64) (c' j0 j1 j2 j3 s0' s1' oo' : Int32) (od' pd' : UInt64) (U V : Gp) (n72 : NaNo (FP.ddiv (FP.i2d v1) pd')) (n75 : NaNo (FP.ddiv (FP.i2d v0) pd)) : ST l Z (mkA bs (SG p0 e v0 v1 m0 m1 m2 m3 s0 s1 lu ds) (T1G n c k0 k1 k2 k3 t0 t1 oo b0 b1 b2 b3 0 1 od pd) (T2G c' j0 j1 j2 j3 s0' s1' oo' 1 0 od' pd') (f0 :: f1 :: f2 :: f3 :: [0, 0], [0, 0, (FP.ddiv (FP.i2d v1) pd'), 0, 0, (FP.ddiv (FP.i2d v0) pd), (FP.ddiv (FP.i2d v0) pd), (FP.ddiv (FP.i2d v1) pd'), (FP.i2d v0)]) U V) bs 0 la_17 [] hp_9 0 0 108 la_19 [] hp_10 0 0 :=
  Seg.trans (Seg.same (tab := [(.int 0, .float 48), (.int 1, .float 49), (.int 1, .float 61), (.int 0, .float 62)]) rfl (allC (rfl) <| allC (rfl) <| allC (rfl) <| allC (rfl) <| allN) (by decide +kernel)) (sgT hw mkA_ad ⟨mkA_c, by unfold tp_e2_10_11; exact allC (teF (by decide) n72 rfl) <| allC (teF (by decide) n75 rfl) <| allN⟩ (taN (by decide)) allN (by unfold tb_e2_10_11; exact allC (tbd ((FP.ddiv (FP.i2d v0) pd)) rfl rfl) <| allC (tbd ((FP.ddiv (FP.i2d v1) pd')) rfl rfl) <| allC (tbd ((FP.i2d v0)) rfl rfl) <| allC (rfl) <| allC (rfl) <| allN) sg_e2_10_11)
theorem own_e2_11_00 (hw : HWt a0 Z) (p0 e v0 v1 m0 m1 m2 m3 s0 s1 : Int32) (lu : List Int32) (ds : List UInt64) (n c k0 k1 k2 k3 t0 t1 oo b0 b1 b2 b3 f0 f1 f2 f3 : Int32) (od pd : UInt64) (c' j0 j1 j2 j3 s0' s1' oo' : Int32) (od' pd' : UInt64) (U V : Gp) (n70 : NaNo (FP.dmul od' (FP.i2d v1))) (n71 : NaNo (FP.dsub (FP.i2d v0) (FP.dmul od' (FP.i2d v1)))) (n72 : NaNo (FP.ddiv (FP.dsub (FP.i2d v0) (FP.dmul od' (FP.i2d v1))) pd')) (n75 : NaNo (FP.ddiv (FP.i2d v1) pd)) : ST l Z (mkA bs (SG p0 e v0 v1 m0 m1 m2 m3 s0 s1 lu ds) (T1G n c k0 k1 k2 k3 t0 t1 oo b0 b1 b2 b3 1 0 od pd) (T2G c' j0 j1 j2 j3 s0' s1' oo' 0 1 od' pd') (f0 :: f1 :: f2 :: f3 :: [1, 0], [(FP.dmul od' (FP.i2d v1)), (FP.dsub (FP.i2d v0) (FP.dmul od' (FP.i2d v1))), (FP.ddiv (FP.dsub (FP.i2d v0) (FP.dmul od' (FP.i2d v1))) pd'), 0, 0, (FP.ddiv (FP.i2d v1) pd), (FP.ddiv (FP.dsub (FP.i2d v0) (FP.dmul od' (FP.i2d v1))) pd'), (FP.ddiv (FP.i2d v1) pd), (FP.i2d v1)]) U V) bs 0 la_17 [] hp_7 0 0 108 la_19 [] hp_10 0 0 :=
  Seg.trans (Seg.same (tab := [(.int 1, .float 48), (.int 0, .float 49), (.int 0, .float 61), (.int 1, .float 62)]) rfl (allC (rfl) <| allC (rfl) <| allC (rfl) <| allC (rfl) <| allN) (by decide +kernel)) (sgT hw mkA_ad ⟨mkA_c, by unfold tp_e2_11_00; exact allC (teF (by decide) n70 rfl) <| allC (teF (by decide) n71 rfl) <| allC (teF (by decide) n72 rfl) <| allC (teF (by decide) n75 rfl) <| allN⟩ (taN (by decide)) allN (by unfold tb_e2_11_00; exact allC (tbd ((FP.ddiv (FP.dsub (FP.i2d v0) (FP.dmul od' (FP.i2d v1))) pd')) rfl rfl) <| allC (tbd ((FP.ddiv (FP.i2d v1) pd)) rfl rfl) <| allC (tbd ((FP.i2d v1)) rfl rfl) <| allC (rfl) <| allC (rfl) <| allN) sg_e2_11_00)
theorem own_e2_11_01 (hw : HWt a0 Z) (p0 e v0 v1 m0 m1 m2 m3 s0 s1 : Int32) (lu : List Int32) (ds : List UInt64) (n c k0 k1 k2 k3 t0 t1 oo b0 b1 b2 b3 f0 f1 f2 f3 : Int32) (od pd : UInt64) (c' j0 j1 j2 j3 s0' s1' oo' : Int32) (od' pd' : UInt64) (U V : Gp) (n70 : NaNo (FP.dmul od' (FP.i2d v0))) (n71 : NaNo (FP.dsub (FP.i2d v1) (FP.dmul od' (FP.i2d v0)))) (n72 : NaNo (FP.ddiv (FP.dsub (FP.i2d v1) (FP.dmul od' (FP.i2d v0))) pd')) (n75 : NaNo (FP.ddiv (FP.ddiv (FP.dsub (FP.i2d v1) (FP.dmul od' (FP.i2d v0))) pd') pd)) : ST l Z (mkA bs (SG p0 e v0 v1 m0 m1 m2 m3 s0 s1 lu ds) (T1G n c k0 k1 k2 k3 t0 t1 oo b0 b1 b2 b3 1 0 od pd) (T2G c' j0 j1 j2 j3 s0' s1' oo' 1 0 od' pd') (f0 :: f1 :: f2 :: f3 :: [1, 0], [(FP.dmul od' (FP.i2d v0)), (FP.dsub (FP.i2d v1) (FP.dmul od' (FP.i2d v0))), (FP.ddiv (FP.dsub (FP.i2d v1) (FP.dmul od' (FP.i2d v0))) pd'), 0, 0, (FP.ddiv (FP.ddiv (FP.dsub (FP.i2d v1) (FP.dmul od' (FP.i2d v0))) pd') pd), (FP.i2d v0), (FP.ddiv (FP.ddiv (FP.dsub (FP.i2d v1) (FP.dmul od' (FP.i2d v0))) pd') pd), (FP.ddiv (FP.dsub (FP.i2d v1) (FP.dmul od' (FP.i2d v0))) pd')]) U V) bs 0 la_17 [] hp_7 0 0 108 la_19 [] hp_10 0 0 :=
  Seg.trans (Seg.same (tab := [(.int 1, .float 48), (.int 0, .float 49), (.int 1, .float 61), (.int 0, .float 62)]) rfl (allC (rfl) <| allC (rfl) <| allC (rfl) <| allC (rfl) <| allN) (by decide +kernel)) (sgT hw mkA_ad ⟨mkA_c, by unfold tp_e2_11_01; exact allC (teF (by decide) n70 rfl) <| allC (teF (by decide) n71 rfl) <| allC (teF (by decide) n72 rfl) <| allC (teF (by decide) n75 rfl) <| allN⟩ (taN (by decide)) allN (by unfold tb_e2_11_01; exact allC (tbd ((FP.i2d v0)) rfl rfl) <| allC (tbd ((FP.ddiv (FP.ddiv (FP.dsub (FP.i2d v1) (FP.dmul od' (FP.i2d v0))) pd') pd)) rfl rfl) <| allC (tbd ((FP.ddiv (FP.dsub (FP.i2d v1) (FP.dmul od' (FP.i2d v0))) pd')) rfl rfl) <| allC (rfl) <| allC (rfl) <| allN) sg_e2_11_01)
theorem own_e2_11_10 (hw : HWt a0 Z) (p0 e v0 v1 m0 m1 m2 m3 s0 s1 : Int32) (lu : List Int32) (ds : List UInt64) (n c k0 k1 k2 k3 t0 t1 oo b0 b1 b2 b3 f0 f1 f2 f3 : Int32) (od pd : UInt64) (c' j0 j1 j2 j3 s0' s1' oo' : Int32) (od' pd' : UInt64) (U V : Gp) (n72 : NaNo (FP.ddiv (FP.i2d v0) pd')) (n75 : NaNo (FP.ddiv (FP.i2d v1) pd)) : ST l Z (mkA bs (SG p0 e v0 v1 m0 m1 m2 m3 s0 s1 lu ds) (T1G n c k0 k1 k2 k3 t0 t1 oo b0 b1 b2 b3 1 0 od pd) (T2G c' j0 j1 j2 j3 s0' s1' oo' 0 1 od' pd') (f0 :: f1 :: f2 :: f3 :: [1, 0], [0, 0, (FP.ddiv (FP.i2d v0) pd'), 0, 0, (FP.ddiv (FP.i2d v1) pd), (FP.ddiv (FP.i2d v0) pd'), (FP.ddiv (FP.i2d v1) pd), (FP.i2d v1)]) U V) bs 0 la_17 [] hp_9 0 0 108 la_19 [] hp_10 0 0 :=
  Seg.trans (Seg.same (tab := [(.int 1, .float 48), (.int 0, .float 49), (.int 0, .float 61), (.int 1, .float 62)]) rfl (allC (rfl) <| allC (rfl) <| allC (rfl) <| allC (rfl) <| allN) (by decide +kernel)) (sgT hw mkA_ad ⟨mkA_c, by unfold tp_e2_11_10; exact allC (teF (by decide) n72 rfl) <| allC (teF (by decide) n75 rfl) <| allN⟩ (taN (by decide)) allN (by unfold tb_e2_11_10; exact allC (tbd ((FP.ddiv (FP.i2d v0) pd')) rfl rfl) <| allC (tbd ((FP.ddiv (FP.i2d v1) pd)) rfl rfl) <| allC (tbd ((FP.i2d v1)) rfl rfl) <| allC (rfl) <| allC (rfl) <| allN) sg_e2_11_10)
theorem own_e2_11_11 (hw : HWt a0 Z) (p0 e v0 v1 m0 m1 m2 m3 s0 s1 : Int32) (lu : List Int32) (ds : List UInt64) (n c k0 k1 k2 k3 t0 t1 oo b0 b1 b2 b3 f0 f1 f2 f3 : Int32) (od pd : UInt64) (c' j0 j1 j2 j3 s0' s1' oo' : Int32) (od' pd' : UInt64) (U V : Gp) (n72 : NaNo (FP.ddiv (FP.i2d v1) pd')) (n75 : NaNo (FP.ddiv (FP.ddiv (FP.i2d v1) pd') pd)) : ST l Z (mkA bs (SG p0 e v0 v1 m0 m1 m2 m3 s0 s1 lu ds) (T1G n c k0 k1 k2 k3 t0 t1 oo b0 b1 b2 b3 1 0 od pd) (T2G c' j0 j1 j2 j3 s0' s1' oo' 1 0 od' pd') (f0 :: f1 :: f2 :: f3 :: [1, 0], [0, 0, (FP.ddiv (FP.i2d v1) pd'), 0, 0, (FP.ddiv (FP.ddiv (FP.i2d v1) pd') pd), (FP.i2d v0), (FP.ddiv (FP.ddiv (FP.i2d v1) pd') pd), (FP.ddiv (FP.i2d v1) pd')]) U V) bs 0 la_17 [] hp_9 0 0 108 la_19 [] hp_10 0 0 :=
  Seg.trans (Seg.same (tab := [(.int 1, .float 48), (.int 0, .float 49), (.int 1, .float 61), (.int 0, .float 62)]) rfl (allC (rfl) <| allC (rfl) <| allC (rfl) <| allC (rfl) <| allN) (by decide +kernel)) (sgT hw mkA_ad ⟨mkA_c, by unfold tp_e2_11_11; exact allC (teF (by decide) n72 rfl) <| allC (teF (by decide) n75 rfl) <| allN⟩ (taN (by decide)) allN (by unfold tb_e2_11_11; exact allC (tbd ((FP.i2d v0)) rfl rfl) <| allC (tbd ((FP.ddiv (FP.ddiv (FP.i2d v1) pd') pd)) rfl rfl) <| allC (tbd ((FP.ddiv (FP.i2d v1) pd')) rfl rfl) <| allC (rfl) <| allC (rfl) <| allN) sg_e2_11_11)
theorem own_eta1 (hw : HWt a0 Z) (p0 e v0 v1 m0 m1 m2 m3 s0 s1 : Int32) (lu : List Int32) (ds : List UInt64) (n c k0 k1 k2 k3 t0 t1 oo b0 b1 b2 b3 ps oi : Int32) (od pd : UInt64) (z : Bool) (hC : CHG z ps oi od pd m0.toInt m1.toInt m2.toInt m3.toInt b0.toInt b1.toInt b2.toInt b3.toInt) : ∃ (fi : List Int32) (fd : List UInt64), WOK (fd.getD 6 0) (fd.getD 7 0) v0.toInt v1.toInt m0.toInt m1.toInt m2.toInt m3.toInt b0.toInt b1.toInt b2.toInt b3.toInt ∧ ∀ T2 U V, ST l Z (mkA bs (SG p0 e v0 v1 m0 m1 m2 m3 s0 s1 lu ds) (T1G n c k0 k1 k2 k3 t0 t1 oo b0 b1 b2 b3 ps oi od pd) T2 (b0 :: b1 :: b2 :: b3 :: fi, fd) U V) bs 0 la_17 [] (GA1b z) 0 0 108 la_19 [] hp_10 0 0 := by
  obtain ⟨P, O, hP, dP, hz1, hz0, hh⟩ := hC
  have bv0 := own_v32 v0
  have bv1 := own_v32 v1
  have dv0 := i2d_int v0
  have dv1 := i2d_int v1
  cases z <;> rcases hh with ⟨rfl, rfl, e0, e1, e2, e3⟩ | ⟨rfl, rfl, e0, e1, e2, e3⟩
  · obtain ⟨hO, dO⟩ := hz0 rfl
    obtain ⟨xm1, xs1⟩ := own_sub dv0 dv1 dO hO (by omega) (by omega)
    have xc1 := own_bd hO bv0 bv1
    have xq1 := own_q xs1 dP hP (by omega)
    have xg1 := own_bp hP xc1
    refine ⟨[0, 1], [(FP.dmul od (FP.i2d v1)), (FP.dsub (FP.i2d v0) (FP.dmul od (FP.i2d v1))), (FP.ddiv (FP.dsub (FP.i2d v0) (FP.dmul od (FP.i2d v1))) pd), 0, 0, 0, (FP.ddiv (FP.dsub (FP.i2d v0) (FP.dmul od (FP.i2d v1))) pd), (FP.i2d v1), (FP.dsub (FP.i2d v0) (FP.dmul od (FP.i2d v1)))], ⟨_, _, xq1, dv1, by omega, by omega, ?_⟩, fun T2 U V => own_e1_00 hw p0 e v0 v1 m0 m1 m2 m3 s0 s1 lu ds n c k0 k1 k2 k3 t0 t1 oo b0 b1 b2 b3 b0 b1 b2 b3 od pd T2 U V (nnD xm1) (nnD xs1) (nnD xq1)⟩
    exact fun Y0 Y1 h0 h1 => by
      rw [e0, e1, e2, e3]
      exact ⟨own_col h0 h1 (own_back hP), h1⟩
  · obtain ⟨hO, dO⟩ := hz0 rfl
    obtain ⟨xm1, xs1⟩ := own_sub dv1 dv0 dO hO (by omega) (by omega)
    have xc1 := own_bd hO bv1 bv0
    have xq1 := own_q xs1 dP hP (by omega)
    have xg1 := own_bp hP xc1
    refine ⟨[1, 1], [(FP.dmul od (FP.i2d v0)), (FP.dsub (FP.i2d v1) (FP.dmul od (FP.i2d v0))), (FP.ddiv (FP.dsub (FP.i2d v1) (FP.dmul od (FP.i2d v0))) pd), 0, 0, 0, (FP.i2d v0), (FP.ddiv (FP.dsub (FP.i2d v1) (FP.dmul od (FP.i2d v0))) pd), (FP.dsub (FP.i2d v1) (FP.dmul od (FP.i2d v0)))], ⟨_, _, dv0, xq1, by omega, by omega, ?_⟩, fun T2 U V => own_e1_01 hw p0 e v0 v1 m0 m1 m2 m3 s0 s1 lu ds n c k0 k1 k2 k3 t0 t1 oo b0 b1 b2 b3 b0 b1 b2 b3 od pd T2 U V (nnD xm1) (nnD xs1) (nnD xq1)⟩
    exact fun Y0 Y1 h0 h1 => by
      rw [e0, e1, e2, e3]
      exact ⟨h0, own_col' h0 h1 (own_back hP)⟩
  · obtain rfl := hz1 rfl
    have xq1 := own_q dv0 dP hP (by omega)
    have xg1 := own_bp hP bv0
    refine ⟨[0, 0], [0, 0, (FP.ddiv (FP.i2d v0) pd), 0, 0, 0, (FP.ddiv (FP.i2d v0) pd), (FP.i2d v1), (FP.i2d v0)], ⟨_, _, xq1, dv1, by omega, by omega, ?_⟩, fun T2 U V => own_e1_10 hw p0 e v0 v1 m0 m1 m2 m3 s0 s1 lu ds n c k0 k1 k2 k3 t0 t1 oo b0 b1 b2 b3 b0 b1 b2 b3 od pd T2 U V (nnD xq1)⟩
    exact fun Y0 Y1 h0 h1 => by
      rw [e0, e1, e2, e3]
      exact ⟨own_col h0 h1 (own_back0 hP), h1⟩
  · obtain rfl := hz1 rfl
    have xq1 := own_q dv1 dP hP (by omega)
    have xg1 := own_bp hP bv1
    refine ⟨[1, 0], [0, 0, (FP.ddiv (FP.i2d v1) pd), 0, 0, 0, (FP.i2d v0), (FP.ddiv (FP.i2d v1) pd), (FP.i2d v1)], ⟨_, _, dv0, xq1, by omega, by omega, ?_⟩, fun T2 U V => own_e1_11 hw p0 e v0 v1 m0 m1 m2 m3 s0 s1 lu ds n c k0 k1 k2 k3 t0 t1 oo b0 b1 b2 b3 b0 b1 b2 b3 od pd T2 U V (nnD xq1)⟩
    exact fun Y0 Y1 h0 h1 => by
      rw [e0, e1, e2, e3]
      exact ⟨h0, own_col' h0 h1 (own_back0 hP)⟩
theorem own_eta2 (hw : HWt a0 Z) (p0 e v0 v1 m0 m1 m2 m3 s0 s1 : Int32) (lu : List Int32) (ds : List UInt64) (n c k0 k1 k2 k3 t0 t1 oo b0 b1 b2 b3 ps oi : Int32) (od pd : UInt64) (y z : Bool) (c' s0' s1' oo' ps' oi' a0_ a1 a2 a3 : Int32) (od' pd' : UInt64) (hC : CHG y ps oi od pd m0.toInt m1.toInt m2.toInt m3.toInt b0.toInt b1.toInt b2.toInt b3.toInt) (hC' : CHG z ps' oi' od' pd' b0.toInt b1.toInt b2.toInt b3.toInt a0_.toInt a1.toInt a2.toInt a3.toInt) : ∃ (fi : List Int32) (fd : List UInt64), WOK (fd.getD 6 0) (fd.getD 7 0) v0.toInt v1.toInt m0.toInt m1.toInt m2.toInt m3.toInt a0_.toInt a1.toInt a2.toInt a3.toInt ∧ ∀ U V, ST l Z (mkA bs (SG p0 e v0 v1 m0 m1 m2 m3 s0 s1 lu ds) (T1G n c k0 k1 k2 k3 t0 t1 oo b0 b1 b2 b3 ps oi od pd) (T2G c' b0 b1 b2 b3 s0' s1' oo' ps' oi' od' pd') (a0_ :: a1 :: a2 :: a3 :: fi, fd) U V) bs 0 la_17 [] (GA2b y z) 0 0 108 la_19 [] hp_10 0 0 := by
  obtain ⟨P, O, hP, dP, hz1, hz0, hh⟩ := hC
  obtain ⟨P', O', hP', dP', hz1', hz0', hh'⟩ := hC'
  have bv0 := own_v32 v0
  have bv1 := own_v32 v1
  have dv0 := i2d_int v0
  have dv1 := i2d_int v1
  cases y <;> rcases hh with ⟨rfl, rfl, e0, e1, e2, e3⟩ | ⟨rfl, rfl, e0, e1, e2, e3⟩ <;> cases z <;> rcases hh' with ⟨rfl, rfl, e0', e1', e2', e3'⟩ | ⟨rfl, rfl, e0', e1', e2', e3'⟩
  · obtain ⟨hO, dO⟩ := hz0 rfl
    obtain ⟨hO', dO'⟩ := hz0' rfl
    obtain ⟨xm1, xs1⟩ := own_sub dv0 dv1 dO' hO' (by omega) (by omega)
    have xc1 := own_bd hO' bv0 bv1
    have xq1 := own_q xs1 dP' hP' (by omega)
    have xg1 := own_bp hP' xc1
    obtain ⟨xm2, xs2⟩ := own_sub xq1 dv1 dO hO (by omega) (by omega)
    have xc2 := own_bd hO xg1 bv1
    have xq2 := own_q xs2 dP hP (by omega)
    have xg2 := own_bp hP xc2
    refine ⟨[0, 1], [(FP.dmul od' (FP.i2d v1)), (FP.dsub (FP.i2d v0) (FP.dmul od' (FP.i2d v1))), (FP.ddiv (FP.dsub (FP.i2d v0) (FP.dmul od' (FP.i2d v1))) pd'), (FP.dmul od (FP.i2d v1)), (FP.dsub (FP.ddiv (FP.dsub (FP.i2d v0) (FP.dmul od' (FP.i2d v1))) pd') (FP.dmul od (FP.i2d v1))), (FP.ddiv (FP.dsub (FP.ddiv (FP.dsub (FP.i2d v0) (FP.dmul od' (FP.i2d v1))) pd') (FP.dmul od (FP.i2d v1))) pd), (FP.ddiv (FP.dsub (FP.ddiv (FP.dsub (FP.i2d v0) (FP.dmul od' (FP.i2d v1))) pd') (FP.dmul od (FP.i2d v1))) pd), (FP.i2d v1), (FP.dsub (FP.ddiv (FP.dsub (FP.i2d v0) (FP.dmul od' (FP.i2d v1))) pd') (FP.dmul od (FP.i2d v1)))], ⟨_, _, xq2, dv1, by omega, by omega, ?_⟩, fun U V => own_e2_00_00 hw p0 e v0 v1 m0 m1 m2 m3 s0 s1 lu ds n c k0 k1 k2 k3 t0 t1 oo b0 b1 b2 b3 a0_ a1 a2 a3 od pd c' b0 b1 b2 b3 s0' s1' oo' od' pd' U V (nnD xm1) (nnD xs1) (nnD xq1) (nnD xm2) (nnD xs2) (nnD xq2)⟩
    intro Y0 Y1 h0 h1
    have h2 : b0.toInt * Y0 + b2.toInt * Y1 = 2 * (P' * (v0.toInt - O' * v1.toInt)) ∧ b1.toInt * Y0 + b3.toInt * Y1 = 2 * v1.toInt := by
      rw [e0, e1, e2, e3]
      exact ⟨own_col h0 h1 (own_back hP), h1⟩
    rw [e0', e1', e2', e3']
    exact ⟨own_col h2.1 h2.2 (own_back hP'), h2.2⟩
  · obtain ⟨hO, dO⟩ := hz0 rfl
    obtain ⟨hO', dO'⟩ := hz0' rfl
    obtain ⟨xm1, xs1⟩ := own_sub dv1 dv0 dO' hO' (by omega) (by omega)
    have xc1 := own_bd hO' bv1 bv0
    have xq1 := own_q xs1 dP' hP' (by omega)
    have xg1 := own_bp hP' xc1
    obtain ⟨xm2, xs2⟩ := own_sub dv0 xq1 dO hO (by omega) (by omega)
    have xc2 := own_bd hO bv0 xg1
    have xq2 := own_q xs2 dP hP (by omega)
    have xg2 := own_bp hP xc2
    refine ⟨[0, 1], [(FP.dmul od' (FP.i2d v0)), (FP.dsub (FP.i2d v1) (FP.dmul od' (FP.i2d v0))), (FP.ddiv (FP.dsub (FP.i2d v1) (FP.dmul od' (FP.i2d v0))) pd'), (FP.dmul od (FP.ddiv (FP.dsub (FP.i2d v1) (FP.dmul od' (FP.i2d v0))) pd')), (FP.dsub (FP.i2d v0) (FP.dmul od (FP.ddiv (FP.dsub (FP.i2d v1) (FP.dmul od' (FP.i2d v0))) pd'))), (FP.ddiv (FP.dsub (FP.i2d v0) (FP.dmul od (FP.ddiv (FP.dsub (FP.i2d v1) (FP.dmul od' (FP.i2d v0))) pd'))) pd), (FP.ddiv (FP.dsub (FP.i2d v0) (FP.dmul od (FP.ddiv (FP.dsub (FP.i2d v1) (FP.dmul od' (FP.i2d v0))) pd'))) pd), (FP.ddiv (FP.dsub (FP.i2d v1) (FP.dmul od' (FP.i2d v0))) pd'), (FP.dsub (FP.i2d v0) (FP.dmul od (FP.ddiv (FP.dsub (FP.i2d v1) (FP.dmul od' (FP.i2d v0))) pd')))], ⟨_, _, xq2, xq1, by omega, by omega, ?_⟩, fun U V => own_e2_00_01 hw p0 e v0 v1 m0 m1 m2 m3 s0 s1 lu ds n c k0 k1 k2 k3 t0 t1 oo b0 b1 b2 b3 a0_ a1 a2 a3 od pd c' b0 b1 b2 b3 s0' s1' oo' od' pd' U V (nnD xm1) (nnD xs1) (nnD xq1) (nnD xm2) (nnD xs2) (nnD xq2)⟩
    intro Y0 Y1 h0 h1
    have h2 : b0.toInt * Y0 + b2.toInt * Y1 = 2 * v0.toInt ∧ b1.toInt * Y0 + b3.toInt * Y1 = 2 * (P' * (v1.toInt - O' * v0.toInt)) := by
      rw [e0, e1, e2, e3]
      exact ⟨own_col h0 h1 (own_back hP), h1⟩
    rw [e0', e1', e2', e3']
    exact ⟨h2.1, own_col' h2.1 h2.2 (own_back hP')⟩
  · obtain ⟨hO, dO⟩ := hz0 rfl
    obtain rfl := hz1' rfl
    have xq1 := own_q dv0 dP' hP' (by omega)
    have xg1 := own_bp hP' bv0
    obtain ⟨xm2, xs2⟩ := own_sub xq1 dv1 dO hO (by omega) (by omega)
    have xc2 := own_bd hO xg1 bv1
    have xq2 := own_q xs2 dP hP (by omega)
    have xg2 := own_bp hP xc2
    refine ⟨[0, 1], [0, 0, (FP.ddiv (FP.i2d v0) pd'), (FP.dmul od (FP.i2d v1)), (FP.dsub (FP.ddiv (FP.i2d v0) pd') (FP.dmul od (FP.i2d v1))), (FP.ddiv (FP.dsub (FP.ddiv (FP.i2d v0) pd') (FP.dmul od (FP.i2d v1))) pd), (FP.ddiv (FP.dsub (FP.ddiv (FP.i2d v0) pd') (FP.dmul od (FP.i2d v1))) pd), (FP.i2d v1), (FP.dsub (FP.ddiv (FP.i2d v0) pd') (FP.dmul od (FP.i2d v1)))], ⟨_, _, xq2, dv1, by omega, by omega, ?_⟩, fun U V => own_e2_00_10 hw p0 e v0 v1 m0 m1 m2 m3 s0 s1 lu ds n c k0 k1 k2 k3 t0 t1 oo b0 b1 b2 b3 a0_ a1 a2 a3 od pd c' b0 b1 b2 b3 s0' s1' oo' od' pd' U V (nnD xq1) (nnD xm2) (nnD xs2) (nnD xq2)⟩
    intro Y0 Y1 h0 h1
    have h2 : b0.toInt * Y0 + b2.toInt * Y1 = 2 * (P' * v0.toInt) ∧ b1.toInt * Y0 + b3.toInt * Y1 = 2 * v1.toInt := by
      rw [e0, e1, e2, e3]
      exact ⟨own_col h0 h1 (own_back hP), h1⟩
    rw [e0', e1', e2', e3']
    exact ⟨own_col h2.1 h2.2 (own_back0 hP'), h2.2⟩
  · obtain ⟨hO, dO⟩ := hz0 rfl
    obtain rfl := hz1' rfl
    have xq1 := own_q dv1 dP' hP' (by omega)
    have xg1 := own_bp hP' bv1
    obtain ⟨xm2, xs2⟩ := own_sub dv0 xq1 dO hO (by omega) (by omega)
    have xc2 := own_bd hO bv0 xg1
    have xq2 := own_q xs2 dP hP (by omega)
    have xg2 := own_bp hP xc2
    refine ⟨[0, 1], [0, 0, (FP.ddiv (FP.i2d v1) pd'), (FP.dmul od (FP.ddiv (FP.i2d v1) pd')), (FP.dsub (FP.i2d v0) (FP.dmul od (FP.ddiv (FP.i2d v1) pd'))), (FP.ddiv (FP.dsub (FP.i2d v0) (FP.dmul od (FP.ddiv (FP.i2d v1) pd'))) pd), (FP.ddiv (FP.dsub (FP.i2d v0) (FP.dmul od (FP.ddiv (FP.i2d v1) pd'))) pd), (FP.ddiv (FP.i2d v1) pd'), (FP.dsub (FP.i2d v0) (FP.dmul od (FP.ddiv (FP.i2d v1) pd')))], ⟨_, _, xq2, xq1, by omega, by omega, ?_⟩, fun U V => own_e2_00_11 hw p0 e v0 v1 m0 m1 m2 m3 s0 s1 lu ds n c k0 k1 k2 k3 t0 t1 oo b0 b1 b2 b3 a0_ a1 a2 a3 od pd c' b0 b1 b2 b3 s0' s1' oo' od' pd' U V (nnD xq1) (nnD xm2) (nnD xs2) (nnD xq2)⟩
    intro Y0 Y1 h0 h1
    have h2 : b0.toInt * Y0 + b2.toInt * Y1 = 2 * v0.toInt ∧ b1.toInt * Y0 + b3.toInt * Y1 = 2 * (P' * v1.toInt) := by
      rw [e0, e1, e2, e3]
      exact ⟨own_col h0 h1 (own_back hP), h1⟩
    rw [e0', e1', e2', e3']
    exact ⟨h2.1, own_col' h2.1 h2.2 (own_back0 hP')⟩
  · obtain ⟨hO, dO⟩ := hz0 rfl
    obtain ⟨hO', dO'⟩ := hz0' rfl
    obtain ⟨xm1, xs1⟩ := own_sub dv0 dv1 dO' hO' (by omega) (by omega)
    have xc1 := own_bd hO' bv0 bv1
    have xq1 := own_q xs1 dP' hP' (by omega)
    have xg1 := own_bp hP' xc1
    obtain ⟨xm2, xs2⟩ := own_sub dv1 xq1 dO hO (by omega) (by omega)
    have xc2 := own_bd hO bv1 xg1
    have xq2 := own_q xs2 dP hP (by omega)
    have xg2 := own_bp hP xc2
    refine ⟨[1, 1], [(FP.dmul od' (FP.i2d v1)), (FP.dsub (FP.i2d v0) (FP.dmul od' (FP.i2d v1))), (FP.ddiv (FP.dsub (FP.i2d v0) (FP.dmul od' (FP.i2d v1))) pd'), (FP.dmul od (FP.ddiv (FP.dsub (FP.i2d v0) (FP.dmul od' (FP.i2d v1))) pd')), (FP.dsub (FP.i2d v1) (FP.dmul od (FP.ddiv (FP.dsub (FP.i2d v0) (FP.dmul od' (FP.i2d v1))) pd'))), (FP.ddiv (FP.dsub (FP.i2d v1) (FP.dmul od (FP.ddiv (FP.dsub (FP.i2d v0) (FP.dmul od' (FP.i2d v1))) pd'))) pd), (FP.ddiv (FP.dsub (FP.i2d v0) (FP.dmul od' (FP.i2d v1))) pd'), (FP.ddiv (FP.dsub (FP.i2d v1) (FP.dmul od (FP.ddiv (FP.dsub (FP.i2d v0) (FP.dmul od' (FP.i2d v1))) pd'))) pd), (FP.dsub (FP.i2d v1) (FP.dmul od (FP.ddiv (FP.dsub (FP.i2d v0) (FP.dmul od' (FP.i2d v1))) pd')))], ⟨_, _, xq1, xq2, by omega, by omega, ?_⟩, fun U V => own_e2_01_00 hw p0 e v0 v1 m0 m1 m2 m3 s0 s1 lu ds n c k0 k1 k2 k3 t0 t1 oo b0 b1 b2 b3 a0_ a1 a2 a3 od pd c' b0 b1 b2 b3 s0' s1' oo' od' pd' U V (nnD xm1) (nnD xs1) (nnD xq1) (nnD xm2) (nnD xs2) (nnD xq2)⟩
    intro Y0 Y1 h0 h1
    have h2 : b0.toInt * Y0 + b2.toInt * Y1 = 2 * (P' * (v0.toInt - O' * v1.toInt)) ∧ b1.toInt * Y0 + b3.toInt * Y1 = 2 * v1.toInt := by
      rw [e0, e1, e2, e3]
      exact ⟨h0, own_col' h0 h1 (own_back hP)⟩
    rw [e0', e1', e2', e3']
    exact ⟨own_col h2.1 h2.2 (own_back hP'), h2.2⟩
  · obtain ⟨hO, dO⟩ := hz0 rfl
    obtain ⟨hO', dO'⟩ := hz0' rfl
    obtain ⟨xm1, xs1⟩ := own_sub dv1 dv0 dO' hO' (by omega) (by omega)
    have xc1 := own_bd hO' bv1 bv0
    have xq1 := own_q xs1 dP' hP' (by omega)
    have xg1 := own_bp hP' xc1
    obtain ⟨xm2, xs2⟩ := own_sub xq1 dv0 dO hO (by omega) (by omega)
    have xc2 := own_bd hO xg1 bv0
    have xq2 := own_q xs2 dP hP (by omega)
    have xg2 := own_bp hP xc2
    refine ⟨[1, 1], [(FP.dmul od' (FP.i2d v0)), (FP.dsub (FP.i2d v1) (FP.dmul od' (FP.i2d v0))), (FP.ddiv (FP.dsub (FP.i2d v1) (FP.dmul od' (FP.i2d v0))) pd'), (FP.dmul od (FP.i2d v0)), (FP.dsub (FP.ddiv (FP.dsub (FP.i2d v1) (FP.dmul od' (FP.i2d v0))) pd') (FP.dmul od (FP.i2d v0))), (FP.ddiv (FP.dsub (FP.ddiv (FP.dsub (FP.i2d v1) (FP.dmul od' (FP.i2d v0))) pd') (FP.dmul od (FP.i2d v0))) pd), (FP.i2d v0), (FP.ddiv (FP.dsub (FP.ddiv (FP.dsub (FP.i2d v1) (FP.dmul od' (FP.i2d v0))) pd') (FP.dmul od (FP.i2d v0))) pd), (FP.dsub (FP.ddiv (FP.dsub (FP.i2d v1) (FP.dmul od' (FP.i2d v0))) pd') (FP.dmul od (FP.i2d v0)))], ⟨_, _, dv0, xq2, by omega, by omega, ?_⟩, fun U V => own_e2_01_01 hw p0 e v0 v1 m0 m1 m2 m3 s0 s1 lu ds n c k0 k1 k2 k3 t0 t1 oo b0 b1 b2 b3 a0_ a1 a2 a3 od pd c' b0 b1 b2 b3 s0' s1' oo' od' pd' U V (nnD xm1) (nnD xs1) (nnD xq1) (nnD xm2) (nnD xs2) (nnD xq2)⟩
    intro Y0 Y1 h0 h1
    have h2 : b0.toInt * Y0 + b2.toInt * Y1 = 2 * v0.toInt ∧ b1.toInt * Y0 + b3.toInt * Y1 = 2 * (P' * (v1.toInt - O' * v0.toInt)) := by
      rw [e0, e1, e2, e3]
      exact ⟨h0, own_col' h0 h1 (own_back hP)⟩
    rw [e0', e1', e2', e3']
    exact ⟨h2.1, own_col' h2.1 h2.2 (own_back hP')⟩
  · obtain ⟨hO, dO⟩ := hz0 rfl
    obtain rfl := hz1' rfl
    have xq1 := own_q dv0 dP' hP' (by omega)
    have xg1 := own_bp hP' bv0
    obtain ⟨xm2, xs2⟩ := own_sub dv1 xq1 dO hO (by omega) (by omega)
    have xc2 := own_bd hO bv1 xg1
    have xq2 := own_q xs2 dP hP (by omega)
    have xg2 := own_bp hP xc2
    refine ⟨[1, 1], [0, 0, (FP.ddiv (FP.i2d v0) pd'), (FP.dmul od (FP.ddiv (FP.i2d v0) pd')), (FP.dsub (FP.i2d v1) (FP.dmul od (FP.ddiv (FP.i2d v0) pd'))), (FP.ddiv (FP.dsub (FP.i2d v1) (FP.dmul od (FP.ddiv (FP.i2d v0) pd'))) pd), (FP.ddiv (FP.i2d v0) pd'), (FP.ddiv (FP.dsub (FP.i2d v1) (FP.dmul od (FP.ddiv (FP.i2d v0) pd'))) pd), (FP.dsub (FP.i2d v1) (FP.dmul od (FP.ddiv (FP.i2d v0) pd')))], ⟨_, _, xq1, xq2, by omega, by omega, ?_⟩, fun U V => own_e2_01_10 hw p0 e v0 v1 m0 m1 m2 m3 s0 s1 lu ds n c k0 k1 k2 k3 t0 t1 oo b0 b1 b2 b3 a0_ a1 a2 a3 od pd c' b0 b1 b2 b3 s0' s1' oo' od' pd' U V (nnD xq1) (nnD xm2) (nnD xs2) (nnD xq2)⟩
    intro Y0 Y1 h0 h1
    have h2 : b0.toInt * Y0 + b2.toInt * Y1 = 2 * (P' * v0.toInt) ∧ b1.toInt * Y0 + b3.toInt * Y1 = 2 * v1.toInt := by
      rw [e0, e1, e2, e3]
      exact ⟨h0, own_col' h0 h1 (own_back hP)⟩
    rw [e0', e1', e2', e3']
    exact ⟨own_col h2.1 h2.2 (own_back0 hP'), h2.2⟩
  · obtain ⟨hO, dO⟩ := hz0 rfl
    obtain rfl := hz1' rfl
    have xq1 := own_q dv1 dP' hP' (by omega)
    have xg1 := own_bp hP' bv1
    obtain ⟨xm2, xs2⟩ := own_sub xq1 dv0 dO hO (by omega) (by omega)
    have xc2 := own_bd hO xg1 bv0
    have xq2 := own_q xs2 dP hP (by omega)
    have xg2 := own_bp hP xc2
    refine ⟨[1, 1], [0, 0, (FP.ddiv (FP.i2d v1) pd'), (FP.dmul od (FP.i2d v0)), (FP.dsub (FP.ddiv (FP.i2d v1) pd') (FP.dmul od (FP.i2d v0))), (FP.ddiv (FP.dsub (FP.ddiv (FP.i2d v1) pd') (FP.dmul od (FP.i2d v0))) pd), (FP.i2d v0), (FP.ddiv (FP.dsub (FP.ddiv (FP.i2d v1) pd') (FP.dmul od (FP.i2d v0))) pd), (FP.dsub (FP.ddiv (FP.i2d v1) pd') (FP.dmul od (FP.i2d v0)))], ⟨_, _, dv0, xq2, by omega, by omega, ?_⟩, fun U V => own_e2_01_11 hw p0 e v0 v1 m0 m1 m2 m3 s0 s1 lu ds n c k0 k1 k2 k3 t0 t1 oo b0 b1 b2 b3 a0_ a1 a2 a3 od pd c' b0 b1 b2 b3 s0' s1' oo' od' pd' U V (nnD xq1) (nnD xm2) (nnD xs2) (nnD xq2)⟩
    intro Y0 Y1 h0 h1
    have h2 : b0.toInt * Y0 + b2.toInt * Y1 = 2 * v0.toInt ∧ b1.toInt * Y0 + b3.toInt * Y1 = 2 * (P' * v1.toInt) := by
      rw [e0, e1, e2, e3]
      exact ⟨h0, own_col' h0 h1 (own_back hP)⟩
    rw [e0', e1', e2', e3']
    exact ⟨h2.1, own_col' h2.1 h2.2 (own_back0 hP')⟩
  · obtain rfl := hz1 rfl
    obtain ⟨hO', dO'⟩ := hz0' rfl
    obtain ⟨xm1, xs1⟩ := own_sub dv0 dv1 dO' hO' (by omega) (by omega)
    have xc1 := own_bd hO' bv0 bv1
    have xq1 := own_q xs1 dP' hP' (by omega)
    have xg1 := own_bp hP' xc1
    have xq2 := own_q xq1 dP hP (by omega)
    have xg2 := own_bp hP xg1
    refine ⟨[0, 0], [(FP.dmul od' (FP.i2d v1)), (FP.dsub (FP.i2d v0) (FP.dmul od' (FP.i2d v1))), (FP.ddiv (FP.dsub (FP.i2d v0) (FP.dmul od' (FP.i2d v1))) pd'), 0, 0, (FP.ddiv (FP.ddiv (FP.dsub (FP.i2d v0) (FP.dmul od' (FP.i2d v1))) pd') pd), (FP.ddiv (FP.ddiv (FP.dsub (FP.i2d v0) (FP.dmul od' (FP.i2d v1))) pd') pd), (FP.i2d v1), (FP.ddiv (FP.dsub (FP.i2d v0) (FP.dmul od' (FP.i2d v1))) pd')], ⟨_, _, xq2, dv1, by omega, by omega, ?_⟩, fun U V => own_e2_10_00 hw p0 e v0 v1 m0 m1 m2 m3 s0 s1 lu ds n c k0 k1 k2 k3 t0 t1 oo b0 b1 b2 b3 a0_ a1 a2 a3 od pd c' b0 b1 b2 b3 s0' s1' oo' od' pd' U V (nnD xm1) (nnD xs1) (nnD xq1) (nnD xq2)⟩
    intro Y0 Y1 h0 h1
    have h2 : b0.toInt * Y0 + b2.toInt * Y1 = 2 * (P' * (v0.toInt - O' * v1.toInt)) ∧ b1.toInt * Y0 + b3.toInt * Y1 = 2 * v1.toInt := by
      rw [e0, e1, e2, e3]
      exact ⟨own_col h0 h1 (own_back0 hP), h1⟩
    rw [e0', e1', e2', e3']
    exact ⟨own_col h2.1 h2.2 (own_back hP'), h2.2⟩
  · obtain rfl := hz1 rfl
    obtain ⟨hO', dO'⟩ := hz0' rfl
    obtain ⟨xm1, xs1⟩ := own_sub dv1 dv0 dO' hO' (by omega) (by omega)
    have xc1 := own_bd hO' bv1 bv0
    have xq1 := own_q xs1 dP' hP' (by omega)
    have xg1 := own_bp hP' xc1
    have xq2 := own_q dv0 dP hP (by omega)
    have xg2 := own_bp hP bv0
    refine ⟨[0, 0], [(FP.dmul od' (FP.i2d v0)), (FP.dsub (FP.i2d v1) (FP.dmul od' (FP.i2d v0))), (FP.ddiv (FP.dsub (FP.i2d v1) (FP.dmul od' (FP.i2d v0))) pd'), 0, 0, (FP.ddiv (FP.i2d v0) pd), (FP.ddiv (FP.i2d v0) pd), (FP.ddiv (FP.dsub (FP.i2d v1) (FP.dmul od' (FP.i2d v0))) pd'), (FP.i2d v0)], ⟨_, _, xq2, xq1, by omega, by omega, ?_⟩, fun U V => own_e2_10_01 hw p0 e v0 v1 m0 m1 m2 m3 s0 s1 lu ds n c k0 k1 k2 k3 t0 t1 oo b0 b1 b2 b3 a0_ a1 a2 a3 od pd c' b0 b1 b2 b3 s0' s1' oo' od' pd' U V (nnD xm1) (nnD xs1) (nnD xq1) (nnD xq2)⟩
    intro Y0 Y1 h0 h1
    have h2 : b0.toInt * Y0 + b2.toInt * Y1 = 2 * v0.toInt ∧ b1.toInt * Y0 + b3.toInt * Y1 = 2 * (P' * (v1.toInt - O' * v0.toInt)) := by
      rw [e0, e1, e2, e3]
      exact ⟨own_col h0 h1 (own_back0 hP), h1⟩
    rw [e0', e1', e2', e3']
    exact ⟨h2.1, own_col' h2.1 h2.2 (own_back hP')⟩
  · obtain rfl := hz1 rfl
    obtain rfl := hz1' rfl
    have xq1 := own_q dv0 dP' hP' (by omega)
    have xg1 := own_bp hP' bv0
    have xq2 := own_q xq1 dP hP (by omega)
    have xg2 := own_bp hP xg1
    refine ⟨[0, 0], [0, 0, (FP.ddiv (FP.i2d v0) pd'), 0, 0, (FP.ddiv (FP.ddiv (FP.i2d v0) pd') pd), (FP.ddiv (FP.ddiv (FP.i2d v0) pd') pd), (FP.i2d v1), (FP.ddiv (FP.i2d v0) pd')], ⟨_, _, xq2, dv1, by omega, by omega, ?_⟩, fun U V => own_e2_10_10 hw p0 e v0 v1 m0 m1 m2 m3 s0 s1 lu ds n c k0 k1 k2 k3 t0 t1 oo b0 b1 b2 b3 a0_ a1 a2 a3 od pd c' b0 b1 b2 b3 s0' s1' oo' od' pd' U V (nnD xq1) (nnD xq2)⟩
    intro Y0 Y1 h0 h1
    have h2 : b0.toInt * Y0 + b2.toInt * Y1 = 2 * (P' * v0.toInt) ∧ b1.toInt * Y0 + b3.toInt * Y1 = 2 * v1.toInt := by
      rw [e0, e1, e2, e3]
      exact ⟨own_col h0 h1 (own_back0 hP), h1⟩
    rw [e0', e1', e2', e3']
    exact ⟨own_col h2.1 h2.2 (own_back0 hP'), h2.2⟩
  · obtain rfl := hz1 rfl
    obtain rfl := hz1' rfl
    have xq1 := own_q dv1 dP' hP' (by omega)
    have xg1 := own_bp hP' bv1
    have xq2 := own_q dv0 dP hP (by omega)
    have xg2 := own_bp hP bv0
    refine ⟨[0, 0], [0, 0, (FP.ddiv (FP.i2d v1) pd'), 0, 0, (FP.ddiv (FP.i2d v0) pd), (FP.ddiv (FP.i2d v0) pd), (FP.ddiv (FP.i2d v1) pd'), (FP.i2d v0)], ⟨_, _, xq2, xq1, by omega, by omega, ?_⟩, fun U V => own_e2_10_11 hw p0 e v0 v1 m0 m1 m2 m3 s0 s1 lu ds n c k0 k1 k2 k3 t0 t1 oo b0 b1 b2 b3 a0_ a1 a2 a3 od pd c' b0 b1 b2 b3 s0' s1' oo' od' pd' U V (nnD xq1) (nnD xq2)⟩
    intro Y0 Y1 h0 h1
    have h2 : b0.toInt * Y0 + b2.toInt * Y1 = 2 * v0.toInt ∧ b1.toInt * Y0 + b3.toInt * Y1 = 2 * (P' * v1.toInt) := by
      rw [e0, e1, e2, e3]
      exact ⟨own_col h0 h1 (own_back0 hP), h1⟩
    rw [e0', e1', e2', e3']
    exact ⟨h2.1, own_col' h2.1 h2.2 (own_back0 hP')⟩
  · obtain rfl := hz1 rfl
    obtain ⟨hO', dO'⟩ := hz0' rfl
    obtain ⟨xm1, xs1⟩ := own_sub dv0 dv1 dO' hO' (by omega) (by omega)
    have xc1 := own_bd hO' bv0 bv1
    have xq1 := own_q xs1 dP' hP' (by omega)
    have xg1 := own_bp hP' xc1
    have xq2 := own_q dv1 dP hP (by omega)
    have xg2 := own_bp hP bv1
    refine ⟨[1, 0], [(FP.dmul od' (FP.i2d v1)), (FP.dsub (FP.i2d v0) (FP.dmul od' (FP.i2d v1))), (FP.ddiv (FP.dsub (FP.i2d v0) (FP.dmul od' (FP.i2d v1))) pd'), 0, 0, (FP.ddiv (FP.i2d v1) pd), (FP.ddiv (FP.dsub (FP.i2d v0) (FP.dmul od' (FP.i2d v1))) pd'), (FP.ddiv (FP.i2d v1) pd), (FP.i2d v1)], ⟨_, _, xq1, xq2, by omega, by omega, ?_⟩, fun U V => own_e2_11_00 hw p0 e v0 v1 m0 m1 m2 m3 s0 s1 lu ds n c k0 k1 k2 k3 t0 t1 oo b0 b1 b2 b3 a0_ a1 a2 a3 od pd c' b0 b1 b2 b3 s0' s1' oo' od' pd' U V (nnD xm1) (nnD xs1) (nnD xq1) (nnD xq2)⟩
    intro Y0 Y1 h0 h1
    have h2 : b0.toInt * Y0 + b2.toInt * Y1 = 2 * (P' * (v0.toInt - O' * v1.toInt)) ∧ b1.toInt * Y0 + b3.toInt * Y1 = 2 * v1.toInt := by
      rw [e0, e1, e2, e3]
      exact ⟨h0, own_col' h0 h1 (own_back0 hP)⟩
    rw [e0', e1', e2', e3']
    exact ⟨own_col h2.1 h2.2 (own_back hP'), h2.2⟩
  · obtain rfl := hz1 rfl
    obtain ⟨hO', dO'⟩ := hz0' rfl
    obtain ⟨xm1, xs1⟩ := own_sub dv1 dv0 dO' hO' (by omega) (by omega)
    have xc1 := own_bd hO' bv1 bv0
    have xq1 := own_q xs1 dP' hP' (by omega)
    have xg1 := own_bp hP' xc1
    have xq2 := own_q xq1 dP hP (by omega)
    have xg2 := own_bp hP xg1
    refine ⟨[1, 0], [(FP.dmul od' (FP.i2d v0)), (FP.dsub (FP.i2d v1) (FP.dmul od' (FP.i2d v0))), (FP.ddiv (FP.dsub (FP.i2d v1) (FP.dmul od' (FP.i2d v0))) pd'), 0, 0, (FP.ddiv (FP.ddiv (FP.dsub (FP.i2d v1) (FP.dmul od' (FP.i2d v0))) pd') pd), (FP.i2d v0), (FP.ddiv (FP.ddiv (FP.dsub (FP.i2d v1) (FP.dmul od' (FP.i2d v0))) pd') pd), (FP.ddiv (FP.dsub (FP.i2d v1) (FP.dmul od' (FP.i2d v0))) pd')], ⟨_, _, dv0, xq2, by omega, by omega, ?_⟩, fun U V => own_e2_11_01 hw p0 e v0 v1 m0 m1 m2 m3 s0 s1 lu ds n c k0 k1 k2 k3 t0 t1 oo b0 b1 b2 b3 a0_ a1 a2 a3 od pd c' b0 b1 b2 b3 s0' s1' oo' od' pd' U V (nnD xm1) (nnD xs1) (nnD xq1) (nnD xq2)⟩
    intro Y0 Y1 h0 h1
    have h2 : b0.toInt * Y0 + b2.toInt * Y1 = 2 * v0.toInt ∧ b1.toInt * Y0 + b3.toInt * Y1 = 2 * (P' * (v1.toInt - O' * v0.toInt)) := by
      rw [e0, e1, e2, e3]
      exact ⟨h0, own_col' h0 h1 (own_back0 hP)⟩
    rw [e0', e1', e2', e3']
    exact ⟨h2.1, own_col' h2.1 h2.2 (own_back hP')⟩
  · obtain rfl := hz1 rfl
    obtain rfl := hz1' rfl
    have xq1 := own_q dv0 dP' hP' (by omega)
    have xg1 := own_bp hP' bv0
    have xq2 := own_q dv1 dP hP (by omega)
    have xg2 := own_bp hP bv1
    refine ⟨[1, 0], [0, 0, (FP.ddiv (FP.i2d v0) pd'), 0, 0, (FP.ddiv (FP.i2d v1) pd), (FP.ddiv (FP.i2d v0) pd'), (FP.ddiv (FP.i2d v1) pd), (FP.i2d v1)], ⟨_, _, xq1, xq2, by omega, by omega, ?_⟩, fun U V => own_e2_11_10 hw p0 e v0 v1 m0 m1 m2 m3 s0 s1 lu ds n c k0 k1 k2 k3 t0 t1 oo b0 b1 b2 b3 a0_ a1 a2 a3 od pd c' b0 b1 b2 b3 s0' s1' oo' od' pd' U V (nnD xq1) (nnD xq2)⟩
    intro Y0 Y1 h0 h1
    have h2 : b0.toInt * Y0 + b2.toInt * Y1 = 2 * (P' * v0.toInt) ∧ b1.toInt * Y0 + b3.toInt * Y1 = 2 * v1.toInt := by
      rw [e0, e1, e2, e3]
      exact ⟨h0, own_col' h0 h1 (own_back0 hP)⟩
    rw [e0', e1', e2', e3']
    exact ⟨own_col h2.1 h2.2 (own_back0 hP'), h2.2⟩
  · obtain rfl := hz1 rfl
    obtain rfl := hz1' rfl
    have xq1 := own_q dv1 dP' hP' (by omega)
    have xg1 := own_bp hP' bv1
    have xq2 := own_q xq1 dP hP (by omega)
    have xg2 := own_bp hP xg1
    refine ⟨[1, 0], [0, 0, (FP.ddiv (FP.i2d v1) pd'), 0, 0, (FP.ddiv (FP.ddiv (FP.i2d v1) pd') pd), (FP.i2d v0), (FP.ddiv (FP.ddiv (FP.i2d v1) pd') pd), (FP.ddiv (FP.i2d v1) pd')], ⟨_, _, dv0, xq2, by omega, by omega, ?_⟩, fun U V => own_e2_11_11 hw p0 e v0 v1 m0 m1 m2 m3 s0 s1 lu ds n c k0 k1 k2 k3 t0 t1 oo b0 b1 b2 b3 a0_ a1 a2 a3 od pd c' b0 b1 b2 b3 s0' s1' oo' od' pd' U V (nnD xq1) (nnD xq2)⟩
    intro Y0 Y1 h0 h1
    have h2 : b0.toInt * Y0 + b2.toInt * Y1 = 2 * v0.toInt ∧ b1.toInt * Y0 + b3.toInt * Y1 = 2 * (P' * v1.toInt) := by
      rw [e0, e1, e2, e3]
      exact ⟨h0, own_col' h0 h1 (own_back0 hP)⟩
    rw [e0', e1', e2', e3']
    exact ⟨h2.1, own_col' h2.1 h2.2 (own_back0 hP')⟩
def UU (c1 c2 : Int32) (ya yb q t s y1 y1b a b yr : UInt64) : Gp := ([c1, c2], [ya, yb, q, t, s, y1, y1b, a, b, yr])
theorem teG {A : Den} {o : Nat} {a b r : UInt64} (ho : o < 4) (e : fop o (A.2.1 a) (A.2.1 b) = A.2.1 r) (n : Jvm.Free.Fl.NoNaN64 (A.2.1 r)) : TpE A (o, a, b, r) := teF ho (by rw [e]; exact n) e
abbrev NX (x y : UInt64) : Prop := x = y ∧ Jvm.Free.Fl.NoNaN64 y
theorem own_u_0_00 (hw : HWt a0 Z) (p0 e v0 v1 m0 m1 m2 m3 s0 s1 c1 c2 : Int32) (ds : List UInt64) (T1 T2 F V : Gp) (q t s y1 y1b a b yr : UInt64) (x82 : NX (FP.ddiv (F.2.getD 7 0) (ds.getD 0 0)) q) (x85 : NX (FP.ddiv (F.2.getD 6 0) (ds.getD 1 0)) y1) (x86 : NX (FP.dsub y1 0) y1b) (x89 : NX (FP.dsub q 0) yr) (xc1 : cmpValue (FP.dcmp q 0) .l = c1) (xc2 : cmpValue (FP.dcmp y1 0) .l = c2) (hq : c1 ≠ 0) (hy : c2 ≠ 0) (hu : ds.getD 2 0 = 0) (hl : ds.getD 3 0 = 0) (v : Bool) : ∃ L', ST l Z (mkA bs (SG p0 e v0 v1 m0 m1 m2 m3 s0 s1 (LS 0) ds) T1 T2 F (UU c1 c2 yr y1b q t s y1 y1b a b yr) V) bs 108 (if v then la_19 else la_18) [] hp_10 0 0 318 L' [] hp_32 0 0 := by
  have key : ∀ {L L2 : Array Slot} {H : AH}, seg (cal tp_u0_0_00 tq_u0_0_00) (pg_33 tp_u0_0_00 tq_u0_0_00) 3000 108 L [] H 0 0 tb_u0_0_00 318 L2 [] hp_32 0 0 rm_33.slots = true → ST l Z (mkA bs (SG p0 e v0 v1 m0 m1 m2 m3 s0 s1 (LS 0) ds) T1 T2 F (UU c1 c2 yr y1b q t s y1 y1b a b yr) V) bs 108 L [] H 0 0 318 L2 [] hp_32 0 0 := fun h => sgT hw mkA_ad ⟨mkA_c, by unfold tp_u0_0_00; exact allC (teG (by decide) x82.1 x82.2) <| allC (te12 xc1) <| allC (te13n hq) <| allC (teG (by decide) x85.1 x85.2) <| allC (te12 xc2) <| allC (te13n hy) <| allC (teG (by decide) x86.1 x86.2) <| allC (teG (by decide) x89.1 x89.2) <| allN⟩ (taN (by decide)) allN (by unfold tb_u0_0_00; exact allC (tbd (yr) rfl rfl) <| allC (tbd (y1b) rfl rfl) <| allN) h
  have same : ∀ {L : Array Slot}, eqF [(.int 0, .float 21), (.int 1, .float 22), (.int 1, .float 23), (.int 0, .float 24), (.int 0, .float 25), (.int 0, .float 26), (.int 0, .float 27), (.int 0, .float 20), (.int 0, .float 28), (.int 0, .float 29), (.int 0, .float 30), (.int 0, .float 31), (.double 0, .double 12), (.double 0, .double 13)] L.toList L.toList = true → ST l Z (mkA bs (SG p0 e v0 v1 m0 m1 m2 m3 s0 s1 (LS 0) ds) T1 T2 F (UU c1 c2 yr y1b q t s y1 y1b a b yr) V) bs 108 L [] hp_10 0 0 108 L [] hp_31 0 0 := fun h => Seg.same (tab := [(.int 0, .float 21), (.int 1, .float 22), (.int 1, .float 23), (.int 0, .float 24), (.int 0, .float 25), (.int 0, .float 26), (.int 0, .float 27), (.int 0, .float 20), (.int 0, .float 28), (.int 0, .float 29), (.int 0, .float 30), (.int 0, .float 31), (.double 0, .double 12), (.double 0, .double 13)]) rfl (allC (rfl) <| allC (rfl) <| allC (rfl) <| allC (rfl) <| allC (rfl) <| allC (rfl) <| allC (rfl) <| allC (rfl) <| allC (rfl) <| allC (rfl) <| allC (rfl) <| allC (rfl) <| allC (congrArg Value.double hu.symm) <| allC (congrArg Value.double hl.symm) <| allN) (by rw [h]; exact (by decide +kernel : (true && (eqL [(.int 0, .float 21), (.int 1, .float 22), (.int 1, .float 23), (.int 0, .float 24), (.int 0, .float 25), (.int 0, .float 26), (.int 0, .float 27), (.int 0, .float 20), (.int 0, .float 28), (.int 0, .float 29), (.int 0, .float 30), (.int 0, .float 31), (.double 0, .double 12), (.double 0, .double 13)] [] [] && eqH [(.int 0, .float 21), (.int 1, .float 22), (.int 1, .float 23), (.int 0, .float 24), (.int 0, .float 25), (.int 0, .float 26), (.int 0, .float 27), (.int 0, .float 20), (.int 0, .float 28), (.int 0, .float 29), (.int 0, .float 30), (.int 0, .float 31), (.double 0, .double 12), (.double 0, .double 13)] hp_31 hp_10)) = true))
  cases v
  · exact ⟨_, Seg.trans (same (by decide +kernel)) (key sg_u0_0_00)⟩
  · exact ⟨_, Seg.trans (same (by decide +kernel)) (key sg_u1_0_00)⟩
theorem own_u_0_01 (hw : HWt a0 Z) (p0 e v0 v1 m0 m1 m2 m3 s0 s1 c1 c2 : Int32) (ds : List UInt64) (T1 T2 F V : Gp) (q t s y1 y1b a b yr : UInt64) (x82 : NX (FP.ddiv (F.2.getD 7 0) (ds.getD 0 0)) q) (x85 : NX (FP.ddiv (F.2.getD 6 0) (ds.getD 1 0)) y1) (x86 : NX (FP.dsub y1 0) y1b) (x89 : NX (FP.dsub q 0) yr) (xc1 : cmpValue (FP.dcmp q 0) .l = c1) (xc2 : cmpValue (FP.dcmp y1 0) .l = c2) (hq : c1 ≠ 0) (hy : c2 = 0) (hu : ds.getD 2 0 = 0) (hl : ds.getD 3 0 = 0) (v : Bool) : ∃ L', ST l Z (mkA bs (SG p0 e v0 v1 m0 m1 m2 m3 s0 s1 (LS 0) ds) T1 T2 F (UU c1 c2 yr y1b q t s y1 y1b a b yr) V) bs 108 (if v then la_19 else la_18) [] hp_10 0 0 318 L' [] hp_32 0 0 := by
  have key : ∀ {L L2 : Array Slot} {H : AH}, seg (cal tp_u0_0_01 tq_u0_0_01) (pg_33 tp_u0_0_01 tq_u0_0_01) 3000 108 L [] H 0 0 tb_u0_0_01 318 L2 [] hp_32 0 0 rm_33.slots = true → ST l Z (mkA bs (SG p0 e v0 v1 m0 m1 m2 m3 s0 s1 (LS 0) ds) T1 T2 F (UU c1 c2 yr y1b q t s y1 y1b a b yr) V) bs 108 L [] H 0 0 318 L2 [] hp_32 0 0 := fun h => sgT hw mkA_ad ⟨mkA_c, by unfold tp_u0_0_01; exact allC (teG (by decide) x82.1 x82.2) <| allC (te12 xc1) <| allC (te13n hq) <| allC (teG (by decide) x85.1 x85.2) <| allC (te12 xc2) <| allC (te13z hy) <| allC (teG (by decide) x86.1 x86.2) <| allC (teG (by decide) x89.1 x89.2) <| allN⟩ (taN (by decide)) allN (by unfold tb_u0_0_01; exact allC (tbd (yr) rfl rfl) <| allC (tbd (y1b) rfl rfl) <| allN) h
  have same : ∀ {L : Array Slot}, eqF [(.int 0, .float 21), (.int 1, .float 22), (.int 1, .float 23), (.int 0, .float 24), (.int 0, .float 25), (.int 0, .float 26), (.int 0, .float 27), (.int 0, .float 20), (.int 0, .float 28), (.int 0, .float 29), (.int 0, .float 30), (.int 0, .float 31), (.double 0, .double 12), (.double 0, .double 13)] L.toList L.toList = true → ST l Z (mkA bs (SG p0 e v0 v1 m0 m1 m2 m3 s0 s1 (LS 0) ds) T1 T2 F (UU c1 c2 yr y1b q t s y1 y1b a b yr) V) bs 108 L [] hp_10 0 0 108 L [] hp_31 0 0 := fun h => Seg.same (tab := [(.int 0, .float 21), (.int 1, .float 22), (.int 1, .float 23), (.int 0, .float 24), (.int 0, .float 25), (.int 0, .float 26), (.int 0, .float 27), (.int 0, .float 20), (.int 0, .float 28), (.int 0, .float 29), (.int 0, .float 30), (.int 0, .float 31), (.double 0, .double 12), (.double 0, .double 13)]) rfl (allC (rfl) <| allC (rfl) <| allC (rfl) <| allC (rfl) <| allC (rfl) <| allC (rfl) <| allC (rfl) <| allC (rfl) <| allC (rfl) <| allC (rfl) <| allC (rfl) <| allC (rfl) <| allC (congrArg Value.double hu.symm) <| allC (congrArg Value.double hl.symm) <| allN) (by rw [h]; exact (by decide +kernel : (true && (eqL [(.int 0, .float 21), (.int 1, .float 22), (.int 1, .float 23), (.int 0, .float 24), (.int 0, .float 25), (.int 0, .float 26), (.int 0, .float 27), (.int 0, .float 20), (.int 0, .float 28), (.int 0, .float 29), (.int 0, .float 30), (.int 0, .float 31), (.double 0, .double 12), (.double 0, .double 13)] [] [] && eqH [(.int 0, .float 21), (.int 1, .float 22), (.int 1, .float 23), (.int 0, .float 24), (.int 0, .float 25), (.int 0, .float 26), (.int 0, .float 27), (.int 0, .float 20), (.int 0, .float 28), (.int 0, .float 29), (.int 0, .float 30), (.int 0, .float 31), (.double 0, .double 12), (.double 0, .double 13)] hp_31 hp_10)) = true))
  cases v
  · exact ⟨_, Seg.trans (same (by decide +kernel)) (key sg_u0_0_01)⟩
  · exact ⟨_, Seg.trans (same (by decide +kernel)) (key sg_u1_0_01)⟩
theorem own_u_0_10 (hw : HWt a0 Z) (p0 e v0 v1 m0 m1 m2 m3 s0 s1 c1 c2 : Int32) (ds : List UInt64) (T1 T2 F V : Gp) (q t s y1 y1b a b yr : UInt64) (x82 : NX (FP.ddiv (F.2.getD 7 0) (ds.getD 0 0)) q) (x85 : NX (FP.ddiv (F.2.getD 6 0) (ds.getD 1 0)) y1) (x86 : NX (FP.dsub y1 0) y1b) (x89 : NX (FP.dsub q 0) yr) (xc1 : cmpValue (FP.dcmp q 0) .l = c1) (xc2 : cmpValue (FP.dcmp y1 0) .l = c2) (hq : c1 = 0) (hy : c2 ≠ 0) (hu : ds.getD 2 0 = 0) (hl : ds.getD 3 0 = 0) (v : Bool) : ∃ L', ST l Z (mkA bs (SG p0 e v0 v1 m0 m1 m2 m3 s0 s1 (LS 0) ds) T1 T2 F (UU c1 c2 yr y1b q t s y1 y1b a b yr) V) bs 108 (if v then la_19 else la_18) [] hp_10 0 0 318 L' [] hp_32 0 0 := by
  have key : ∀ {L L2 : Array Slot} {H : AH}, seg (cal tp_u0_0_10 tq_u0_0_10) (pg_33 tp_u0_0_10 tq_u0_0_10) 3000 108 L [] H 0 0 tb_u0_0_10 318 L2 [] hp_32 0 0 rm_33.slots = true → ST l Z (mkA bs (SG p0 e v0 v1 m0 m1 m2 m3 s0 s1 (LS 0) ds) T1 T2 F (UU c1 c2 yr y1b q t s y1 y1b a b yr) V) bs 108 L [] H 0 0 318 L2 [] hp_32 0 0 := fun h => sgT hw mkA_ad ⟨mkA_c, by unfold tp_u0_0_10; exact allC (teG (by decide) x82.1 x82.2) <| allC (te12 xc1) <| allC (te13z hq) <| allC (teG (by decide) x85.1 x85.2) <| allC (te12 xc2) <| allC (te13n hy) <| allC (teG (by decide) x86.1 x86.2) <| allC (teG (by decide) x89.1 x89.2) <| allN⟩ (taN (by decide)) allN (by unfold tb_u0_0_10; exact allC (tbd (yr) rfl rfl) <| allC (tbd (y1b) rfl rfl) <| allN) h
  have same : ∀ {L : Array Slot}, eqF [(.int 0, .float 21), (.int 1, .float 22), (.int 1, .float 23), (.int 0, .float 24), (.int 0, .float 25), (.int 0, .float 26), (.int 0, .float 27), (.int 0, .float 20), (.int 0, .float 28), (.int 0, .float 29), (.int 0, .float 30), (.int 0, .float 31), (.double 0, .double 12), (.double 0, .double 13)] L.toList L.toList = true → ST l Z (mkA bs (SG p0 e v0 v1 m0 m1 m2 m3 s0 s1 (LS 0) ds) T1 T2 F (UU c1 c2 yr y1b q t s y1 y1b a b yr) V) bs 108 L [] hp_10 0 0 108 L [] hp_31 0 0 := fun h => Seg.same (tab := [(.int 0, .float 21), (.int 1, .float 22), (.int 1, .float 23), (.int 0, .float 24), (.int 0, .float 25), (.int 0, .float 26), (.int 0, .float 27), (.int 0, .float 20), (.int 0, .float 28), (.int 0, .float 29), (.int 0, .float 30), (.int 0, .float 31), (.double 0, .double 12), (.double 0, .double 13)]) rfl (allC (rfl) <| allC (rfl) <| allC (rfl) <| allC (rfl) <| allC (rfl) <| allC (rfl) <| allC (rfl) <| allC (rfl) <| allC (rfl) <| allC (rfl) <| allC (rfl) <| allC (rfl) <| allC (congrArg Value.double hu.symm) <| allC (congrArg Value.double hl.symm) <| allN) (by rw [h]; exact (by decide +kernel : (true && (eqL [(.int 0, .float 21), (.int 1, .float 22), (.int 1, .float 23), (.int 0, .float 24), (.int 0, .float 25), (.int 0, .float 26), (.int 0, .float 27), (.int 0, .float 20), (.int 0, .float 28), (.int 0, .float 29), (.int 0, .float 30), (.int 0, .float 31), (.double 0, .double 12), (.double 0, .double 13)] [] [] && eqH [(.int 0, .float 21), (.int 1, .float 22), (.int 1, .float 23), (.int 0, .float 24), (.int 0, .float 25), (.int 0, .float 26), (.int 0, .float 27), (.int 0, .float 20), (.int 0, .float 28), (.int 0, .float 29), (.int 0, .float 30), (.int 0, .float 31), (.double 0, .double 12), (.double 0, .double 13)] hp_31 hp_10)) = true))
  cases v
  · exact ⟨_, Seg.trans (same (by decide +kernel)) (key sg_u0_0_10)⟩
  · exact ⟨_, Seg.trans (same (by decide +kernel)) (key sg_u1_0_10)⟩
theorem own_u_0_11 (hw : HWt a0 Z) (p0 e v0 v1 m0 m1 m2 m3 s0 s1 c1 c2 : Int32) (ds : List UInt64) (T1 T2 F V : Gp) (q t s y1 y1b a b yr : UInt64) (x82 : NX (FP.ddiv (F.2.getD 7 0) (ds.getD 0 0)) q) (x85 : NX (FP.ddiv (F.2.getD 6 0) (ds.getD 1 0)) y1) (x86 : NX (FP.dsub y1 0) y1b) (x89 : NX (FP.dsub q 0) yr) (xc1 : cmpValue (FP.dcmp q 0) .l = c1) (xc2 : cmpValue (FP.dcmp y1 0) .l = c2) (hq : c1 = 0) (hy : c2 = 0) (hu : ds.getD 2 0 = 0) (hl : ds.getD 3 0 = 0) (v : Bool) : ∃ L', ST l Z (mkA bs (SG p0 e v0 v1 m0 m1 m2 m3 s0 s1 (LS 0) ds) T1 T2 F (UU c1 c2 yr y1b q t s y1 y1b a b yr) V) bs 108 (if v then la_19 else la_18) [] hp_10 0 0 318 L' [] hp_32 0 0 := by
  have key : ∀ {L L2 : Array Slot} {H : AH}, seg (cal tp_u0_0_11 tq_u0_0_11) (pg_33 tp_u0_0_11 tq_u0_0_11) 3000 108 L [] H 0 0 tb_u0_0_11 318 L2 [] hp_32 0 0 rm_33.slots = true → ST l Z (mkA bs (SG p0 e v0 v1 m0 m1 m2 m3 s0 s1 (LS 0) ds) T1 T2 F (UU c1 c2 yr y1b q t s y1 y1b a b yr) V) bs 108 L [] H 0 0 318 L2 [] hp_32 0 0 := fun h => sgT hw mkA_ad ⟨mkA_c, by unfold tp_u0_0_11; exact allC (teG (by decide) x82.1 x82.2) <| allC (te12 xc1) <| allC (te13z hq) <| allC (teG (by decide) x85.1 x85.2) <| allC (te12 xc2) <| allC (te13z hy) <| allC (teG (by decide) x86.1 x86.2) <| allC (teG (by decide) x89.1 x89.2) <| allN⟩ (taN (by decide)) allN (by unfold tb_u0_0_11; exact allC (tbd (yr) rfl rfl) <| allC (tbd (y1b) rfl rfl) <| allN) h
  have same : ∀ {L : Array Slot}, eqF [(.int 0, .float 21), (.int 1, .float 22), (.int 1, .float 23), (.int 0, .float 24), (.int 0, .float 25), (.int 0, .float 26), (.int 0, .float 27), (.int 0, .float 20), (.int 0, .float 28), (.int 0, .float 29), (.int 0, .float 30), (.int 0, .float 31), (.double 0, .double 12), (.double 0, .double 13)] L.toList L.toList = true → ST l Z (mkA bs (SG p0 e v0 v1 m0 m1 m2 m3 s0 s1 (LS 0) ds) T1 T2 F (UU c1 c2 yr y1b q t s y1 y1b a b yr) V) bs 108 L [] hp_10 0 0 108 L [] hp_31 0 0 := fun h => Seg.same (tab := [(.int 0, .float 21), (.int 1, .float 22), (.int 1, .float 23), (.int 0, .float 24), (.int 0, .float 25), (.int 0, .float 26), (.int 0, .float 27), (.int 0, .float 20), (.int 0, .float 28), (.int 0, .float 29), (.int 0, .float 30), (.int 0, .float 31), (.double 0, .double 12), (.double 0, .double 13)]) rfl (allC (rfl) <| allC (rfl) <| allC (rfl) <| allC (rfl) <| allC (rfl) <| allC (rfl) <| allC (rfl) <| allC (rfl) <| allC (rfl) <| allC (rfl) <| allC (rfl) <| allC (rfl) <| allC (congrArg Value.double hu.symm) <| allC (congrArg Value.double hl.symm) <| allN) (by rw [h]; exact (by decide +kernel : (true && (eqL [(.int 0, .float 21), (.int 1, .float 22), (.int 1, .float 23), (.int 0, .float 24), (.int 0, .float 25), (.int 0, .float 26), (.int 0, .float 27), (.int 0, .float 20), (.int 0, .float 28), (.int 0, .float 29), (.int 0, .float 30), (.int 0, .float 31), (.double 0, .double 12), (.double 0, .double 13)] [] [] && eqH [(.int 0, .float 21), (.int 1, .float 22), (.int 1, .float 23), (.int 0, .float 24), (.int 0, .float 25), (.int 0, .float 26), (.int 0, .float 27), (.int 0, .float 20), (.int 0, .float 28), (.int 0, .float 29), (.int 0, .float 30), (.int 0, .float 31), (.double 0, .double 12), (.double 0, .double 13)] hp_31 hp_10)) = true))
  cases v
  · exact ⟨_, Seg.trans (same (by decide +kernel)) (key sg_u0_0_11)⟩
  · exact ⟨_, Seg.trans (same (by decide +kernel)) (key sg_u1_0_11)⟩
theorem own_u_1_00 (hw : HWt a0 Z) (p0 e v0 v1 m0 m1 m2 m3 s0 s1 c1 c2 : Int32) (ds : List UInt64) (T1 T2 F V : Gp) (q t s y1 y1b a b yr : UInt64) (x82 : NX (FP.ddiv (F.2.getD 6 0) (ds.getD 0 0)) q) (x83 : NX (FP.dmul (ds.getD 2 0) q) t) (x84 : NX (FP.dsub (F.2.getD 7 0) t) s) (x85 : NX (FP.ddiv s (ds.getD 1 0)) y1) (x86 : NX (FP.dsub y1 0) y1b) (x89 : NX (FP.dsub q 0) yr) (xc1 : cmpValue (FP.dcmp q 0) .l = c1) (xc2 : cmpValue (FP.dcmp y1 0) .l = c2) (hq : c1 ≠ 0) (hy : c2 ≠ 0) (hl : ds.getD 3 0 = 0) (v : Bool) : ∃ L', ST l Z (mkA bs (SG p0 e v0 v1 m0 m1 m2 m3 s0 s1 (LS 1) ds) T1 T2 F (UU c1 c2 y1b yr q t s y1 y1b a b yr) V) bs 108 (if v then la_19 else la_18) [] hp_10 0 0 318 L' [] hp_32 0 0 := by
  have key : ∀ {L L2 : Array Slot} {H : AH}, seg (cal tp_u0_1_00 tq_u0_1_00) (pg_33 tp_u0_1_00 tq_u0_1_00) 3000 108 L [] H 0 0 tb_u0_1_00 318 L2 [] hp_32 0 0 rm_33.slots = true → ST l Z (mkA bs (SG p0 e v0 v1 m0 m1 m2 m3 s0 s1 (LS 1) ds) T1 T2 F (UU c1 c2 y1b yr q t s y1 y1b a b yr) V) bs 108 L [] H 0 0 318 L2 [] hp_32 0 0 := fun h => sgT hw mkA_ad ⟨mkA_c, by unfold tp_u0_1_00; exact allC (teG (by decide) x82.1 x82.2) <| allC (te12 xc1) <| allC (te13n hq) <| allC (teG (by decide) x83.1 x83.2) <| allC (teG (by decide) x84.1 x84.2) <| allC (teG (by decide) x85.1 x85.2) <| allC (te12 xc2) <| allC (te13n hy) <| allC (teG (by decide) x86.1 x86.2) <| allC (teG (by decide) x89.1 x89.2) <| allN⟩ (taN (by decide)) allN (by unfold tb_u0_1_00; exact allC (tbd (y1b) rfl rfl) <| allC (tbd (yr) rfl rfl) <| allN) h
  have same : ∀ {L : Array Slot}, eqF [(.int 1, .float 21), (.int 0, .float 22), (.int 0, .float 23), (.int 1, .float 24), (.int 1, .float 25), (.int 1, .float 26), (.int 1, .float 27), (.int 1, .float 20), (.int 0, .float 28), (.int 0, .float 29), (.int 0, .float 30), (.int 0, .float 31), (.double 0, .double 13)] L.toList L.toList = true → ST l Z (mkA bs (SG p0 e v0 v1 m0 m1 m2 m3 s0 s1 (LS 1) ds) T1 T2 F (UU c1 c2 y1b yr q t s y1 y1b a b yr) V) bs 108 L [] hp_10 0 0 108 L [] hp_33 0 0 := fun h => Seg.same (tab := [(.int 1, .float 21), (.int 0, .float 22), (.int 0, .float 23), (.int 1, .float 24), (.int 1, .float 25), (.int 1, .float 26), (.int 1, .float 27), (.int 1, .float 20), (.int 0, .float 28), (.int 0, .float 29), (.int 0, .float 30), (.int 0, .float 31), (.double 0, .double 13)]) rfl (allC (rfl) <| allC (rfl) <| allC (rfl) <| allC (rfl) <| allC (rfl) <| allC (rfl) <| allC (rfl) <| allC (rfl) <| allC (rfl) <| allC (rfl) <| allC (rfl) <| allC (rfl) <| allC (congrArg Value.double hl.symm) <| allN) (by rw [h]; exact (by decide +kernel : (true && (eqL [(.int 1, .float 21), (.int 0, .float 22), (.int 0, .float 23), (.int 1, .float 24), (.int 1, .float 25), (.int 1, .float 26), (.int 1, .float 27), (.int 1, .float 20), (.int 0, .float 28), (.int 0, .float 29), (.int 0, .float 30), (.int 0, .float 31), (.double 0, .double 13)] [] [] && eqH [(.int 1, .float 21), (.int 0, .float 22), (.int 0, .float 23), (.int 1, .float 24), (.int 1, .float 25), (.int 1, .float 26), (.int 1, .float 27), (.int 1, .float 20), (.int 0, .float 28), (.int 0, .float 29), (.int 0, .float 30), (.int 0, .float 31), (.double 0, .double 13)] hp_33 hp_10)) = true))
  cases v
  · exact ⟨_, Seg.trans (same (by decide +kernel)) (key sg_u0_1_00)⟩
  · exact ⟨_, Seg.trans (same (by decide +kernel)) (key sg_u1_1_00)⟩
theorem own_u_1_01 (hw : HWt a0 Z) (p0 e v0 v1 m0 m1 m2 m3 s0 s1 c1 c2 : Int32) (ds : List UInt64) (T1 T2 F V : Gp) (q t s y1 y1b a b yr : UInt64) (x82 : NX (FP.ddiv (F.2.getD 6 0) (ds.getD 0 0)) q) (x83 : NX (FP.dmul (ds.getD 2 0) q) t) (x84 : NX (FP.dsub (F.2.getD 7 0) t) s) (x85 : NX (FP.ddiv s (ds.getD 1 0)) y1) (x86 : NX (FP.dsub y1 0) y1b) (x89 : NX (FP.dsub q 0) yr) (xc1 : cmpValue (FP.dcmp q 0) .l = c1) (xc2 : cmpValue (FP.dcmp y1 0) .l = c2) (hq : c1 ≠ 0) (hy : c2 = 0) (hl : ds.getD 3 0 = 0) (v : Bool) : ∃ L', ST l Z (mkA bs (SG p0 e v0 v1 m0 m1 m2 m3 s0 s1 (LS 1) ds) T1 T2 F (UU c1 c2 y1b yr q t s y1 y1b a b yr) V) bs 108 (if v then la_19 else la_18) [] hp_10 0 0 318 L' [] hp_32 0 0 := by
  have key : ∀ {L L2 : Array Slot} {H : AH}, seg (cal tp_u0_1_01 tq_u0_1_01) (pg_33 tp_u0_1_01 tq_u0_1_01) 3000 108 L [] H 0 0 tb_u0_1_01 318 L2 [] hp_32 0 0 rm_33.slots = true → ST l Z (mkA bs (SG p0 e v0 v1 m0 m1 m2 m3 s0 s1 (LS 1) ds) T1 T2 F (UU c1 c2 y1b yr q t s y1 y1b a b yr) V) bs 108 L [] H 0 0 318 L2 [] hp_32 0 0 := fun h => sgT hw mkA_ad ⟨mkA_c, by unfold tp_u0_1_01; exact allC (teG (by decide) x82.1 x82.2) <| allC (te12 xc1) <| allC (te13n hq) <| allC (teG (by decide) x83.1 x83.2) <| allC (teG (by decide) x84.1 x84.2) <| allC (teG (by decide) x85.1 x85.2) <| allC (te12 xc2) <| allC (te13z hy) <| allC (teG (by decide) x86.1 x86.2) <| allC (teG (by decide) x89.1 x89.2) <| allN⟩ (taN (by decide)) allN (by unfold tb_u0_1_01; exact allC (tbd (y1b) rfl rfl) <| allC (tbd (yr) rfl rfl) <| allN) h
  have same : ∀ {L : Array Slot}, eqF [(.int 1, .float 21), (.int 0, .float 22), (.int 0, .float 23), (.int 1, .float 24), (.int 1, .float 25), (.int 1, .float 26), (.int 1, .float 27), (.int 1, .float 20), (.int 0, .float 28), (.int 0, .float 29), (.int 0, .float 30), (.int 0, .float 31), (.double 0, .double 13)] L.toList L.toList = true → ST l Z (mkA bs (SG p0 e v0 v1 m0 m1 m2 m3 s0 s1 (LS 1) ds) T1 T2 F (UU c1 c2 y1b yr q t s y1 y1b a b yr) V) bs 108 L [] hp_10 0 0 108 L [] hp_33 0 0 := fun h => Seg.same (tab := [(.int 1, .float 21), (.int 0, .float 22), (.int 0, .float 23), (.int 1, .float 24), (.int 1, .float 25), (.int 1, .float 26), (.int 1, .float 27), (.int 1, .float 20), (.int 0, .float 28), (.int 0, .float 29), (.int 0, .float 30), (.int 0, .float 31), (.double 0, .double 13)]) rfl (allC (rfl) <| allC (rfl) <| allC (rfl) <| allC (rfl) <| allC (rfl) <| allC (rfl) <| allC (rfl) <| allC (rfl) <| allC (rfl) <| allC (rfl) <| allC (rfl) <| allC (rfl) <| allC (congrArg Value.double hl.symm) <| allN) (by rw [h]; exact (by decide +kernel : (true && (eqL [(.int 1, .float 21), (.int 0, .float 22), (.int 0, .float 23), (.int 1, .float 24), (.int 1, .float 25), (.int 1, .float 26), (.int 1, .float 27), (.int 1, .float 20), (.int 0, .float 28), (.int 0, .float 29), (.int 0, .float 30), (.int 0, .float 31), (.double 0, .double 13)] [] [] && eqH [(.int 1, .float 21), (.int 0, .float 22), (.int 0, .float 23), (.int 1, .float 24), (.int 1, .float 25), (.int 1, .float 26), (.int 1, .float 27), (.int 1, .float 20), (.int 0, .float 28), (.int 0, .float 29), (.int 0, .float 30), (.int 0, .float 31), (.double 0, .double 13)] hp_33 hp_10)) = true))
  cases v
  · exact ⟨_, Seg.trans (same (by decide +kernel)) (key sg_u0_1_01)⟩
  · exact ⟨_, Seg.trans (same (by decide +kernel)) (key sg_u1_1_01)⟩
theorem own_u_1_10 (hw : HWt a0 Z) (p0 e v0 v1 m0 m1 m2 m3 s0 s1 c1 c2 : Int32) (ds : List UInt64) (T1 T2 F V : Gp) (q t s y1 y1b a b yr : UInt64) (x82 : NX (FP.ddiv (F.2.getD 6 0) (ds.getD 0 0)) q) (x85 : NX (FP.ddiv (F.2.getD 7 0) (ds.getD 1 0)) y1) (x86 : NX (FP.dsub y1 0) y1b) (x89 : NX (FP.dsub q 0) yr) (xc1 : cmpValue (FP.dcmp q 0) .l = c1) (xc2 : cmpValue (FP.dcmp y1 0) .l = c2) (hq : c1 = 0) (hy : c2 ≠ 0) (hl : ds.getD 3 0 = 0) (v : Bool) : ∃ L', ST l Z (mkA bs (SG p0 e v0 v1 m0 m1 m2 m3 s0 s1 (LS 1) ds) T1 T2 F (UU c1 c2 y1b yr q t s y1 y1b a b yr) V) bs 108 (if v then la_19 else la_18) [] hp_10 0 0 318 L' [] hp_32 0 0 := by
  have key : ∀ {L L2 : Array Slot} {H : AH}, seg (cal tp_u0_1_10 tq_u0_1_10) (pg_33 tp_u0_1_10 tq_u0_1_10) 3000 108 L [] H 0 0 tb_u0_1_10 318 L2 [] hp_32 0 0 rm_33.slots = true → ST l Z (mkA bs (SG p0 e v0 v1 m0 m1 m2 m3 s0 s1 (LS 1) ds) T1 T2 F (UU c1 c2 y1b yr q t s y1 y1b a b yr) V) bs 108 L [] H 0 0 318 L2 [] hp_32 0 0 := fun h => sgT hw mkA_ad ⟨mkA_c, by unfold tp_u0_1_10; exact allC (teG (by decide) x82.1 x82.2) <| allC (te12 xc1) <| allC (te13z hq) <| allC (teG (by decide) x85.1 x85.2) <| allC (te12 xc2) <| allC (te13n hy) <| allC (teG (by decide) x86.1 x86.2) <| allC (teG (by decide) x89.1 x89.2) <| allN⟩ (taN (by decide)) allN (by unfold tb_u0_1_10; exact allC (tbd (y1b) rfl rfl) <| allC (tbd (yr) rfl rfl) <| allN) h
  have same : ∀ {L : Array Slot}, eqF [(.int 1, .float 21), (.int 0, .float 22), (.int 0, .float 23), (.int 1, .float 24), (.int 1, .float 25), (.int 1, .float 26), (.int 1, .float 27), (.int 1, .float 20), (.int 0, .float 28), (.int 0, .float 29), (.int 0, .float 30), (.int 0, .float 31), (.double 0, .double 13)] L.toList L.toList = true → ST l Z (mkA bs (SG p0 e v0 v1 m0 m1 m2 m3 s0 s1 (LS 1) ds) T1 T2 F (UU c1 c2 y1b yr q t s y1 y1b a b yr) V) bs 108 L [] hp_10 0 0 108 L [] hp_33 0 0 := fun h => Seg.same (tab := [(.int 1, .float 21), (.int 0, .float 22), (.int 0, .float 23), (.int 1, .float 24), (.int 1, .float 25), (.int 1, .float 26), (.int 1, .float 27), (.int 1, .float 20), (.int 0, .float 28), (.int 0, .float 29), (.int 0, .float 30), (.int 0, .float 31), (.double 0, .double 13)]) rfl (allC (rfl) <| allC (rfl) <| allC (rfl) <| allC (rfl) <| allC (rfl) <| allC (rfl) <| allC (rfl) <| allC (rfl) <| allC (rfl) <| allC (rfl) <| allC (rfl) <| allC (rfl) <| allC (congrArg Value.double hl.symm) <| allN) (by rw [h]; exact (by decide +kernel : (true && (eqL [(.int 1, .float 21), (.int 0, .float 22), (.int 0, .float 23), (.int 1, .float 24), (.int 1, .float 25), (.int 1, .float 26), (.int 1, .float 27), (.int 1, .float 20), (.int 0, .float 28), (.int 0, .float 29), (.int 0, .float 30), (.int 0, .float 31), (.double 0, .double 13)] [] [] && eqH [(.int 1, .float 21), (.int 0, .float 22), (.int 0, .float 23), (.int 1, .float 24), (.int 1, .float 25), (.int 1, .float 26), (.int 1, .float 27), (.int 1, .float 20), (.int 0, .float 28), (.int 0, .float 29), (.int 0, .float 30), (.int 0, .float 31), (.double 0, .double 13)] hp_33 hp_10)) = true))
  cases v
  · exact ⟨_, Seg.trans (same (by decide +kernel)) (key sg_u0_1_10)⟩
  · exact ⟨_, Seg.trans (same (by decide +kernel)) (key sg_u1_1_10)⟩
theorem own_u_1_11 (hw : HWt a0 Z) (p0 e v0 v1 m0 m1 m2 m3 s0 s1 c1 c2 : Int32) (ds : List UInt64) (T1 T2 F V : Gp) (q t s y1 y1b a b yr : UInt64) (x82 : NX (FP.ddiv (F.2.getD 6 0) (ds.getD 0 0)) q) (x85 : NX (FP.ddiv (F.2.getD 7 0) (ds.getD 1 0)) y1) (x86 : NX (FP.dsub y1 0) y1b) (x89 : NX (FP.dsub q 0) yr) (xc1 : cmpValue (FP.dcmp q 0) .l = c1) (xc2 : cmpValue (FP.dcmp y1 0) .l = c2) (hq : c1 = 0) (hy : c2 = 0) (hl : ds.getD 3 0 = 0) (v : Bool) : ∃ L', ST l Z (mkA bs (SG p0 e v0 v1 m0 m1 m2 m3 s0 s1 (LS 1) ds) T1 T2 F (UU c1 c2 y1b yr q t s y1 y1b a b yr) V) bs 108 (if v then la_19 else la_18) [] hp_10 0 0 318 L' [] hp_32 0 0 := by
  have key : ∀ {L L2 : Array Slot} {H : AH}, seg (cal tp_u0_1_11 tq_u0_1_11) (pg_33 tp_u0_1_11 tq_u0_1_11) 3000 108 L [] H 0 0 tb_u0_1_11 318 L2 [] hp_32 0 0 rm_33.slots = true → ST l Z (mkA bs (SG p0 e v0 v1 m0 m1 m2 m3 s0 s1 (LS 1) ds) T1 T2 F (UU c1 c2 y1b yr q t s y1 y1b a b yr) V) bs 108 L [] H 0 0 318 L2 [] hp_32 0 0 := fun h => sgT hw mkA_ad ⟨mkA_c, by unfold tp_u0_1_11; exact allC (teG (by decide) x82.1 x82.2) <| allC (te12 xc1) <| allC (te13z hq) <| allC (teG (by decide) x85.1 x85.2) <| allC (te12 xc2) <| allC (te13z hy) <| allC (teG (by decide) x86.1 x86.2) <| allC (teG (by decide) x89.1 x89.2) <| allN⟩ (taN (by decide)) allN (by unfold tb_u0_1_11; exact allC (tbd (y1b) rfl rfl) <| allC (tbd (yr) rfl rfl) <| allN) h
  have same : ∀ {L : Array Slot}, eqF [(.int 1, .float 21), (.int 0, .float 22), (.int 0, .float 23), (.int 1, .float 24), (.int 1, .float 25), (.int 1, .float 26), (.int 1, .float 27), (.int 1, .float 20), (.int 0, .float 28), (.int 0, .float 29), (.int 0, .float 30), (.int 0, .float 31), (.double 0, .double 13)] L.toList L.toList = true → ST l Z (mkA bs (SG p0 e v0 v1 m0 m1 m2 m3 s0 s1 (LS 1) ds) T1 T2 F (UU c1 c2 y1b yr q t s y1 y1b a b yr) V) bs 108 L [] hp_10 0 0 108 L [] hp_33 0 0 := fun h => Seg.same (tab := [(.int 1, .float 21), (.int 0, .float 22), (.int 0, .float 23), (.int 1, .float 24), (.int 1, .float 25), (.int 1, .float 26), (.int 1, .float 27), (.int 1, .float 20), (.int 0, .float 28), (.int 0, .float 29), (.int 0, .float 30), (.int 0, .float 31), (.double 0, .double 13)]) rfl (allC (rfl) <| allC (rfl) <| allC (rfl) <| allC (rfl) <| allC (rfl) <| allC (rfl) <| allC (rfl) <| allC (rfl) <| allC (rfl) <| allC (rfl) <| allC (rfl) <| allC (rfl) <| allC (congrArg Value.double hl.symm) <| allN) (by rw [h]; exact (by decide +kernel : (true && (eqL [(.int 1, .float 21), (.int 0, .float 22), (.int 0, .float 23), (.int 1, .float 24), (.int 1, .float 25), (.int 1, .float 26), (.int 1, .float 27), (.int 1, .float 20), (.int 0, .float 28), (.int 0, .float 29), (.int 0, .float 30), (.int 0, .float 31), (.double 0, .double 13)] [] [] && eqH [(.int 1, .float 21), (.int 0, .float 22), (.int 0, .float 23), (.int 1, .float 24), (.int 1, .float 25), (.int 1, .float 26), (.int 1, .float 27), (.int 1, .float 20), (.int 0, .float 28), (.int 0, .float 29), (.int 0, .float 30), (.int 0, .float 31), (.double 0, .double 13)] hp_33 hp_10)) = true))
  cases v
  · exact ⟨_, Seg.trans (same (by decide +kernel)) (key sg_u0_1_11)⟩
  · exact ⟨_, Seg.trans (same (by decide +kernel)) (key sg_u1_1_11)⟩
theorem own_u_2_00 (hw : HWt a0 Z) (p0 e v0 v1 m0 m1 m2 m3 s0 s1 c1 c2 : Int32) (ds : List UInt64) (T1 T2 F V : Gp) (q t s y1 y1b a b yr : UInt64) (x82 : NX (FP.ddiv (F.2.getD 7 0) (ds.getD 0 0)) q) (x85 : NX (FP.ddiv (F.2.getD 6 0) (ds.getD 1 0)) y1) (x86 : NX (FP.dsub y1 0) y1b) (x89 : NX (FP.dsub q 0) yr) (xc1 : cmpValue (FP.dcmp q 0) .l = c1) (xc2 : cmpValue (FP.dcmp y1 0) .l = c2) (hq : c1 ≠ 0) (hy : c2 ≠ 0) (hu : ds.getD 2 0 = 0) (hl : ds.getD 3 0 = 0) (v : Bool) : ∃ L', ST l Z (mkA bs (SG p0 e v0 v1 m0 m1 m2 m3 s0 s1 (LS 2) ds) T1 T2 F (UU c1 c2 y1b yr q t s y1 y1b a b yr) V) bs 108 (if v then la_19 else la_18) [] hp_10 0 0 318 L' [] hp_32 0 0 := by
  have key : ∀ {L L2 : Array Slot} {H : AH}, seg (cal tp_u0_2_00 tq_u0_2_00) (pg_33 tp_u0_2_00 tq_u0_2_00) 3000 108 L [] H 0 0 tb_u0_2_00 318 L2 [] hp_32 0 0 rm_33.slots = true → ST l Z (mkA bs (SG p0 e v0 v1 m0 m1 m2 m3 s0 s1 (LS 2) ds) T1 T2 F (UU c1 c2 y1b yr q t s y1 y1b a b yr) V) bs 108 L [] H 0 0 318 L2 [] hp_32 0 0 := fun h => sgT hw mkA_ad ⟨mkA_c, by unfold tp_u0_2_00; exact allC (teG (by decide) x82.1 x82.2) <| allC (te12 xc1) <| allC (te13n hq) <| allC (teG (by decide) x85.1 x85.2) <| allC (te12 xc2) <| allC (te13n hy) <| allC (teG (by decide) x86.1 x86.2) <| allC (teG (by decide) x89.1 x89.2) <| allN⟩ (taN (by decide)) allN (by unfold tb_u0_2_00; exact allC (tbd (y1b) rfl rfl) <| allC (tbd (yr) rfl rfl) <| allN) h
  have same : ∀ {L : Array Slot}, eqF [(.int 1, .float 21), (.int 0, .float 22), (.int 1, .float 23), (.int 0, .float 24), (.int 0, .float 25), (.int 0, .float 26), (.int 0, .float 27), (.int 0, .float 20), (.int 0, .float 28), (.int 0, .float 29), (.int 0, .float 30), (.int 0, .float 31), (.double 0, .double 12), (.double 0, .double 13)] L.toList L.toList = true → ST l Z (mkA bs (SG p0 e v0 v1 m0 m1 m2 m3 s0 s1 (LS 2) ds) T1 T2 F (UU c1 c2 y1b yr q t s y1 y1b a b yr) V) bs 108 L [] hp_10 0 0 108 L [] hp_34 0 0 := fun h => Seg.same (tab := [(.int 1, .float 21), (.int 0, .float 22), (.int 1, .float 23), (.int 0, .float 24), (.int 0, .float 25), (.int 0, .float 26), (.int 0, .float 27), (.int 0, .float 20), (.int 0, .float 28), (.int 0, .float 29), (.int 0, .float 30), (.int 0, .float 31), (.double 0, .double 12), (.double 0, .double 13)]) rfl (allC (rfl) <| allC (rfl) <| allC (rfl) <| allC (rfl) <| allC (rfl) <| allC (rfl) <| allC (rfl) <| allC (rfl) <| allC (rfl) <| allC (rfl) <| allC (rfl) <| allC (rfl) <| allC (congrArg Value.double hu.symm) <| allC (congrArg Value.double hl.symm) <| allN) (by rw [h]; exact (by decide +kernel : (true && (eqL [(.int 1, .float 21), (.int 0, .float 22), (.int 1, .float 23), (.int 0, .float 24), (.int 0, .float 25), (.int 0, .float 26), (.int 0, .float 27), (.int 0, .float 20), (.int 0, .float 28), (.int 0, .float 29), (.int 0, .float 30), (.int 0, .float 31), (.double 0, .double 12), (.double 0, .double 13)] [] [] && eqH [(.int 1, .float 21), (.int 0, .float 22), (.int 1, .float 23), (.int 0, .float 24), (.int 0, .float 25), (.int 0, .float 26), (.int 0, .float 27), (.int 0, .float 20), (.int 0, .float 28), (.int 0, .float 29), (.int 0, .float 30), (.int 0, .float 31), (.double 0, .double 12), (.double 0, .double 13)] hp_34 hp_10)) = true))
  cases v
  · exact ⟨_, Seg.trans (same (by decide +kernel)) (key sg_u0_2_00)⟩
  · exact ⟨_, Seg.trans (same (by decide +kernel)) (key sg_u1_2_00)⟩
theorem own_u_2_01 (hw : HWt a0 Z) (p0 e v0 v1 m0 m1 m2 m3 s0 s1 c1 c2 : Int32) (ds : List UInt64) (T1 T2 F V : Gp) (q t s y1 y1b a b yr : UInt64) (x82 : NX (FP.ddiv (F.2.getD 7 0) (ds.getD 0 0)) q) (x85 : NX (FP.ddiv (F.2.getD 6 0) (ds.getD 1 0)) y1) (x86 : NX (FP.dsub y1 0) y1b) (x89 : NX (FP.dsub q 0) yr) (xc1 : cmpValue (FP.dcmp q 0) .l = c1) (xc2 : cmpValue (FP.dcmp y1 0) .l = c2) (hq : c1 ≠ 0) (hy : c2 = 0) (hu : ds.getD 2 0 = 0) (hl : ds.getD 3 0 = 0) (v : Bool) : ∃ L', ST l Z (mkA bs (SG p0 e v0 v1 m0 m1 m2 m3 s0 s1 (LS 2) ds) T1 T2 F (UU c1 c2 y1b yr q t s y1 y1b a b yr) V) bs 108 (if v then la_19 else la_18) [] hp_10 0 0 318 L' [] hp_32 0 0 := by
  have key : ∀ {L L2 : Array Slot} {H : AH}, seg (cal tp_u0_2_01 tq_u0_2_01) (pg_33 tp_u0_2_01 tq_u0_2_01) 3000 108 L [] H 0 0 tb_u0_2_01 318 L2 [] hp_32 0 0 rm_33.slots = true → ST l Z (mkA bs (SG p0 e v0 v1 m0 m1 m2 m3 s0 s1 (LS 2) ds) T1 T2 F (UU c1 c2 y1b yr q t s y1 y1b a b yr) V) bs 108 L [] H 0 0 318 L2 [] hp_32 0 0 := fun h => sgT hw mkA_ad ⟨mkA_c, by unfold tp_u0_2_01; exact allC (teG (by decide) x82.1 x82.2) <| allC (te12 xc1) <| allC (te13n hq) <| allC (teG (by decide) x85.1 x85.2) <| allC (te12 xc2) <| allC (te13z hy) <| allC (teG (by decide) x86.1 x86.2) <| allC (teG (by decide) x89.1 x89.2) <| allN⟩ (taN (by decide)) allN (by unfold tb_u0_2_01; exact allC (tbd (y1b) rfl rfl) <| allC (tbd (yr) rfl rfl) <| allN) h
  have same : ∀ {L : Array Slot}, eqF [(.int 1, .float 21), (.int 0, .float 22), (.int 1, .float 23), (.int 0, .float 24), (.int 0, .float 25), (.int 0, .float 26), (.int 0, .float 27), (.int 0, .float 20), (.int 0, .float 28), (.int 0, .float 29), (.int 0, .float 30), (.int 0, .float 31), (.double 0, .double 12), (.double 0, .double 13)] L.toList L.toList = true → ST l Z (mkA bs (SG p0 e v0 v1 m0 m1 m2 m3 s0 s1 (LS 2) ds) T1 T2 F (UU c1 c2 y1b yr q t s y1 y1b a b yr) V) bs 108 L [] hp_10 0 0 108 L [] hp_34 0 0 := fun h => Seg.same (tab := [(.int 1, .float 21), (.int 0, .float 22), (.int 1, .float 23), (.int 0, .float 24), (.int 0, .float 25), (.int 0, .float 26), (.int 0, .float 27), (.int 0, .float 20), (.int 0, .float 28), (.int 0, .float 29), (.int 0, .float 30), (.int 0, .float 31), (.double 0, .double 12), (.double 0, .double 13)]) rfl (allC (rfl) <| allC (rfl) <| allC (rfl) <| allC (rfl) <| allC (rfl) <| allC (rfl) <| allC (rfl) <| allC (rfl) <| allC (rfl) <| allC (rfl) <| allC (rfl) <| allC (rfl) <| allC (congrArg Value.double hu.symm) <| allC (congrArg Value.double hl.symm) <| allN) (by rw [h]; exact (by decide +kernel : (true && (eqL [(.int 1, .float 21), (.int 0, .float 22), (.int 1, .float 23), (.int 0, .float 24), (.int 0, .float 25), (.int 0, .float 26), (.int 0, .float 27), (.int 0, .float 20), (.int 0, .float 28), (.int 0, .float 29), (.int 0, .float 30), (.int 0, .float 31), (.double 0, .double 12), (.double 0, .double 13)] [] [] && eqH [(.int 1, .float 21), (.int 0, .float 22), (.int 1, .float 23), (.int 0, .float 24), (.int 0, .float 25), (.int 0, .float 26), (.int 0, .float 27), (.int 0, .float 20), (.int 0, .float 28), (.int 0, .float 29), (.int 0, .float 30), (.int 0, .float 31), (.double 0, .double 12), (.double 0, .double 13)] hp_34 hp_10)) = true))
  cases v
  · exact ⟨_, Seg.trans (same (by decide +kernel)) (key sg_u0_2_01)⟩
  · exact ⟨_, Seg.trans (same (by decide +kernel)) (key sg_u1_2_01)⟩
theorem own_u_2_10 (hw : HWt a0 Z) (p0 e v0 v1 m0 m1 m2 m3 s0 s1 c1 c2 : Int32) (ds : List UInt64) (T1 T2 F V : Gp) (q t s y1 y1b a b yr : UInt64) (x82 : NX (FP.ddiv (F.2.getD 7 0) (ds.getD 0 0)) q) (x85 : NX (FP.ddiv (F.2.getD 6 0) (ds.getD 1 0)) y1) (x86 : NX (FP.dsub y1 0) y1b) (x89 : NX (FP.dsub q 0) yr) (xc1 : cmpValue (FP.dcmp q 0) .l = c1) (xc2 : cmpValue (FP.dcmp y1 0) .l = c2) (hq : c1 = 0) (hy : c2 ≠ 0) (hu : ds.getD 2 0 = 0) (hl : ds.getD 3 0 = 0) (v : Bool) : ∃ L', ST l Z (mkA bs (SG p0 e v0 v1 m0 m1 m2 m3 s0 s1 (LS 2) ds) T1 T2 F (UU c1 c2 y1b yr q t s y1 y1b a b yr) V) bs 108 (if v then la_19 else la_18) [] hp_10 0 0 318 L' [] hp_32 0 0 := by
  have key : ∀ {L L2 : Array Slot} {H : AH}, seg (cal tp_u0_2_10 tq_u0_2_10) (pg_33 tp_u0_2_10 tq_u0_2_10) 3000 108 L [] H 0 0 tb_u0_2_10 318 L2 [] hp_32 0 0 rm_33.slots = true → ST l Z (mkA bs (SG p0 e v0 v1 m0 m1 m2 m3 s0 s1 (LS 2) ds) T1 T2 F (UU c1 c2 y1b yr q t s y1 y1b a b yr) V) bs 108 L [] H 0 0 318 L2 [] hp_32 0 0 := fun h => sgT hw mkA_ad ⟨mkA_c, by unfold tp_u0_2_10; exact allC (teG (by decide) x82.1 x82.2) <| allC (te12 xc1) <| allC (te13z hq) <| allC (teG (by decide) x85.1 x85.2) <| allC (te12 xc2) <| allC (te13n hy) <| allC (teG (by decide) x86.1 x86.2) <| allC (teG (by decide) x89.1 x89.2) <| allN⟩ (taN (by decide)) allN (by unfold tb_u0_2_10; exact allC (tbd (y1b) rfl rfl) <| allC (tbd (yr) rfl rfl) <| allN) h
  have same : ∀ {L : Array Slot}, eqF [(.int 1, .float 21), (.int 0, .float 22), (.int 1, .float 23), (.int 0, .float 24), (.int 0, .float 25), (.int 0, .float 26), (.int 0, .float 27), (.int 0, .float 20), (.int 0, .float 28), (.int 0, .float 29), (.int 0, .float 30), (.int 0, .float 31), (.double 0, .double 12), (.double 0, .double 13)] L.toList L.toList = true → ST l Z (mkA bs (SG p0 e v0 v1 m0 m1 m2 m3 s0 s1 (LS 2) ds) T1 T2 F (UU c1 c2 y1b yr q t s y1 y1b a b yr) V) bs 108 L [] hp_10 0 0 108 L [] hp_34 0 0 := fun h => Seg.same (tab := [(.int 1, .float 21), (.int 0, .float 22), (.int 1, .float 23), (.int 0, .float 24), (.int 0, .float 25), (.int 0, .float 26), (.int 0, .float 27), (.int 0, .float 20), (.int 0, .float 28), (.int 0, .float 29), (.int 0, .float 30), (.int 0, .float 31), (.double 0, .double 12), (.double 0, .double 13)]) rfl (allC (rfl) <| allC (rfl) <| allC (rfl) <| allC (rfl) <| allC (rfl) <| allC (rfl) <| allC (rfl) <| allC (rfl) <| allC (rfl) <| allC (rfl) <| allC (rfl) <| allC (rfl) <| allC (congrArg Value.double hu.symm) <| allC (congrArg Value.double hl.symm) <| allN) (by rw [h]; exact (by decide +kernel : (true && (eqL [(.int 1, .float 21), (.int 0, .float 22), (.int 1, .float 23), (.int 0, .float 24), (.int 0, .float 25), (.int 0, .float 26), (.int 0, .float 27), (.int 0, .float 20), (.int 0, .float 28), (.int 0, .float 29), (.int 0, .float 30), (.int 0, .float 31), (.double 0, .double 12), (.double 0, .double 13)] [] [] && eqH [(.int 1, .float 21), (.int 0, .float 22), (.int 1, .float 23), (.int 0, .float 24), (.int 0, .float 25), (.int 0, .float 26), (.int 0, .float 27), (.int 0, .float 20), (.int 0, .float 28), (.int 0, .float 29), (.int 0, .float 30), (.int 0, .float 31), (.double 0, .double 12), (.double 0, .double 13)] hp_34 hp_10)) = true))
  cases v
  · exact ⟨_, Seg.trans (same (by decide +kernel)) (key sg_u0_2_10)⟩
  · exact ⟨_, Seg.trans (same (by decide +kernel)) (key sg_u1_2_10)⟩
theorem own_u_2_11 (hw : HWt a0 Z) (p0 e v0 v1 m0 m1 m2 m3 s0 s1 c1 c2 : Int32) (ds : List UInt64) (T1 T2 F V : Gp) (q t s y1 y1b a b yr : UInt64) (x82 : NX (FP.ddiv (F.2.getD 7 0) (ds.getD 0 0)) q) (x85 : NX (FP.ddiv (F.2.getD 6 0) (ds.getD 1 0)) y1) (x86 : NX (FP.dsub y1 0) y1b) (x89 : NX (FP.dsub q 0) yr) (xc1 : cmpValue (FP.dcmp q 0) .l = c1) (xc2 : cmpValue (FP.dcmp y1 0) .l = c2) (hq : c1 = 0) (hy : c2 = 0) (hu : ds.getD 2 0 = 0) (hl : ds.getD 3 0 = 0) (v : Bool) : ∃ L', ST l Z (mkA bs (SG p0 e v0 v1 m0 m1 m2 m3 s0 s1 (LS 2) ds) T1 T2 F (UU c1 c2 y1b yr q t s y1 y1b a b yr) V) bs 108 (if v then la_19 else la_18) [] hp_10 0 0 318 L' [] hp_32 0 0 := by
  have key : ∀ {L L2 : Array Slot} {H : AH}, seg (cal tp_u0_2_11 tq_u0_2_11) (pg_33 tp_u0_2_11 tq_u0_2_11) 3000 108 L [] H 0 0 tb_u0_2_11 318 L2 [] hp_32 0 0 rm_33.slots = true → ST l Z (mkA bs (SG p0 e v0 v1 m0 m1 m2 m3 s0 s1 (LS 2) ds) T1 T2 F (UU c1 c2 y1b yr q t s y1 y1b a b yr) V) bs 108 L [] H 0 0 318 L2 [] hp_32 0 0 := fun h => sgT hw mkA_ad ⟨mkA_c, by unfold tp_u0_2_11; exact allC (teG (by decide) x82.1 x82.2) <| allC (te12 xc1) <| allC (te13z hq) <| allC (teG (by decide) x85.1 x85.2) <| allC (te12 xc2) <| allC (te13z hy) <| allC (teG (by decide) x86.1 x86.2) <| allC (teG (by decide) x89.1 x89.2) <| allN⟩ (taN (by decide)) allN (by unfold tb_u0_2_11; exact allC (tbd (y1b) rfl rfl) <| allC (tbd (yr) rfl rfl) <| allN) h
  have same : ∀ {L : Array Slot}, eqF [(.int 1, .float 21), (.int 0, .float 22), (.int 1, .float 23), (.int 0, .float 24), (.int 0, .float 25), (.int 0, .float 26), (.int 0, .float 27), (.int 0, .float 20), (.int 0, .float 28), (.int 0, .float 29), (.int 0, .float 30), (.int 0, .float 31), (.double 0, .double 12), (.double 0, .double 13)] L.toList L.toList = true → ST l Z (mkA bs (SG p0 e v0 v1 m0 m1 m2 m3 s0 s1 (LS 2) ds) T1 T2 F (UU c1 c2 y1b yr q t s y1 y1b a b yr) V) bs 108 L [] hp_10 0 0 108 L [] hp_34 0 0 := fun h => Seg.same (tab := [(.int 1, .float 21), (.int 0, .float 22), (.int 1, .float 23), (.int 0, .float 24), (.int 0, .float 25), (.int 0, .float 26), (.int 0, .float 27), (.int 0, .float 20), (.int 0, .float 28), (.int 0, .float 29), (.int 0, .float 30), (.int 0, .float 31), (.double 0, .double 12), (.double 0, .double 13)]) rfl (allC (rfl) <| allC (rfl) <| allC (rfl) <| allC (rfl) <| allC (rfl) <| allC (rfl) <| allC (rfl) <| allC (rfl) <| allC (rfl) <| allC (rfl) <| allC (rfl) <| allC (rfl) <| allC (congrArg Value.double hu.symm) <| allC (congrArg Value.double hl.symm) <| allN) (by rw [h]; exact (by decide +kernel : (true && (eqL [(.int 1, .float 21), (.int 0, .float 22), (.int 1, .float 23), (.int 0, .float 24), (.int 0, .float 25), (.int 0, .float 26), (.int 0, .float 27), (.int 0, .float 20), (.int 0, .float 28), (.int 0, .float 29), (.int 0, .float 30), (.int 0, .float 31), (.double 0, .double 12), (.double 0, .double 13)] [] [] && eqH [(.int 1, .float 21), (.int 0, .float 22), (.int 1, .float 23), (.int 0, .float 24), (.int 0, .float 25), (.int 0, .float 26), (.int 0, .float 27), (.int 0, .float 20), (.int 0, .float 28), (.int 0, .float 29), (.int 0, .float 30), (.int 0, .float 31), (.double 0, .double 12), (.double 0, .double 13)] hp_34 hp_10)) = true))
  cases v
  · exact ⟨_, Seg.trans (same (by decide +kernel)) (key sg_u0_2_11)⟩
  · exact ⟨_, Seg.trans (same (by decide +kernel)) (key sg_u1_2_11)⟩
theorem own_u_3_00 (hw : HWt a0 Z) (p0 e v0 v1 m0 m1 m2 m3 s0 s1 c1 c2 : Int32) (ds : List UInt64) (T1 T2 F V : Gp) (q t s y1 y1b a b yr : UInt64) (x82 : NX (FP.ddiv (F.2.getD 7 0) (ds.getD 0 0)) q) (x83 : NX (FP.dmul (ds.getD 2 0) q) t) (x84 : NX (FP.dsub (F.2.getD 6 0) t) s) (x85 : NX (FP.ddiv s (ds.getD 1 0)) y1) (x86 : NX (FP.dsub y1 0) y1b) (x89 : NX (FP.dsub q 0) yr) (xc1 : cmpValue (FP.dcmp q 0) .l = c1) (xc2 : cmpValue (FP.dcmp y1 0) .l = c2) (hq : c1 ≠ 0) (hy : c2 ≠ 0) (hl : ds.getD 3 0 = 0) (v : Bool) : ∃ L', ST l Z (mkA bs (SG p0 e v0 v1 m0 m1 m2 m3 s0 s1 (LS 3) ds) T1 T2 F (UU c1 c2 y1b yr q t s y1 y1b a b yr) V) bs 108 (if v then la_19 else la_18) [] hp_10 0 0 318 L' [] hp_32 0 0 := by
  have key : ∀ {L L2 : Array Slot} {H : AH}, seg (cal tp_u0_3_00 tq_u0_3_00) (pg_33 tp_u0_3_00 tq_u0_3_00) 3000 108 L [] H 0 0 tb_u0_3_00 318 L2 [] hp_32 0 0 rm_33.slots = true → ST l Z (mkA bs (SG p0 e v0 v1 m0 m1 m2 m3 s0 s1 (LS 3) ds) T1 T2 F (UU c1 c2 y1b yr q t s y1 y1b a b yr) V) bs 108 L [] H 0 0 318 L2 [] hp_32 0 0 := fun h => sgT hw mkA_ad ⟨mkA_c, by unfold tp_u0_3_00; exact allC (teG (by decide) x82.1 x82.2) <| allC (te12 xc1) <| allC (te13n hq) <| allC (teG (by decide) x83.1 x83.2) <| allC (teG (by decide) x84.1 x84.2) <| allC (teG (by decide) x85.1 x85.2) <| allC (te12 xc2) <| allC (te13n hy) <| allC (teG (by decide) x86.1 x86.2) <| allC (teG (by decide) x89.1 x89.2) <| allN⟩ (taN (by decide)) allN (by unfold tb_u0_3_00; exact allC (tbd (y1b) rfl rfl) <| allC (tbd (yr) rfl rfl) <| allN) h
  have same : ∀ {L : Array Slot}, eqF [(.int 1, .float 21), (.int 0, .float 22), (.int 1, .float 23), (.int 0, .float 24), (.int 1, .float 25), (.int 1, .float 26), (.int 0, .float 27), (.int 1, .float 20), (.int 0, .float 28), (.int 0, .float 29), (.int 0, .float 30), (.int 0, .float 31), (.double 0, .double 13)] L.toList L.toList = true → ST l Z (mkA bs (SG p0 e v0 v1 m0 m1 m2 m3 s0 s1 (LS 3) ds) T1 T2 F (UU c1 c2 y1b yr q t s y1 y1b a b yr) V) bs 108 L [] hp_10 0 0 108 L [] hp_35 0 0 := fun h => Seg.same (tab := [(.int 1, .float 21), (.int 0, .float 22), (.int 1, .float 23), (.int 0, .float 24), (.int 1, .float 25), (.int 1, .float 26), (.int 0, .float 27), (.int 1, .float 20), (.int 0, .float 28), (.int 0, .float 29), (.int 0, .float 30), (.int 0, .float 31), (.double 0, .double 13)]) rfl (allC (rfl) <| allC (rfl) <| allC (rfl) <| allC (rfl) <| allC (rfl) <| allC (rfl) <| allC (rfl) <| allC (rfl) <| allC (rfl) <| allC (rfl) <| allC (rfl) <| allC (rfl) <| allC (congrArg Value.double hl.symm) <| allN) (by rw [h]; exact (by decide +kernel : (true && (eqL [(.int 1, .float 21), (.int 0, .float 22), (.int 1, .float 23), (.int 0, .float 24), (.int 1, .float 25), (.int 1, .float 26), (.int 0, .float 27), (.int 1, .float 20), (.int 0, .float 28), (.int 0, .float 29), (.int 0, .float 30), (.int 0, .float 31), (.double 0, .double 13)] [] [] && eqH [(.int 1, .float 21), (.int 0, .float 22), (.int 1, .float 23), (.int 0, .float 24), (.int 1, .float 25), (.int 1, .float 26), (.int 0, .float 27), (.int 1, .float 20), (.int 0, .float 28), (.int 0, .float 29), (.int 0, .float 30), (.int 0, .float 31), (.double 0, .double 13)] hp_35 hp_10)) = true))
  cases v
  · exact ⟨_, Seg.trans (same (by decide +kernel)) (key sg_u0_3_00)⟩
  · exact ⟨_, Seg.trans (same (by decide +kernel)) (key sg_u1_3_00)⟩
theorem own_u_3_01 (hw : HWt a0 Z) (p0 e v0 v1 m0 m1 m2 m3 s0 s1 c1 c2 : Int32) (ds : List UInt64) (T1 T2 F V : Gp) (q t s y1 y1b a b yr : UInt64) (x82 : NX (FP.ddiv (F.2.getD 7 0) (ds.getD 0 0)) q) (x83 : NX (FP.dmul (ds.getD 2 0) q) t) (x84 : NX (FP.dsub (F.2.getD 6 0) t) s) (x85 : NX (FP.ddiv s (ds.getD 1 0)) y1) (x86 : NX (FP.dsub y1 0) y1b) (x89 : NX (FP.dsub q 0) yr) (xc1 : cmpValue (FP.dcmp q 0) .l = c1) (xc2 : cmpValue (FP.dcmp y1 0) .l = c2) (hq : c1 ≠ 0) (hy : c2 = 0) (hl : ds.getD 3 0 = 0) (v : Bool) : ∃ L', ST l Z (mkA bs (SG p0 e v0 v1 m0 m1 m2 m3 s0 s1 (LS 3) ds) T1 T2 F (UU c1 c2 y1b yr q t s y1 y1b a b yr) V) bs 108 (if v then la_19 else la_18) [] hp_10 0 0 318 L' [] hp_32 0 0 := by
  have key : ∀ {L L2 : Array Slot} {H : AH}, seg (cal tp_u0_3_01 tq_u0_3_01) (pg_33 tp_u0_3_01 tq_u0_3_01) 3000 108 L [] H 0 0 tb_u0_3_01 318 L2 [] hp_32 0 0 rm_33.slots = true → ST l Z (mkA bs (SG p0 e v0 v1 m0 m1 m2 m3 s0 s1 (LS 3) ds) T1 T2 F (UU c1 c2 y1b yr q t s y1 y1b a b yr) V) bs 108 L [] H 0 0 318 L2 [] hp_32 0 0 := fun h => sgT hw mkA_ad ⟨mkA_c, by unfold tp_u0_3_01; exact allC (teG (by decide) x82.1 x82.2) <| allC (te12 xc1) <| allC (te13n hq) <| allC (teG (by decide) x83.1 x83.2) <| allC (teG (by decide) x84.1 x84.2) <| allC (teG (by decide) x85.1 x85.2) <| allC (te12 xc2) <| allC (te13z hy) <| allC (teG (by decide) x86.1 x86.2) <| allC (teG (by decide) x89.1 x89.2) <| allN⟩ (taN (by decide)) allN (by unfold tb_u0_3_01; exact allC (tbd (y1b) rfl rfl) <| allC (tbd (yr) rfl rfl) <| allN) h
  have same : ∀ {L : Array Slot}, eqF [(.int 1, .float 21), (.int 0, .float 22), (.int 1, .float 23), (.int 0, .float 24), (.int 1, .float 25), (.int 1, .float 26), (.int 0, .float 27), (.int 1, .float 20), (.int 0, .float 28), (.int 0, .float 29), (.int 0, .float 30), (.int 0, .float 31), (.double 0, .double 13)] L.toList L.toList = true → ST l Z (mkA bs (SG p0 e v0 v1 m0 m1 m2 m3 s0 s1 (LS 3) ds) T1 T2 F (UU c1 c2 y1b yr q t s y1 y1b a b yr) V) bs 108 L [] hp_10 0 0 108 L [] hp_35 0 0 := fun h => Seg.same (tab := [(.int 1, .float 21), (.int 0, .float 22), (.int 1, .float 23), (.int 0, .float 24), (.int 1, .float 25), (.int 1, .float 26), (.int 0, .float 27), (.int 1, .float 20), (.int 0, .float 28), (.int 0, .float 29), (.int 0, .float 30), (.int 0, .float 31), (.double 0, .double 13)]) rfl (allC (rfl) <| allC (rfl) <| allC (rfl) <| allC (rfl) <| allC (rfl) <| allC (rfl) <| allC (rfl) <| allC (rfl) <| allC (rfl) <| allC (rfl) <| allC (rfl) <| allC (rfl) <| allC (congrArg Value.double hl.symm) <| allN) (by rw [h]; exact (by decide +kernel : (true && (eqL [(.int 1, .float 21), (.int 0, .float 22), (.int 1, .float 23), (.int 0, .float 24), (.int 1, .float 25), (.int 1, .float 26), (.int 0, .float 27), (.int 1, .float 20), (.int 0, .float 28), (.int 0, .float 29), (.int 0, .float 30), (.int 0, .float 31), (.double 0, .double 13)] [] [] && eqH [(.int 1, .float 21), (.int 0, .float 22), (.int 1, .float 23), (.int 0, .float 24), (.int 1, .float 25), (.int 1, .float 26), (.int 0, .float 27), (.int 1, .float 20), (.int 0, .float 28), (.int 0, .float 29), (.int 0, .float 30), (.int 0, .float 31), (.double 0, .double 13)] hp_35 hp_10)) = true))
  cases v
  · exact ⟨_, Seg.trans (same (by decide +kernel)) (key sg_u0_3_01)⟩
  · exact ⟨_, Seg.trans (same (by decide +kernel)) (key sg_u1_3_01)⟩
theorem own_u_3_10 (hw : HWt a0 Z) (p0 e v0 v1 m0 m1 m2 m3 s0 s1 c1 c2 : Int32) (ds : List UInt64) (T1 T2 F V : Gp) (q t s y1 y1b a b yr : UInt64) (x82 : NX (FP.ddiv (F.2.getD 7 0) (ds.getD 0 0)) q) (x85 : NX (FP.ddiv (F.2.getD 6 0) (ds.getD 1 0)) y1) (x86 : NX (FP.dsub y1 0) y1b) (x89 : NX (FP.dsub q 0) yr) (xc1 : cmpValue (FP.dcmp q 0) .l = c1) (xc2 : cmpValue (FP.dcmp y1 0) .l = c2) (hq : c1 = 0) (hy : c2 ≠ 0) (hl : ds.getD 3 0 = 0) (v : Bool) : ∃ L', ST l Z (mkA bs (SG p0 e v0 v1 m0 m1 m2 m3 s0 s1 (LS 3) ds) T1 T2 F (UU c1 c2 y1b yr q t s y1 y1b a b yr) V) bs 108 (if v then la_19 else la_18) [] hp_10 0 0 318 L' [] hp_32 0 0 := by
  have key : ∀ {L L2 : Array Slot} {H : AH}, seg (cal tp_u0_3_10 tq_u0_3_10) (pg_33 tp_u0_3_10 tq_u0_3_10) 3000 108 L [] H 0 0 tb_u0_3_10 318 L2 [] hp_32 0 0 rm_33.slots = true → ST l Z (mkA bs (SG p0 e v0 v1 m0 m1 m2 m3 s0 s1 (LS 3) ds) T1 T2 F (UU c1 c2 y1b yr q t s y1 y1b a b yr) V) bs 108 L [] H 0 0 318 L2 [] hp_32 0 0 := fun h => sgT hw mkA_ad ⟨mkA_c, by unfold tp_u0_3_10; exact allC (teG (by decide) x82.1 x82.2) <| allC (te12 xc1) <| allC (te13z hq) <| allC (teG (by decide) x85.1 x85.2) <| allC (te12 xc2) <| allC (te13n hy) <| allC (teG (by decide) x86.1 x86.2) <| allC (teG (by decide) x89.1 x89.2) <| allN⟩ (taN (by decide)) allN (by unfold tb_u0_3_10; exact allC (tbd (y1b) rfl rfl) <| allC (tbd (yr) rfl rfl) <| allN) h
  have same : ∀ {L : Array Slot}, eqF [(.int 1, .float 21), (.int 0, .float 22), (.int 1, .float 23), (.int 0, .float 24), (.int 1, .float 25), (.int 1, .float 26), (.int 0, .float 27), (.int 1, .float 20), (.int 0, .float 28), (.int 0, .float 29), (.int 0, .float 30), (.int 0, .float 31), (.double 0, .double 13)] L.toList L.toList = true → ST l Z (mkA bs (SG p0 e v0 v1 m0 m1 m2 m3 s0 s1 (LS 3) ds) T1 T2 F (UU c1 c2 y1b yr q t s y1 y1b a b yr) V) bs 108 L [] hp_10 0 0 108 L [] hp_35 0 0 := fun h => Seg.same (tab := [(.int 1, .float 21), (.int 0, .float 22), (.int 1, .float 23), (.int 0, .float 24), (.int 1, .float 25), (.int 1, .float 26), (.int 0, .float 27), (.int 1, .float 20), (.int 0, .float 28), (.int 0, .float 29), (.int 0, .float 30), (.int 0, .float 31), (.double 0, .double 13)]) rfl (allC (rfl) <| allC (rfl) <| allC (rfl) <| allC (rfl) <| allC (rfl) <| allC (rfl) <| allC (rfl) <| allC (rfl) <| allC (rfl) <| allC (rfl) <| allC (rfl) <| allC (rfl) <| allC (congrArg Value.double hl.symm) <| allN) (by rw [h]; exact (by decide +kernel : (true && (eqL [(.int 1, .float 21), (.int 0, .float 22), (.int 1, .float 23), (.int 0, .float 24), (.int 1, .float 25), (.int 1, .float 26), (.int 0, .float 27), (.int 1, .float 20), (.int 0, .float 28), (.int 0, .float 29), (.int 0, .float 30), (.int 0, .float 31), (.double 0, .double 13)] [] [] && eqH [(.int 1, .float 21), (.int 0, .float 22), (.int 1, .float 23), (.int 0, .float 24), (.int 1, .float 25), (.int 1, .float 26), (.int 0, .float 27), (.int 1, .float 20), (.int 0, .float 28), (.int 0, .float 29), (.int 0, .float 30), (.int 0, .float 31), (.double 0, .double 13)] hp_35 hp_10)) = true))
  cases v
  · exact ⟨_, Seg.trans (same (by decide +kernel)) (key sg_u0_3_10)⟩
  · exact ⟨_, Seg.trans (same (by decide +kernel)) (key sg_u1_3_10)⟩
theorem own_u_3_11 (hw : HWt a0 Z) (p0 e v0 v1 m0 m1 m2 m3 s0 s1 c1 c2 : Int32) (ds : List UInt64) (T1 T2 F V : Gp) (q t s y1 y1b a b yr : UInt64) (x82 : NX (FP.ddiv (F.2.getD 7 0) (ds.getD 0 0)) q) (x85 : NX (FP.ddiv (F.2.getD 6 0) (ds.getD 1 0)) y1) (x86 : NX (FP.dsub y1 0) y1b) (x89 : NX (FP.dsub q 0) yr) (xc1 : cmpValue (FP.dcmp q 0) .l = c1) (xc2 : cmpValue (FP.dcmp y1 0) .l = c2) (hq : c1 = 0) (hy : c2 = 0) (hl : ds.getD 3 0 = 0) (v : Bool) : ∃ L', ST l Z (mkA bs (SG p0 e v0 v1 m0 m1 m2 m3 s0 s1 (LS 3) ds) T1 T2 F (UU c1 c2 y1b yr q t s y1 y1b a b yr) V) bs 108 (if v then la_19 else la_18) [] hp_10 0 0 318 L' [] hp_32 0 0 := by
  have key : ∀ {L L2 : Array Slot} {H : AH}, seg (cal tp_u0_3_11 tq_u0_3_11) (pg_33 tp_u0_3_11 tq_u0_3_11) 3000 108 L [] H 0 0 tb_u0_3_11 318 L2 [] hp_32 0 0 rm_33.slots = true → ST l Z (mkA bs (SG p0 e v0 v1 m0 m1 m2 m3 s0 s1 (LS 3) ds) T1 T2 F (UU c1 c2 y1b yr q t s y1 y1b a b yr) V) bs 108 L [] H 0 0 318 L2 [] hp_32 0 0 := fun h => sgT hw mkA_ad ⟨mkA_c, by unfold tp_u0_3_11; exact allC (teG (by decide) x82.1 x82.2) <| allC (te12 xc1) <| allC (te13z hq) <| allC (teG (by decide) x85.1 x85.2) <| allC (te12 xc2) <| allC (te13z hy) <| allC (teG (by decide) x86.1 x86.2) <| allC (teG (by decide) x89.1 x89.2) <| allN⟩ (taN (by decide)) allN (by unfold tb_u0_3_11; exact allC (tbd (y1b) rfl rfl) <| allC (tbd (yr) rfl rfl) <| allN) h
  have same : ∀ {L : Array Slot}, eqF [(.int 1, .float 21), (.int 0, .float 22), (.int 1, .float 23), (.int 0, .float 24), (.int 1, .float 25), (.int 1, .float 26), (.int 0, .float 27), (.int 1, .float 20), (.int 0, .float 28), (.int 0, .float 29), (.int 0, .float 30), (.int 0, .float 31), (.double 0, .double 13)] L.toList L.toList = true → ST l Z (mkA bs (SG p0 e v0 v1 m0 m1 m2 m3 s0 s1 (LS 3) ds) T1 T2 F (UU c1 c2 y1b yr q t s y1 y1b a b yr) V) bs 108 L [] hp_10 0 0 108 L [] hp_35 0 0 := fun h => Seg.same (tab := [(.int 1, .float 21), (.int 0, .float 22), (.int 1, .float 23), (.int 0, .float 24), (.int 1, .float 25), (.int 1, .float 26), (.int 0, .float 27), (.int 1, .float 20), (.int 0, .float 28), (.int 0, .float 29), (.int 0, .float 30), (.int 0, .float 31), (.double 0, .double 13)]) rfl (allC (rfl) <| allC (rfl) <| allC (rfl) <| allC (rfl) <| allC (rfl) <| allC (rfl) <| allC (rfl) <| allC (rfl) <| allC (rfl) <| allC (rfl) <| allC (rfl) <| allC (rfl) <| allC (congrArg Value.double hl.symm) <| allN) (by rw [h]; exact (by decide +kernel : (true && (eqL [(.int 1, .float 21), (.int 0, .float 22), (.int 1, .float 23), (.int 0, .float 24), (.int 1, .float 25), (.int 1, .float 26), (.int 0, .float 27), (.int 1, .float 20), (.int 0, .float 28), (.int 0, .float 29), (.int 0, .float 30), (.int 0, .float 31), (.double 0, .double 13)] [] [] && eqH [(.int 1, .float 21), (.int 0, .float 22), (.int 1, .float 23), (.int 0, .float 24), (.int 1, .float 25), (.int 1, .float 26), (.int 0, .float 27), (.int 1, .float 20), (.int 0, .float 28), (.int 0, .float 29), (.int 0, .float 30), (.int 0, .float 31), (.double 0, .double 13)] hp_35 hp_10)) = true))
  cases v
  · exact ⟨_, Seg.trans (same (by decide +kernel)) (key sg_u0_3_11)⟩
  · exact ⟨_, Seg.trans (same (by decide +kernel)) (key sg_u1_3_11)⟩
theorem own_u_4_00 (hw : HWt a0 Z) (p0 e v0 v1 m0 m1 m2 m3 s0 s1 c1 c2 : Int32) (ds : List UInt64) (T1 T2 F V : Gp) (q t s y1 y1b a b yr : UInt64) (x82 : NX (FP.ddiv (F.2.getD 6 0) (ds.getD 0 0)) q) (x83 : NX (FP.dmul (ds.getD 2 0) q) t) (x84 : NX (FP.dsub (F.2.getD 7 0) t) s) (x85 : NX (FP.ddiv s (ds.getD 1 0)) y1) (x86 : NX (FP.dsub y1 0) y1b) (x89 : NX (FP.dsub q 0) yr) (xc1 : cmpValue (FP.dcmp q 0) .l = c1) (xc2 : cmpValue (FP.dcmp y1 0) .l = c2) (hq : c1 ≠ 0) (hy : c2 ≠ 0) (hl : ds.getD 3 0 = 0) (v : Bool) : ∃ L', ST l Z (mkA bs (SG p0 e v0 v1 m0 m1 m2 m3 s0 s1 (LS 4) ds) T1 T2 F (UU c1 c2 yr y1b q t s y1 y1b a b yr) V) bs 108 (if v then la_19 else la_18) [] hp_10 0 0 318 L' [] hp_32 0 0 := by
  have key : ∀ {L L2 : Array Slot} {H : AH}, seg (cal tp_u0_4_00 tq_u0_4_00) (pg_33 tp_u0_4_00 tq_u0_4_00) 3000 108 L [] H 0 0 tb_u0_4_00 318 L2 [] hp_32 0 0 rm_33.slots = true → ST l Z (mkA bs (SG p0 e v0 v1 m0 m1 m2 m3 s0 s1 (LS 4) ds) T1 T2 F (UU c1 c2 yr y1b q t s y1 y1b a b yr) V) bs 108 L [] H 0 0 318 L2 [] hp_32 0 0 := fun h => sgT hw mkA_ad ⟨mkA_c, by unfold tp_u0_4_00; exact allC (teG (by decide) x82.1 x82.2) <| allC (te12 xc1) <| allC (te13n hq) <| allC (teG (by decide) x83.1 x83.2) <| allC (teG (by decide) x84.1 x84.2) <| allC (teG (by decide) x85.1 x85.2) <| allC (te12 xc2) <| allC (te13n hy) <| allC (teG (by decide) x86.1 x86.2) <| allC (teG (by decide) x89.1 x89.2) <| allN⟩ (taN (by decide)) allN (by unfold tb_u0_4_00; exact allC (tbd (yr) rfl rfl) <| allC (tbd (y1b) rfl rfl) <| allN) h
  have same : ∀ {L : Array Slot}, eqF [(.int 0, .float 21), (.int 1, .float 22), (.int 0, .float 23), (.int 1, .float 24), (.int 1, .float 25), (.int 1, .float 26), (.int 1, .float 27), (.int 1, .float 20), (.int 0, .float 28), (.int 0, .float 29), (.int 0, .float 30), (.int 0, .float 31), (.double 0, .double 13)] L.toList L.toList = true → ST l Z (mkA bs (SG p0 e v0 v1 m0 m1 m2 m3 s0 s1 (LS 4) ds) T1 T2 F (UU c1 c2 yr y1b q t s y1 y1b a b yr) V) bs 108 L [] hp_10 0 0 108 L [] hp_36 0 0 := fun h => Seg.same (tab := [(.int 0, .float 21), (.int 1, .float 22), (.int 0, .float 23), (.int 1, .float 24), (.int 1, .float 25), (.int 1, .float 26), (.int 1, .float 27), (.int 1, .float 20), (.int 0, .float 28), (.int 0, .float 29), (.int 0, .float 30), (.int 0, .float 31), (.double 0, .double 13)]) rfl (allC (rfl) <| allC (rfl) <| allC (rfl) <| allC (rfl) <| allC (rfl) <| allC (rfl) <| allC (rfl) <| allC (rfl) <| allC (rfl) <| allC (rfl) <| allC (rfl) <| allC (rfl) <| allC (congrArg Value.double hl.symm) <| allN) (by rw [h]; exact (by decide +kernel : (true && (eqL [(.int 0, .float 21), (.int 1, .float 22), (.int 0, .float 23), (.int 1, .float 24), (.int 1, .float 25), (.int 1, .float 26), (.int 1, .float 27), (.int 1, .float 20), (.int 0, .float 28), (.int 0, .float 29), (.int 0, .float 30), (.int 0, .float 31), (.double 0, .double 13)] [] [] && eqH [(.int 0, .float 21), (.int 1, .float 22), (.int 0, .float 23), (.int 1, .float 24), (.int 1, .float 25), (.int 1, .float 26), (.int 1, .float 27), (.int 1, .float 20), (.int 0, .float 28), (.int 0, .float 29), (.int 0, .float 30), (.int 0, .float 31), (.double 0, .double 13)] hp_36 hp_10)) = true))
  cases v
  · exact ⟨_, Seg.trans (same (by decide +kernel)) (key sg_u0_4_00)⟩
  · exact ⟨_, Seg.trans (same (by decide +kernel)) (key sg_u1_4_00)⟩
theorem own_u_4_01 (hw : HWt a0 Z) (p0 e v0 v1 m0 m1 m2 m3 s0 s1 c1 c2 : Int32) (ds : List UInt64) (T1 T2 F V : Gp) (q t s y1 y1b a b yr : UInt64) (x82 : NX (FP.ddiv (F.2.getD 6 0) (ds.getD 0 0)) q) (x83 : NX (FP.dmul (ds.getD 2 0) q) t) (x84 : NX (FP.dsub (F.2.getD 7 0) t) s) (x85 : NX (FP.ddiv s (ds.getD 1 0)) y1) (x86 : NX (FP.dsub y1 0) y1b) (x89 : NX (FP.dsub q 0) yr) (xc1 : cmpValue (FP.dcmp q 0) .l = c1) (xc2 : cmpValue (FP.dcmp y1 0) .l = c2) (hq : c1 ≠ 0) (hy : c2 = 0) (hl : ds.getD 3 0 = 0) (v : Bool) : ∃ L', ST l Z (mkA bs (SG p0 e v0 v1 m0 m1 m2 m3 s0 s1 (LS 4) ds) T1 T2 F (UU c1 c2 yr y1b q t s y1 y1b a b yr) V) bs 108 (if v then la_19 else la_18) [] hp_10 0 0 318 L' [] hp_32 0 0 := by
  have key : ∀ {L L2 : Array Slot} {H : AH}, seg (cal tp_u0_4_01 tq_u0_4_01) (pg_33 tp_u0_4_01 tq_u0_4_01) 3000 108 L [] H 0 0 tb_u0_4_01 318 L2 [] hp_32 0 0 rm_33.slots = true → ST l Z (mkA bs (SG p0 e v0 v1 m0 m1 m2 m3 s0 s1 (LS 4) ds) T1 T2 F (UU c1 c2 yr y1b q t s y1 y1b a b yr) V) bs 108 L [] H 0 0 318 L2 [] hp_32 0 0 := fun h => sgT hw mkA_ad ⟨mkA_c, by unfold tp_u0_4_01; exact allC (teG (by decide) x82.1 x82.2) <| allC (te12 xc1) <| allC (te13n hq) <| allC (teG (by decide) x83.1 x83.2) <| allC (teG (by decide) x84.1 x84.2) <| allC (teG (by decide) x85.1 x85.2) <| allC (te12 xc2) <| allC (te13z hy) <| allC (teG (by decide) x86.1 x86.2) <| allC (teG (by decide) x89.1 x89.2) <| allN⟩ (taN (by decide)) allN (by unfold tb_u0_4_01; exact allC (tbd (yr) rfl rfl) <| allC (tbd (y1b) rfl rfl) <| allN) h
  have same : ∀ {L : Array Slot}, eqF [(.int 0, .float 21), (.int 1, .float 22), (.int 0, .float 23), (.int 1, .float 24), (.int 1, .float 25), (.int 1, .float 26), (.int 1, .float 27), (.int 1, .float 20), (.int 0, .float 28), (.int 0, .float 29), (.int 0, .float 30), (.int 0, .float 31), (.double 0, .double 13)] L.toList L.toList = true → ST l Z (mkA bs (SG p0 e v0 v1 m0 m1 m2 m3 s0 s1 (LS 4) ds) T1 T2 F (UU c1 c2 yr y1b q t s y1 y1b a b yr) V) bs 108 L [] hp_10 0 0 108 L [] hp_36 0 0 := fun h => Seg.same (tab := [(.int 0, .float 21), (.int 1, .float 22), (.int 0, .float 23), (.int 1, .float 24), (.int 1, .float 25), (.int 1, .float 26), (.int 1, .float 27), (.int 1, .float 20), (.int 0, .float 28), (.int 0, .float 29), (.int 0, .float 30), (.int 0, .float 31), (.double 0, .double 13)]) rfl (allC (rfl) <| allC (rfl) <| allC (rfl) <| allC (rfl) <| allC (rfl) <| allC (rfl) <| allC (rfl) <| allC (rfl) <| allC (rfl) <| allC (rfl) <| allC (rfl) <| allC (rfl) <| allC (congrArg Value.double hl.symm) <| allN) (by rw [h]; exact (by decide +kernel : (true && (eqL [(.int 0, .float 21), (.int 1, .float 22), (.int 0, .float 23), (.int 1, .float 24), (.int 1, .float 25), (.int 1, .float 26), (.int 1, .float 27), (.int 1, .float 20), (.int 0, .float 28), (.int 0, .float 29), (.int 0, .float 30), (.int 0, .float 31), (.double 0, .double 13)] [] [] && eqH [(.int 0, .float 21), (.int 1, .float 22), (.int 0, .float 23), (.int 1, .float 24), (.int 1, .float 25), (.int 1, .float 26), (.int 1, .float 27), (.int 1, .float 20), (.int 0, .float 28), (.int 0, .float 29), (.int 0, .float 30), (.int 0, .float 31), (.double 0, .double 13)] hp_36 hp_10)) = true))
  cases v
  · exact ⟨_, Seg.trans (same (by decide +kernel)) (key sg_u0_4_01)⟩
  · exact ⟨_, Seg.trans (same (by decide +kernel)) (key sg_u1_4_01)⟩
theorem own_u_4_10 (hw : HWt a0 Z) (p0 e v0 v1 m0 m1 m2 m3 s0 s1 c1 c2 : Int32) (ds : List UInt64) (T1 T2 F V : Gp) (q t s y1 y1b a b yr : UInt64) (x82 : NX (FP.ddiv (F.2.getD 6 0) (ds.getD 0 0)) q) (x85 : NX (FP.ddiv (F.2.getD 7 0) (ds.getD 1 0)) y1) (x86 : NX (FP.dsub y1 0) y1b) (x89 : NX (FP.dsub q 0) yr) (xc1 : cmpValue (FP.dcmp q 0) .l = c1) (xc2 : cmpValue (FP.dcmp y1 0) .l = c2) (hq : c1 = 0) (hy : c2 ≠ 0) (hl : ds.getD 3 0 = 0) (v : Bool) : ∃ L', ST l Z (mkA bs (SG p0 e v0 v1 m0 m1 m2 m3 s0 s1 (LS 4) ds) T1 T2 F (UU c1 c2 yr y1b q t s y1 y1b a b yr) V) bs 108 (if v then la_19 else la_18) [] hp_10 0 0 318 L' [] hp_32 0 0 := by
  have key : ∀ {L L2 : Array Slot} {H : AH}, seg (cal tp_u0_4_10 tq_u0_4_10) (pg_33 tp_u0_4_10 tq_u0_4_10) 3000 108 L [] H 0 0 tb_u0_4_10 318 L2 [] hp_32 0 0 rm_33.slots = true → ST l Z (mkA bs (SG p0 e v0 v1 m0 m1 m2 m3 s0 s1 (LS 4) ds) T1 T2 F (UU c1 c2 yr y1b q t s y1 y1b a b yr) V) bs 108 L [] H 0 0 318 L2 [] hp_32 0 0 := fun h => sgT hw mkA_ad ⟨mkA_c, by unfold tp_u0_4_10; exact allC (teG (by decide) x82.1 x82.2) <| allC (te12 xc1) <| allC (te13z hq) <| allC (teG (by decide) x85.1 x85.2) <| allC (te12 xc2) <| allC (te13n hy) <| allC (teG (by decide) x86.1 x86.2) <| allC (teG (by decide) x89.1 x89.2) <| allN⟩ (taN (by decide)) allN (by unfold tb_u0_4_10; exact allC (tbd (yr) rfl rfl) <| allC (tbd (y1b) rfl rfl) <| allN) h
  have same : ∀ {L : Array Slot}, eqF [(.int 0, .float 21), (.int 1, .float 22), (.int 0, .float 23), (.int 1, .float 24), (.int 1, .float 25), (.int 1, .float 26), (.int 1, .float 27), (.int 1, .float 20), (.int 0, .float 28), (.int 0, .float 29), (.int 0, .float 30), (.int 0, .float 31), (.double 0, .double 13)] L.toList L.toList = true → ST l Z (mkA bs (SG p0 e v0 v1 m0 m1 m2 m3 s0 s1 (LS 4) ds) T1 T2 F (UU c1 c2 yr y1b q t s y1 y1b a b yr) V) bs 108 L [] hp_10 0 0 108 L [] hp_36 0 0 := fun h => Seg.same (tab := [(.int 0, .float 21), (.int 1, .float 22), (.int 0, .float 23), (.int 1, .float 24), (.int 1, .float 25), (.int 1, .float 26), (.int 1, .float 27), (.int 1, .float 20), (.int 0, .float 28), (.int 0, .float 29), (.int 0, .float 30), (.int 0, .float 31), (.double 0, .double 13)]) rfl (allC (rfl) <| allC (rfl) <| allC (rfl) <| allC (rfl) <| allC (rfl) <| allC (rfl) <| allC (rfl) <| allC (rfl) <| allC (rfl) <| allC (rfl) <| allC (rfl) <| allC (rfl) <| allC (congrArg Value.double hl.symm) <| allN) (by rw [h]; exact (by decide +kernel : (true && (eqL [(.int 0, .float 21), (.int 1, .float 22), (.int 0, .float 23), (.int 1, .float 24), (.int 1, .float 25), (.int 1, .float 26), (.int 1, .float 27), (.int 1, .float 20), (.int 0, .float 28), (.int 0, .float 29), (.int 0, .float 30), (.int 0, .float 31), (.double 0, .double 13)] [] [] && eqH [(.int 0, .float 21), (.int 1, .float 22), (.int 0, .float 23), (.int 1, .float 24), (.int 1, .float 25), (.int 1, .float 26), (.int 1, .float 27), (.int 1, .float 20), (.int 0, .float 28), (.int 0, .float 29), (.int 0, .float 30), (.int 0, .float 31), (.double 0, .double 13)] hp_36 hp_10)) = true))
  cases v
  · exact ⟨_, Seg.trans (same (by decide +kernel)) (key sg_u0_4_10)⟩
  · exact ⟨_, Seg.trans (same (by decide +kernel)) (key sg_u1_4_10)⟩
theorem own_u_4_11 (hw : HWt a0 Z) (p0 e v0 v1 m0 m1 m2 m3 s0 s1 c1 c2 : Int32) (ds : List UInt64) (T1 T2 F V : Gp) (q t s y1 y1b a b yr : UInt64) (x82 : NX (FP.ddiv (F.2.getD 6 0) (ds.getD 0 0)) q) (x85 : NX (FP.ddiv (F.2.getD 7 0) (ds.getD 1 0)) y1) (x86 : NX (FP.dsub y1 0) y1b) (x89 : NX (FP.dsub q 0) yr) (xc1 : cmpValue (FP.dcmp q 0) .l = c1) (xc2 : cmpValue (FP.dcmp y1 0) .l = c2) (hq : c1 = 0) (hy : c2 = 0) (hl : ds.getD 3 0 = 0) (v : Bool) : ∃ L', ST l Z (mkA bs (SG p0 e v0 v1 m0 m1 m2 m3 s0 s1 (LS 4) ds) T1 T2 F (UU c1 c2 yr y1b q t s y1 y1b a b yr) V) bs 108 (if v then la_19 else la_18) [] hp_10 0 0 318 L' [] hp_32 0 0 := by
  have key : ∀ {L L2 : Array Slot} {H : AH}, seg (cal tp_u0_4_11 tq_u0_4_11) (pg_33 tp_u0_4_11 tq_u0_4_11) 3000 108 L [] H 0 0 tb_u0_4_11 318 L2 [] hp_32 0 0 rm_33.slots = true → ST l Z (mkA bs (SG p0 e v0 v1 m0 m1 m2 m3 s0 s1 (LS 4) ds) T1 T2 F (UU c1 c2 yr y1b q t s y1 y1b a b yr) V) bs 108 L [] H 0 0 318 L2 [] hp_32 0 0 := fun h => sgT hw mkA_ad ⟨mkA_c, by unfold tp_u0_4_11; exact allC (teG (by decide) x82.1 x82.2) <| allC (te12 xc1) <| allC (te13z hq) <| allC (teG (by decide) x85.1 x85.2) <| allC (te12 xc2) <| allC (te13z hy) <| allC (teG (by decide) x86.1 x86.2) <| allC (teG (by decide) x89.1 x89.2) <| allN⟩ (taN (by decide)) allN (by unfold tb_u0_4_11; exact allC (tbd (yr) rfl rfl) <| allC (tbd (y1b) rfl rfl) <| allN) h
  have same : ∀ {L : Array Slot}, eqF [(.int 0, .float 21), (.int 1, .float 22), (.int 0, .float 23), (.int 1, .float 24), (.int 1, .float 25), (.int 1, .float 26), (.int 1, .float 27), (.int 1, .float 20), (.int 0, .float 28), (.int 0, .float 29), (.int 0, .float 30), (.int 0, .float 31), (.double 0, .double 13)] L.toList L.toList = true → ST l Z (mkA bs (SG p0 e v0 v1 m0 m1 m2 m3 s0 s1 (LS 4) ds) T1 T2 F (UU c1 c2 yr y1b q t s y1 y1b a b yr) V) bs 108 L [] hp_10 0 0 108 L [] hp_36 0 0 := fun h => Seg.same (tab := [(.int 0, .float 21), (.int 1, .float 22), (.int 0, .float 23), (.int 1, .float 24), (.int 1, .float 25), (.int 1, .float 26), (.int 1, .float 27), (.int 1, .float 20), (.int 0, .float 28), (.int 0, .float 29), (.int 0, .float 30), (.int 0, .float 31), (.double 0, .double 13)]) rfl (allC (rfl) <| allC (rfl) <| allC (rfl) <| allC (rfl) <| allC (rfl) <| allC (rfl) <| allC (rfl) <| allC (rfl) <| allC (rfl) <| allC (rfl) <| allC (rfl) <| allC (rfl) <| allC (congrArg Value.double hl.symm) <| allN) (by rw [h]; exact (by decide +kernel : (true && (eqL [(.int 0, .float 21), (.int 1, .float 22), (.int 0, .float 23), (.int 1, .float 24), (.int 1, .float 25), (.int 1, .float 26), (.int 1, .float 27), (.int 1, .float 20), (.int 0, .float 28), (.int 0, .float 29), (.int 0, .float 30), (.int 0, .float 31), (.double 0, .double 13)] [] [] && eqH [(.int 0, .float 21), (.int 1, .float 22), (.int 0, .float 23), (.int 1, .float 24), (.int 1, .float 25), (.int 1, .float 26), (.int 1, .float 27), (.int 1, .float 20), (.int 0, .float 28), (.int 0, .float 29), (.int 0, .float 30), (.int 0, .float 31), (.double 0, .double 13)] hp_36 hp_10)) = true))
  cases v
  · exact ⟨_, Seg.trans (same (by decide +kernel)) (key sg_u0_4_11)⟩
  · exact ⟨_, Seg.trans (same (by decide +kernel)) (key sg_u1_4_11)⟩
theorem own_u_5_00 (hw : HWt a0 Z) (p0 e v0 v1 m0 m1 m2 m3 s0 s1 c1 c2 : Int32) (ds : List UInt64) (T1 T2 F V : Gp) (q t s y1 y1b a b yr : UInt64) (x82 : NX (FP.ddiv (F.2.getD 7 0) (ds.getD 0 0)) q) (x83 : NX (FP.dmul (ds.getD 2 0) q) t) (x84 : NX (FP.dsub (F.2.getD 6 0) t) s) (x85 : NX (FP.ddiv s (ds.getD 1 0)) y1) (x86 : NX (FP.dsub y1 0) y1b) (x89 : NX (FP.dsub q 0) yr) (xc1 : cmpValue (FP.dcmp q 0) .l = c1) (xc2 : cmpValue (FP.dcmp y1 0) .l = c2) (hq : c1 ≠ 0) (hy : c2 ≠ 0) (hl : ds.getD 3 0 = 0) (v : Bool) : ∃ L', ST l Z (mkA bs (SG p0 e v0 v1 m0 m1 m2 m3 s0 s1 (LS 5) ds) T1 T2 F (UU c1 c2 yr y1b q t s y1 y1b a b yr) V) bs 108 (if v then la_19 else la_18) [] hp_10 0 0 318 L' [] hp_32 0 0 := by
  have key : ∀ {L L2 : Array Slot} {H : AH}, seg (cal tp_u0_5_00 tq_u0_5_00) (pg_33 tp_u0_5_00 tq_u0_5_00) 3000 108 L [] H 0 0 tb_u0_5_00 318 L2 [] hp_32 0 0 rm_33.slots = true → ST l Z (mkA bs (SG p0 e v0 v1 m0 m1 m2 m3 s0 s1 (LS 5) ds) T1 T2 F (UU c1 c2 yr y1b q t s y1 y1b a b yr) V) bs 108 L [] H 0 0 318 L2 [] hp_32 0 0 := fun h => sgT hw mkA_ad ⟨mkA_c, by unfold tp_u0_5_00; exact allC (teG (by decide) x82.1 x82.2) <| allC (te12 xc1) <| allC (te13n hq) <| allC (teG (by decide) x83.1 x83.2) <| allC (teG (by decide) x84.1 x84.2) <| allC (teG (by decide) x85.1 x85.2) <| allC (te12 xc2) <| allC (te13n hy) <| allC (teG (by decide) x86.1 x86.2) <| allC (teG (by decide) x89.1 x89.2) <| allN⟩ (taN (by decide)) allN (by unfold tb_u0_5_00; exact allC (tbd (yr) rfl rfl) <| allC (tbd (y1b) rfl rfl) <| allN) h
  have same : ∀ {L : Array Slot}, eqF [(.int 0, .float 21), (.int 1, .float 22), (.int 1, .float 23), (.int 0, .float 24), (.int 1, .float 25), (.int 1, .float 26), (.int 0, .float 27), (.int 1, .float 20), (.int 0, .float 28), (.int 0, .float 29), (.int 0, .float 30), (.int 0, .float 31), (.double 0, .double 13)] L.toList L.toList = true → ST l Z (mkA bs (SG p0 e v0 v1 m0 m1 m2 m3 s0 s1 (LS 5) ds) T1 T2 F (UU c1 c2 yr y1b q t s y1 y1b a b yr) V) bs 108 L [] hp_10 0 0 108 L [] hp_37 0 0 := fun h => Seg.same (tab := [(.int 0, .float 21), (.int 1, .float 22), (.int 1, .float 23), (.int 0, .float 24), (.int 1, .float 25), (.int 1, .float 26), (.int 0, .float 27), (.int 1, .float 20), (.int 0, .float 28), (.int 0, .float 29), (.int 0, .float 30), (.int 0, .float 31), (.double 0, .double 13)]) rfl (allC (rfl) <| allC (rfl) <| allC (rfl) <| allC (rfl) <| allC (rfl) <| allC (rfl) <| allC (rfl) <| allC (rfl) <| allC (rfl) <| allC (rfl) <| allC (rfl) <| allC (rfl) <| allC (congrArg Value.double hl.symm) <| allN) (by rw [h]; exact (by decide +kernel : (true && (eqL [(.int 0, .float 21), (.int 1, .float 22), (.int 1, .float 23), (.int 0, .float 24), (.int 1, .float 25), (.int 1, .float 26), (.int 0, .float 27), (.int 1, .float 20), (.int 0, .float 28), (.int 0, .float 29), (.int 0, .float 30), (.int 0, .float 31), (.double 0, .double 13)] [] [] && eqH [(.int 0, .float 21), (.int 1, .float 22), (.int 1, .float 23), (.int 0, .float 24), (.int 1, .float 25), (.int 1, .float 26), (.int 0, .float 27), (.int 1, .float 20), (.int 0, .float 28), (.int 0, .float 29), (.int 0, .float 30), (.int 0, .float 31), (.double 0, .double 13)] hp_37 hp_10)) = true))
  cases v
  · exact ⟨_, Seg.trans (same (by decide +kernel)) (key sg_u0_5_00)⟩
  · exact ⟨_, Seg.trans (same (by decide +kernel)) (key sg_u1_5_00)⟩
theorem own_u_5_01 (hw : HWt a0 Z) (p0 e v0 v1 m0 m1 m2 m3 s0 s1 c1 c2 : Int32) (ds : List UInt64) (T1 T2 F V : Gp) (q t s y1 y1b a b yr : UInt64) (x82 : NX (FP.ddiv (F.2.getD 7 0) (ds.getD 0 0)) q) (x83 : NX (FP.dmul (ds.getD 2 0) q) t) (x84 : NX (FP.dsub (F.2.getD 6 0) t) s) (x85 : NX (FP.ddiv s (ds.getD 1 0)) y1) (x86 : NX (FP.dsub y1 0) y1b) (x89 : NX (FP.dsub q 0) yr) (xc1 : cmpValue (FP.dcmp q 0) .l = c1) (xc2 : cmpValue (FP.dcmp y1 0) .l = c2) (hq : c1 ≠ 0) (hy : c2 = 0) (hl : ds.getD 3 0 = 0) (v : Bool) : ∃ L', ST l Z (mkA bs (SG p0 e v0 v1 m0 m1 m2 m3 s0 s1 (LS 5) ds) T1 T2 F (UU c1 c2 yr y1b q t s y1 y1b a b yr) V) bs 108 (if v then la_19 else la_18) [] hp_10 0 0 318 L' [] hp_32 0 0 := by
  have key : ∀ {L L2 : Array Slot} {H : AH}, seg (cal tp_u0_5_01 tq_u0_5_01) (pg_33 tp_u0_5_01 tq_u0_5_01) 3000 108 L [] H 0 0 tb_u0_5_01 318 L2 [] hp_32 0 0 rm_33.slots = true → ST l Z (mkA bs (SG p0 e v0 v1 m0 m1 m2 m3 s0 s1 (LS 5) ds) T1 T2 F (UU c1 c2 yr y1b q t s y1 y1b a b yr) V) bs 108 L [] H 0 0 318 L2 [] hp_32 0 0 := fun h => sgT hw mkA_ad ⟨mkA_c, by unfold tp_u0_5_01; exact allC (teG (by decide) x82.1 x82.2) <| allC (te12 xc1) <| allC (te13n hq) <| allC (teG (by decide) x83.1 x83.2) <| allC (teG (by decide) x84.1 x84.2) <| allC (teG (by decide) x85.1 x85.2) <| allC (te12 xc2) <| allC (te13z hy) <| allC (teG (by decide) x86.1 x86.2) <| allC (teG (by decide) x89.1 x89.2) <| allN⟩ (taN (by decide)) allN (by unfold tb_u0_5_01; exact allC (tbd (yr) rfl rfl) <| allC (tbd (y1b) rfl rfl) <| allN) h
  have same : ∀ {L : Array Slot}, eqF [(.int 0, .float 21), (.int 1, .float 22), (.int 1, .float 23), (.int 0, .float 24), (.int 1, .float 25), (.int 1, .float 26), (.int 0, .float 27), (.int 1, .float 20), (.int 0, .float 28), (.int 0, .float 29), (.int 0, .float 30), (.int 0, .float 31), (.double 0, .double 13)] L.toList L.toList = true → ST l Z (mkA bs (SG p0 e v0 v1 m0 m1 m2 m3 s0 s1 (LS 5) ds) T1 T2 F (UU c1 c2 yr y1b q t s y1 y1b a b yr) V) bs 108 L [] hp_10 0 0 108 L [] hp_37 0 0 := fun h => Seg.same (tab := [(.int 0, .float 21), (.int 1, .float 22), (.int 1, .float 23), (.int 0, .float 24), (.int 1, .float 25), (.int 1, .float 26), (.int 0, .float 27), (.int 1, .float 20), (.int 0, .float 28), (.int 0, .float 29), (.int 0, .float 30), (.int 0, .float 31), (.double 0, .double 13)]) rfl (allC (rfl) <| allC (rfl) <| allC (rfl) <| allC (rfl) <| allC (rfl) <| allC (rfl) <| allC (rfl) <| allC (rfl) <| allC (rfl) <| allC (rfl) <| allC (rfl) <| allC (rfl) <| allC (congrArg Value.double hl.symm) <| allN) (by rw [h]; exact (by decide +kernel : (true && (eqL [(.int 0, .float 21), (.int 1, .float 22), (.int 1, .float 23), (.int 0, .float 24), (.int 1, .float 25), (.int 1, .float 26), (.int 0, .float 27), (.int 1, .float 20), (.int 0, .float 28), (.int 0, .float 29), (.int 0, .float 30), (.int 0, .float 31), (.double 0, .double 13)] [] [] && eqH [(.int 0, .float 21), (.int 1, .float 22), (.int 1, .float 23), (.int 0, .float 24), (.int 1, .float 25), (.int 1, .float 26), (.int 0, .float 27), (.int 1, .float 20), (.int 0, .float 28), (.int 0, .float 29), (.int 0, .float 30), (.int 0, .float 31), (.double 0, .double 13)] hp_37 hp_10)) = true))
  cases v
  · exact ⟨_, Seg.trans (same (by decide +kernel)) (key sg_u0_5_01)⟩
  · exact ⟨_, Seg.trans (same (by decide +kernel)) (key sg_u1_5_01)⟩
theorem own_u_5_10 (hw : HWt a0 Z) (p0 e v0 v1 m0 m1 m2 m3 s0 s1 c1 c2 : Int32) (ds : List UInt64) (T1 T2 F V : Gp) (q t s y1 y1b a b yr : UInt64) (x82 : NX (FP.ddiv (F.2.getD 7 0) (ds.getD 0 0)) q) (x85 : NX (FP.ddiv (F.2.getD 6 0) (ds.getD 1 0)) y1) (x86 : NX (FP.dsub y1 0) y1b) (x89 : NX (FP.dsub q 0) yr) (xc1 : cmpValue (FP.dcmp q 0) .l = c1) (xc2 : cmpValue (FP.dcmp y1 0) .l = c2) (hq : c1 = 0) (hy : c2 ≠ 0) (hl : ds.getD 3 0 = 0) (v : Bool) : ∃ L', ST l Z (mkA bs (SG p0 e v0 v1 m0 m1 m2 m3 s0 s1 (LS 5) ds) T1 T2 F (UU c1 c2 yr y1b q t s y1 y1b a b yr) V) bs 108 (if v then la_19 else la_18) [] hp_10 0 0 318 L' [] hp_32 0 0 := by
  have key : ∀ {L L2 : Array Slot} {H : AH}, seg (cal tp_u0_5_10 tq_u0_5_10) (pg_33 tp_u0_5_10 tq_u0_5_10) 3000 108 L [] H 0 0 tb_u0_5_10 318 L2 [] hp_32 0 0 rm_33.slots = true → ST l Z (mkA bs (SG p0 e v0 v1 m0 m1 m2 m3 s0 s1 (LS 5) ds) T1 T2 F (UU c1 c2 yr y1b q t s y1 y1b a b yr) V) bs 108 L [] H 0 0 318 L2 [] hp_32 0 0 := fun h => sgT hw mkA_ad ⟨mkA_c, by unfold tp_u0_5_10; exact allC (teG (by decide) x82.1 x82.2) <| allC (te12 xc1) <| allC (te13z hq) <| allC (teG (by decide) x85.1 x85.2) <| allC (te12 xc2) <| allC (te13n hy) <| allC (teG (by decide) x86.1 x86.2) <| allC (teG (by decide) x89.1 x89.2) <| allN⟩ (taN (by decide)) allN (by unfold tb_u0_5_10; exact allC (tbd (yr) rfl rfl) <| allC (tbd (y1b) rfl rfl) <| allN) h
  have same : ∀ {L : Array Slot}, eqF [(.int 0, .float 21), (.int 1, .float 22), (.int 1, .float 23), (.int 0, .float 24), (.int 1, .float 25), (.int 1, .float 26), (.int 0, .float 27), (.int 1, .float 20), (.int 0, .float 28), (.int 0, .float 29), (.int 0, .float 30), (.int 0, .float 31), (.double 0, .double 13)] L.toList L.toList = true → ST l Z (mkA bs (SG p0 e v0 v1 m0 m1 m2 m3 s0 s1 (LS 5) ds) T1 T2 F (UU c1 c2 yr y1b q t s y1 y1b a b yr) V) bs 108 L [] hp_10 0 0 108 L [] hp_37 0 0 := fun h => Seg.same (tab := [(.int 0, .float 21), (.int 1, .float 22), (.int 1, .float 23), (.int 0, .float 24), (.int 1, .float 25), (.int 1, .float 26), (.int 0, .float 27), (.int 1, .float 20), (.int 0, .float 28), (.int 0, .float 29), (.int 0, .float 30), (.int 0, .float 31), (.double 0, .double 13)]) rfl (allC (rfl) <| allC (rfl) <| allC (rfl) <| allC (rfl) <| allC (rfl) <| allC (rfl) <| allC (rfl) <| allC (rfl) <| allC (rfl) <| allC (rfl) <| allC (rfl) <| allC (rfl) <| allC (congrArg Value.double hl.symm) <| allN) (by rw [h]; exact (by decide +kernel : (true && (eqL [(.int 0, .float 21), (.int 1, .float 22), (.int 1, .float 23), (.int 0, .float 24), (.int 1, .float 25), (.int 1, .float 26), (.int 0, .float 27), (.int 1, .float 20), (.int 0, .float 28), (.int 0, .float 29), (.int 0, .float 30), (.int 0, .float 31), (.double 0, .double 13)] [] [] && eqH [(.int 0, .float 21), (.int 1, .float 22), (.int 1, .float 23), (.int 0, .float 24), (.int 1, .float 25), (.int 1, .float 26), (.int 0, .float 27), (.int 1, .float 20), (.int 0, .float 28), (.int 0, .float 29), (.int 0, .float 30), (.int 0, .float 31), (.double 0, .double 13)] hp_37 hp_10)) = true))
  cases v
  · exact ⟨_, Seg.trans (same (by decide +kernel)) (key sg_u0_5_10)⟩
  · exact ⟨_, Seg.trans (same (by decide +kernel)) (key sg_u1_5_10)⟩
theorem own_u_5_11 (hw : HWt a0 Z) (p0 e v0 v1 m0 m1 m2 m3 s0 s1 c1 c2 : Int32) (ds : List UInt64) (T1 T2 F V : Gp) (q t s y1 y1b a b yr : UInt64) (x82 : NX (FP.ddiv (F.2.getD 7 0) (ds.getD 0 0)) q) (x85 : NX (FP.ddiv (F.2.getD 6 0) (ds.getD 1 0)) y1) (x86 : NX (FP.dsub y1 0) y1b) (x89 : NX (FP.dsub q 0) yr) (xc1 : cmpValue (FP.dcmp q 0) .l = c1) (xc2 : cmpValue (FP.dcmp y1 0) .l = c2) (hq : c1 = 0) (hy : c2 = 0) (hl : ds.getD 3 0 = 0) (v : Bool) : ∃ L', ST l Z (mkA bs (SG p0 e v0 v1 m0 m1 m2 m3 s0 s1 (LS 5) ds) T1 T2 F (UU c1 c2 yr y1b q t s y1 y1b a b yr) V) bs 108 (if v then la_19 else la_18) [] hp_10 0 0 318 L' [] hp_32 0 0 := by
  have key : ∀ {L L2 : Array Slot} {H : AH}, seg (cal tp_u0_5_11 tq_u0_5_11) (pg_33 tp_u0_5_11 tq_u0_5_11) 3000 108 L [] H 0 0 tb_u0_5_11 318 L2 [] hp_32 0 0 rm_33.slots = true → ST l Z (mkA bs (SG p0 e v0 v1 m0 m1 m2 m3 s0 s1 (LS 5) ds) T1 T2 F (UU c1 c2 yr y1b q t s y1 y1b a b yr) V) bs 108 L [] H 0 0 318 L2 [] hp_32 0 0 := fun h => sgT hw mkA_ad ⟨mkA_c, by unfold tp_u0_5_11; exact allC (teG (by decide) x82.1 x82.2) <| allC (te12 xc1) <| allC (te13z hq) <| allC (teG (by decide) x85.1 x85.2) <| allC (te12 xc2) <| allC (te13z hy) <| allC (teG (by decide) x86.1 x86.2) <| allC (teG (by decide) x89.1 x89.2) <| allN⟩ (taN (by decide)) allN (by unfold tb_u0_5_11; exact allC (tbd (yr) rfl rfl) <| allC (tbd (y1b) rfl rfl) <| allN) h
  have same : ∀ {L : Array Slot}, eqF [(.int 0, .float 21), (.int 1, .float 22), (.int 1, .float 23), (.int 0, .float 24), (.int 1, .float 25), (.int 1, .float 26), (.int 0, .float 27), (.int 1, .float 20), (.int 0, .float 28), (.int 0, .float 29), (.int 0, .float 30), (.int 0, .float 31), (.double 0, .double 13)] L.toList L.toList = true → ST l Z (mkA bs (SG p0 e v0 v1 m0 m1 m2 m3 s0 s1 (LS 5) ds) T1 T2 F (UU c1 c2 yr y1b q t s y1 y1b a b yr) V) bs 108 L [] hp_10 0 0 108 L [] hp_37 0 0 := fun h => Seg.same (tab := [(.int 0, .float 21), (.int 1, .float 22), (.int 1, .float 23), (.int 0, .float 24), (.int 1, .float 25), (.int 1, .float 26), (.int 0, .float 27), (.int 1, .float 20), (.int 0, .float 28), (.int 0, .float 29), (.int 0, .float 30), (.int 0, .float 31), (.double 0, .double 13)]) rfl (allC (rfl) <| allC (rfl) <| allC (rfl) <| allC (rfl) <| allC (rfl) <| allC (rfl) <| allC (rfl) <| allC (rfl) <| allC (rfl) <| allC (rfl) <| allC (rfl) <| allC (rfl) <| allC (congrArg Value.double hl.symm) <| allN) (by rw [h]; exact (by decide +kernel : (true && (eqL [(.int 0, .float 21), (.int 1, .float 22), (.int 1, .float 23), (.int 0, .float 24), (.int 1, .float 25), (.int 1, .float 26), (.int 0, .float 27), (.int 1, .float 20), (.int 0, .float 28), (.int 0, .float 29), (.int 0, .float 30), (.int 0, .float 31), (.double 0, .double 13)] [] [] && eqH [(.int 0, .float 21), (.int 1, .float 22), (.int 1, .float 23), (.int 0, .float 24), (.int 1, .float 25), (.int 1, .float 26), (.int 0, .float 27), (.int 1, .float 20), (.int 0, .float 28), (.int 0, .float 29), (.int 0, .float 30), (.int 0, .float 31), (.double 0, .double 13)] hp_37 hp_10)) = true))
  cases v
  · exact ⟨_, Seg.trans (same (by decide +kernel)) (key sg_u0_5_11)⟩
  · exact ⟨_, Seg.trans (same (by decide +kernel)) (key sg_u1_5_11)⟩
theorem own_u_6_00 (hw : HWt a0 Z) (p0 e v0 v1 m0 m1 m2 m3 s0 s1 c1 c2 : Int32) (ds : List UInt64) (T1 T2 F V : Gp) (q t s y1 y1b a b yr : UInt64) (x82 : NX (FP.ddiv (F.2.getD 7 0) (ds.getD 0 0)) q) (x83 : NX (FP.dmul (ds.getD 2 0) q) t) (x84 : NX (FP.dsub (F.2.getD 6 0) t) s) (x85 : NX (FP.ddiv s (ds.getD 1 0)) y1) (x86 : NX (FP.dsub y1 0) y1b) (x87 : NX (FP.dmul (ds.getD 3 0) y1b) a) (x88 : NX (FP.dadd 0 a) b) (x89 : NX (FP.dsub q b) yr) (xc1 : cmpValue (FP.dcmp q 0) .l = c1) (xc2 : cmpValue (FP.dcmp y1 0) .l = c2) (hq : c1 ≠ 0) (hy : c2 ≠ 0) (v : Bool) : ∃ L', ST l Z (mkA bs (SG p0 e v0 v1 m0 m1 m2 m3 s0 s1 (LS 6) ds) T1 T2 F (UU c1 c2 yr y1b q t s y1 y1b a b yr) V) bs 108 (if v then la_19 else la_18) [] hp_10 0 0 318 L' [] hp_32 0 0 := by
  have key : ∀ {L L2 : Array Slot} {H : AH}, seg (cal tp_u0_6_00 tq_u0_6_00) (pg_33 tp_u0_6_00 tq_u0_6_00) 3000 108 L [] H 0 0 tb_u0_6_00 318 L2 [] hp_32 0 0 rm_33.slots = true → ST l Z (mkA bs (SG p0 e v0 v1 m0 m1 m2 m3 s0 s1 (LS 6) ds) T1 T2 F (UU c1 c2 yr y1b q t s y1 y1b a b yr) V) bs 108 L [] H 0 0 318 L2 [] hp_32 0 0 := fun h => sgT hw mkA_ad ⟨mkA_c, by unfold tp_u0_6_00; exact allC (teG (by decide) x82.1 x82.2) <| allC (te12 xc1) <| allC (te13n hq) <| allC (teG (by decide) x83.1 x83.2) <| allC (teG (by decide) x84.1 x84.2) <| allC (teG (by decide) x85.1 x85.2) <| allC (te12 xc2) <| allC (te13n hy) <| allC (teG (by decide) x86.1 x86.2) <| allC (teG (by decide) x87.1 x87.2) <| allC (teG (by decide) x88.1 x88.2) <| allC (teG (by decide) x89.1 x89.2) <| allN⟩ (taN (by decide)) allN (by unfold tb_u0_6_00; exact allC (tbd (yr) rfl rfl) <| allC (tbd (y1b) rfl rfl) <| allN) h
  have same : ∀ {L : Array Slot}, eqF [(.int 0, .float 21), (.int 1, .float 22), (.int 1, .float 23), (.int 0, .float 24), (.int 1, .float 25), (.int 1, .float 26), (.int 0, .float 27), (.int 1, .float 20), (.int 1, .float 28), (.int 1, .float 29), (.int 1, .float 30), (.int 1, .float 31)] L.toList L.toList = true → ST l Z (mkA bs (SG p0 e v0 v1 m0 m1 m2 m3 s0 s1 (LS 6) ds) T1 T2 F (UU c1 c2 yr y1b q t s y1 y1b a b yr) V) bs 108 L [] hp_10 0 0 108 L [] hp_38 0 0 := fun h => Seg.same (tab := [(.int 0, .float 21), (.int 1, .float 22), (.int 1, .float 23), (.int 0, .float 24), (.int 1, .float 25), (.int 1, .float 26), (.int 0, .float 27), (.int 1, .float 20), (.int 1, .float 28), (.int 1, .float 29), (.int 1, .float 30), (.int 1, .float 31)]) rfl (allC (rfl) <| allC (rfl) <| allC (rfl) <| allC (rfl) <| allC (rfl) <| allC (rfl) <| allC (rfl) <| allC (rfl) <| allC (rfl) <| allC (rfl) <| allC (rfl) <| allC (rfl) <| allN) (by rw [h]; exact (by decide +kernel : (true && (eqL [(.int 0, .float 21), (.int 1, .float 22), (.int 1, .float 23), (.int 0, .float 24), (.int 1, .float 25), (.int 1, .float 26), (.int 0, .float 27), (.int 1, .float 20), (.int 1, .float 28), (.int 1, .float 29), (.int 1, .float 30), (.int 1, .float 31)] [] [] && eqH [(.int 0, .float 21), (.int 1, .float 22), (.int 1, .float 23), (.int 0, .float 24), (.int 1, .float 25), (.int 1, .float 26), (.int 0, .float 27), (.int 1, .float 20), (.int 1, .float 28), (.int 1, .float 29), (.int 1, .float 30), (.int 1, .float 31)] hp_38 hp_10)) = true))
  cases v
  · exact ⟨_, Seg.trans (same (by decide +kernel)) (key sg_u0_6_00)⟩
  · exact ⟨_, Seg.trans (same (by decide +kernel)) (key sg_u1_6_00)⟩
theorem own_u_6_01 (hw : HWt a0 Z) (p0 e v0 v1 m0 m1 m2 m3 s0 s1 c1 c2 : Int32) (ds : List UInt64) (T1 T2 F V : Gp) (q t s y1 y1b a b yr : UInt64) (x82 : NX (FP.ddiv (F.2.getD 7 0) (ds.getD 0 0)) q) (x83 : NX (FP.dmul (ds.getD 2 0) q) t) (x84 : NX (FP.dsub (F.2.getD 6 0) t) s) (x85 : NX (FP.ddiv s (ds.getD 1 0)) y1) (x86 : NX (FP.dsub y1 0) y1b) (x87 : NX (FP.dmul (ds.getD 3 0) y1b) a) (x88 : NX (FP.dadd 0 a) b) (x89 : NX (FP.dsub q b) yr) (xc1 : cmpValue (FP.dcmp q 0) .l = c1) (xc2 : cmpValue (FP.dcmp y1 0) .l = c2) (hq : c1 ≠ 0) (hy : c2 = 0) (v : Bool) : ∃ L', ST l Z (mkA bs (SG p0 e v0 v1 m0 m1 m2 m3 s0 s1 (LS 6) ds) T1 T2 F (UU c1 c2 yr y1b q t s y1 y1b a b yr) V) bs 108 (if v then la_19 else la_18) [] hp_10 0 0 318 L' [] hp_32 0 0 := by
  have key : ∀ {L L2 : Array Slot} {H : AH}, seg (cal tp_u0_6_01 tq_u0_6_01) (pg_33 tp_u0_6_01 tq_u0_6_01) 3000 108 L [] H 0 0 tb_u0_6_01 318 L2 [] hp_32 0 0 rm_33.slots = true → ST l Z (mkA bs (SG p0 e v0 v1 m0 m1 m2 m3 s0 s1 (LS 6) ds) T1 T2 F (UU c1 c2 yr y1b q t s y1 y1b a b yr) V) bs 108 L [] H 0 0 318 L2 [] hp_32 0 0 := fun h => sgT hw mkA_ad ⟨mkA_c, by unfold tp_u0_6_01; exact allC (teG (by decide) x82.1 x82.2) <| allC (te12 xc1) <| allC (te13n hq) <| allC (teG (by decide) x83.1 x83.2) <| allC (teG (by decide) x84.1 x84.2) <| allC (teG (by decide) x85.1 x85.2) <| allC (te12 xc2) <| allC (te13z hy) <| allC (teG (by decide) x86.1 x86.2) <| allC (teG (by decide) x87.1 x87.2) <| allC (teG (by decide) x88.1 x88.2) <| allC (teG (by decide) x89.1 x89.2) <| allN⟩ (taN (by decide)) allN (by unfold tb_u0_6_01; exact allC (tbd (yr) rfl rfl) <| allC (tbd (y1b) rfl rfl) <| allN) h
  have same : ∀ {L : Array Slot}, eqF [(.int 0, .float 21), (.int 1, .float 22), (.int 1, .float 23), (.int 0, .float 24), (.int 1, .float 25), (.int 1, .float 26), (.int 0, .float 27), (.int 1, .float 20), (.int 1, .float 28), (.int 1, .float 29), (.int 1, .float 30), (.int 1, .float 31)] L.toList L.toList = true → ST l Z (mkA bs (SG p0 e v0 v1 m0 m1 m2 m3 s0 s1 (LS 6) ds) T1 T2 F (UU c1 c2 yr y1b q t s y1 y1b a b yr) V) bs 108 L [] hp_10 0 0 108 L [] hp_38 0 0 := fun h => Seg.same (tab := [(.int 0, .float 21), (.int 1, .float 22), (.int 1, .float 23), (.int 0, .float 24), (.int 1, .float 25), (.int 1, .float 26), (.int 0, .float 27), (.int 1, .float 20), (.int 1, .float 28), (.int 1, .float 29), (.int 1, .float 30), (.int 1, .float 31)]) rfl (allC (rfl) <| allC (rfl) <| allC (rfl) <| allC (rfl) <| allC (rfl) <| allC (rfl) <| allC (rfl) <| allC (rfl) <| allC (rfl) <| allC (rfl) <| allC (rfl) <| allC (rfl) <| allN) (by rw [h]; exact (by decide +kernel : (true && (eqL [(.int 0, .float 21), (.int 1, .float 22), (.int 1, .float 23), (.int 0, .float 24), (.int 1, .float 25), (.int 1, .float 26), (.int 0, .float 27), (.int 1, .float 20), (.int 1, .float 28), (.int 1, .float 29), (.int 1, .float 30), (.int 1, .float 31)] [] [] && eqH [(.int 0, .float 21), (.int 1, .float 22), (.int 1, .float 23), (.int 0, .float 24), (.int 1, .float 25), (.int 1, .float 26), (.int 0, .float 27), (.int 1, .float 20), (.int 1, .float 28), (.int 1, .float 29), (.int 1, .float 30), (.int 1, .float 31)] hp_38 hp_10)) = true))
  cases v
  · exact ⟨_, Seg.trans (same (by decide +kernel)) (key sg_u0_6_01)⟩
  · exact ⟨_, Seg.trans (same (by decide +kernel)) (key sg_u1_6_01)⟩
theorem own_u_6_10 (hw : HWt a0 Z) (p0 e v0 v1 m0 m1 m2 m3 s0 s1 c1 c2 : Int32) (ds : List UInt64) (T1 T2 F V : Gp) (q t s y1 y1b a b yr : UInt64) (x82 : NX (FP.ddiv (F.2.getD 7 0) (ds.getD 0 0)) q) (x85 : NX (FP.ddiv (F.2.getD 6 0) (ds.getD 1 0)) y1) (x86 : NX (FP.dsub y1 0) y1b) (x87 : NX (FP.dmul (ds.getD 3 0) y1b) a) (x88 : NX (FP.dadd 0 a) b) (x89 : NX (FP.dsub q b) yr) (xc1 : cmpValue (FP.dcmp q 0) .l = c1) (xc2 : cmpValue (FP.dcmp y1 0) .l = c2) (hq : c1 = 0) (hy : c2 ≠ 0) (v : Bool) : ∃ L', ST l Z (mkA bs (SG p0 e v0 v1 m0 m1 m2 m3 s0 s1 (LS 6) ds) T1 T2 F (UU c1 c2 yr y1b q t s y1 y1b a b yr) V) bs 108 (if v then la_19 else la_18) [] hp_10 0 0 318 L' [] hp_32 0 0 := by
  have key : ∀ {L L2 : Array Slot} {H : AH}, seg (cal tp_u0_6_10 tq_u0_6_10) (pg_33 tp_u0_6_10 tq_u0_6_10) 3000 108 L [] H 0 0 tb_u0_6_10 318 L2 [] hp_32 0 0 rm_33.slots = true → ST l Z (mkA bs (SG p0 e v0 v1 m0 m1 m2 m3 s0 s1 (LS 6) ds) T1 T2 F (UU c1 c2 yr y1b q t s y1 y1b a b yr) V) bs 108 L [] H 0 0 318 L2 [] hp_32 0 0 := fun h => sgT hw mkA_ad ⟨mkA_c, by unfold tp_u0_6_10; exact allC (teG (by decide) x82.1 x82.2) <| allC (te12 xc1) <| allC (te13z hq) <| allC (teG (by decide) x85.1 x85.2) <| allC (te12 xc2) <| allC (te13n hy) <| allC (teG (by decide) x86.1 x86.2) <| allC (teG (by decide) x87.1 x87.2) <| allC (teG (by decide) x88.1 x88.2) <| allC (teG (by decide) x89.1 x89.2) <| allN⟩ (taN (by decide)) allN (by unfold tb_u0_6_10; exact allC (tbd (yr) rfl rfl) <| allC (tbd (y1b) rfl rfl) <| allN) h
  have same : ∀ {L : Array Slot}, eqF [(.int 0, .float 21), (.int 1, .float 22), (.int 1, .float 23), (.int 0, .float 24), (.int 1, .float 25), (.int 1, .float 26), (.int 0, .float 27), (.int 1, .float 20), (.int 1, .float 28), (.int 1, .float 29), (.int 1, .float 30), (.int 1, .float 31)] L.toList L.toList = true → ST l Z (mkA bs (SG p0 e v0 v1 m0 m1 m2 m3 s0 s1 (LS 6) ds) T1 T2 F (UU c1 c2 yr y1b q t s y1 y1b a b yr) V) bs 108 L [] hp_10 0 0 108 L [] hp_38 0 0 := fun h => Seg.same (tab := [(.int 0, .float 21), (.int 1, .float 22), (.int 1, .float 23), (.int 0, .float 24), (.int 1, .float 25), (.int 1, .float 26), (.int 0, .float 27), (.int 1, .float 20), (.int 1, .float 28), (.int 1, .float 29), (.int 1, .float 30), (.int 1, .float 31)]) rfl (allC (rfl) <| allC (rfl) <| allC (rfl) <| allC (rfl) <| allC (rfl) <| allC (rfl) <| allC (rfl) <| allC (rfl) <| allC (rfl) <| allC (rfl) <| allC (rfl) <| allC (rfl) <| allN) (by rw [h]; exact (by decide +kernel : (true && (eqL [(.int 0, .float 21), (.int 1, .float 22), (.int 1, .float 23), (.int 0, .float 24), (.int 1, .float 25), (.int 1, .float 26), (.int 0, .float 27), (.int 1, .float 20), (.int 1, .float 28), (.int 1, .float 29), (.int 1, .float 30), (.int 1, .float 31)] [] [] && eqH [(.int 0, .float 21), (.int 1, .float 22), (.int 1, .float 23), (.int 0, .float 24), (.int 1, .float 25), (.int 1, .float 26), (.int 0, .float 27), (.int 1, .float 20), (.int 1, .float 28), (.int 1, .float 29), (.int 1, .float 30), (.int 1, .float 31)] hp_38 hp_10)) = true))
  cases v
  · exact ⟨_, Seg.trans (same (by decide +kernel)) (key sg_u0_6_10)⟩
  · exact ⟨_, Seg.trans (same (by decide +kernel)) (key sg_u1_6_10)⟩
theorem own_u_6_11 (hw : HWt a0 Z) (p0 e v0 v1 m0 m1 m2 m3 s0 s1 c1 c2 : Int32) (ds : List UInt64) (T1 T2 F V : Gp) (q t s y1 y1b a b yr : UInt64) (x82 : NX (FP.ddiv (F.2.getD 7 0) (ds.getD 0 0)) q) (x85 : NX (FP.ddiv (F.2.getD 6 0) (ds.getD 1 0)) y1) (x86 : NX (FP.dsub y1 0) y1b) (x87 : NX (FP.dmul (ds.getD 3 0) y1b) a) (x88 : NX (FP.dadd 0 a) b) (x89 : NX (FP.dsub q b) yr) (xc1 : cmpValue (FP.dcmp q 0) .l = c1) (xc2 : cmpValue (FP.dcmp y1 0) .l = c2) (hq : c1 = 0) (hy : c2 = 0) (v : Bool) : ∃ L', ST l Z (mkA bs (SG p0 e v0 v1 m0 m1 m2 m3 s0 s1 (LS 6) ds) T1 T2 F (UU c1 c2 yr y1b q t s y1 y1b a b yr) V) bs 108 (if v then la_19 else la_18) [] hp_10 0 0 318 L' [] hp_32 0 0 := by
  have key : ∀ {L L2 : Array Slot} {H : AH}, seg (cal tp_u0_6_11 tq_u0_6_11) (pg_33 tp_u0_6_11 tq_u0_6_11) 3000 108 L [] H 0 0 tb_u0_6_11 318 L2 [] hp_32 0 0 rm_33.slots = true → ST l Z (mkA bs (SG p0 e v0 v1 m0 m1 m2 m3 s0 s1 (LS 6) ds) T1 T2 F (UU c1 c2 yr y1b q t s y1 y1b a b yr) V) bs 108 L [] H 0 0 318 L2 [] hp_32 0 0 := fun h => sgT hw mkA_ad ⟨mkA_c, by unfold tp_u0_6_11; exact allC (teG (by decide) x82.1 x82.2) <| allC (te12 xc1) <| allC (te13z hq) <| allC (teG (by decide) x85.1 x85.2) <| allC (te12 xc2) <| allC (te13z hy) <| allC (teG (by decide) x86.1 x86.2) <| allC (teG (by decide) x87.1 x87.2) <| allC (teG (by decide) x88.1 x88.2) <| allC (teG (by decide) x89.1 x89.2) <| allN⟩ (taN (by decide)) allN (by unfold tb_u0_6_11; exact allC (tbd (yr) rfl rfl) <| allC (tbd (y1b) rfl rfl) <| allN) h
  have same : ∀ {L : Array Slot}, eqF [(.int 0, .float 21), (.int 1, .float 22), (.int 1, .float 23), (.int 0, .float 24), (.int 1, .float 25), (.int 1, .float 26), (.int 0, .float 27), (.int 1, .float 20), (.int 1, .float 28), (.int 1, .float 29), (.int 1, .float 30), (.int 1, .float 31)] L.toList L.toList = true → ST l Z (mkA bs (SG p0 e v0 v1 m0 m1 m2 m3 s0 s1 (LS 6) ds) T1 T2 F (UU c1 c2 yr y1b q t s y1 y1b a b yr) V) bs 108 L [] hp_10 0 0 108 L [] hp_38 0 0 := fun h => Seg.same (tab := [(.int 0, .float 21), (.int 1, .float 22), (.int 1, .float 23), (.int 0, .float 24), (.int 1, .float 25), (.int 1, .float 26), (.int 0, .float 27), (.int 1, .float 20), (.int 1, .float 28), (.int 1, .float 29), (.int 1, .float 30), (.int 1, .float 31)]) rfl (allC (rfl) <| allC (rfl) <| allC (rfl) <| allC (rfl) <| allC (rfl) <| allC (rfl) <| allC (rfl) <| allC (rfl) <| allC (rfl) <| allC (rfl) <| allC (rfl) <| allC (rfl) <| allN) (by rw [h]; exact (by decide +kernel : (true && (eqL [(.int 0, .float 21), (.int 1, .float 22), (.int 1, .float 23), (.int 0, .float 24), (.int 1, .float 25), (.int 1, .float 26), (.int 0, .float 27), (.int 1, .float 20), (.int 1, .float 28), (.int 1, .float 29), (.int 1, .float 30), (.int 1, .float 31)] [] [] && eqH [(.int 0, .float 21), (.int 1, .float 22), (.int 1, .float 23), (.int 0, .float 24), (.int 1, .float 25), (.int 1, .float 26), (.int 0, .float 27), (.int 1, .float 20), (.int 1, .float 28), (.int 1, .float 29), (.int 1, .float 30), (.int 1, .float 31)] hp_38 hp_10)) = true))
  cases v
  · exact ⟨_, Seg.trans (same (by decide +kernel)) (key sg_u0_6_11)⟩
  · exact ⟨_, Seg.trans (same (by decide +kernel)) (key sg_u1_6_11)⟩
theorem own_u_7_00 (hw : HWt a0 Z) (p0 e v0 v1 m0 m1 m2 m3 s0 s1 c1 c2 : Int32) (ds : List UInt64) (T1 T2 F V : Gp) (q t s y1 y1b a b yr : UInt64) (x82 : NX (FP.ddiv (F.2.getD 7 0) (ds.getD 0 0)) q) (x83 : NX (FP.dmul (ds.getD 2 0) q) t) (x84 : NX (FP.dsub (F.2.getD 6 0) t) s) (x85 : NX (FP.ddiv s (ds.getD 1 0)) y1) (x86 : NX (FP.dsub y1 0) y1b) (x87 : NX (FP.dmul (ds.getD 3 0) y1b) a) (x88 : NX (FP.dadd 0 a) b) (x89 : NX (FP.dsub q b) yr) (xc1 : cmpValue (FP.dcmp q 0) .l = c1) (xc2 : cmpValue (FP.dcmp y1 0) .l = c2) (hq : c1 ≠ 0) (hy : c2 ≠ 0) (v : Bool) : ∃ L', ST l Z (mkA bs (SG p0 e v0 v1 m0 m1 m2 m3 s0 s1 (LS 7) ds) T1 T2 F (UU c1 c2 y1b yr q t s y1 y1b a b yr) V) bs 108 (if v then la_19 else la_18) [] hp_10 0 0 318 L' [] hp_32 0 0 := by
  have key : ∀ {L L2 : Array Slot} {H : AH}, seg (cal tp_u0_7_00 tq_u0_7_00) (pg_33 tp_u0_7_00 tq_u0_7_00) 3000 108 L [] H 0 0 tb_u0_7_00 318 L2 [] hp_32 0 0 rm_33.slots = true → ST l Z (mkA bs (SG p0 e v0 v1 m0 m1 m2 m3 s0 s1 (LS 7) ds) T1 T2 F (UU c1 c2 y1b yr q t s y1 y1b a b yr) V) bs 108 L [] H 0 0 318 L2 [] hp_32 0 0 := fun h => sgT hw mkA_ad ⟨mkA_c, by unfold tp_u0_7_00; exact allC (teG (by decide) x82.1 x82.2) <| allC (te12 xc1) <| allC (te13n hq) <| allC (teG (by decide) x83.1 x83.2) <| allC (teG (by decide) x84.1 x84.2) <| allC (teG (by decide) x85.1 x85.2) <| allC (te12 xc2) <| allC (te13n hy) <| allC (teG (by decide) x86.1 x86.2) <| allC (teG (by decide) x87.1 x87.2) <| allC (teG (by decide) x88.1 x88.2) <| allC (teG (by decide) x89.1 x89.2) <| allN⟩ (taN (by decide)) allN (by unfold tb_u0_7_00; exact allC (tbd (y1b) rfl rfl) <| allC (tbd (yr) rfl rfl) <| allN) h
  have same : ∀ {L : Array Slot}, eqF [(.int 1, .float 21), (.int 0, .float 22), (.int 1, .float 23), (.int 0, .float 24), (.int 1, .float 25), (.int 1, .float 26), (.int 0, .float 27), (.int 1, .float 20), (.int 1, .float 28), (.int 1, .float 29), (.int 0, .float 30), (.int 1, .float 31)] L.toList L.toList = true → ST l Z (mkA bs (SG p0 e v0 v1 m0 m1 m2 m3 s0 s1 (LS 7) ds) T1 T2 F (UU c1 c2 y1b yr q t s y1 y1b a b yr) V) bs 108 L [] hp_10 0 0 108 L [] hp_39 0 0 := fun h => Seg.same (tab := [(.int 1, .float 21), (.int 0, .float 22), (.int 1, .float 23), (.int 0, .float 24), (.int 1, .float 25), (.int 1, .float 26), (.int 0, .float 27), (.int 1, .float 20), (.int 1, .float 28), (.int 1, .float 29), (.int 0, .float 30), (.int 1, .float 31)]) rfl (allC (rfl) <| allC (rfl) <| allC (rfl) <| allC (rfl) <| allC (rfl) <| allC (rfl) <| allC (rfl) <| allC (rfl) <| allC (rfl) <| allC (rfl) <| allC (rfl) <| allC (rfl) <| allN) (by rw [h]; exact (by decide +kernel : (true && (eqL [(.int 1, .float 21), (.int 0, .float 22), (.int 1, .float 23), (.int 0, .float 24), (.int 1, .float 25), (.int 1, .float 26), (.int 0, .float 27), (.int 1, .float 20), (.int 1, .float 28), (.int 1, .float 29), (.int 0, .float 30), (.int 1, .float 31)] [] [] && eqH [(.int 1, .float 21), (.int 0, .float 22), (.int 1, .float 23), (.int 0, .float 24), (.int 1, .float 25), (.int 1, .float 26), (.int 0, .float 27), (.int 1, .float 20), (.int 1, .float 28), (.int 1, .float 29), (.int 0, .float 30), (.int 1, .float 31)] hp_39 hp_10)) = true))
  cases v
  · exact ⟨_, Seg.trans (same (by decide +kernel)) (key sg_u0_7_00)⟩
  · exact ⟨_, Seg.trans (same (by decide +kernel)) (key sg_u1_7_00)⟩
theorem own_u_7_01 (hw : HWt a0 Z) (p0 e v0 v1 m0 m1 m2 m3 s0 s1 c1 c2 : Int32) (ds : List UInt64) (T1 T2 F V : Gp) (q t s y1 y1b a b yr : UInt64) (x82 : NX (FP.ddiv (F.2.getD 7 0) (ds.getD 0 0)) q) (x83 : NX (FP.dmul (ds.getD 2 0) q) t) (x84 : NX (FP.dsub (F.2.getD 6 0) t) s) (x85 : NX (FP.ddiv s (ds.getD 1 0)) y1) (x86 : NX (FP.dsub y1 0) y1b) (x87 : NX (FP.dmul (ds.getD 3 0) y1b) a) (x88 : NX (FP.dadd 0 a) b) (x89 : NX (FP.dsub q b) yr) (xc1 : cmpValue (FP.dcmp q 0) .l = c1) (xc2 : cmpValue (FP.dcmp y1 0) .l = c2) (hq : c1 ≠ 0) (hy : c2 = 0) (v : Bool) : ∃ L', ST l Z (mkA bs (SG p0 e v0 v1 m0 m1 m2 m3 s0 s1 (LS 7) ds) T1 T2 F (UU c1 c2 y1b yr q t s y1 y1b a b yr) V) bs 108 (if v then la_19 else la_18) [] hp_10 0 0 318 L' [] hp_32 0 0 := by
  have key : ∀ {L L2 : Array Slot} {H : AH}, seg (cal tp_u0_7_01 tq_u0_7_01) (pg_33 tp_u0_7_01 tq_u0_7_01) 3000 108 L [] H 0 0 tb_u0_7_01 318 L2 [] hp_32 0 0 rm_33.slots = true → ST l Z (mkA bs (SG p0 e v0 v1 m0 m1 m2 m3 s0 s1 (LS 7) ds) T1 T2 F (UU c1 c2 y1b yr q t s y1 y1b a b yr) V) bs 108 L [] H 0 0 318 L2 [] hp_32 0 0 := fun h => sgT hw mkA_ad ⟨mkA_c, by unfold tp_u0_7_01; exact allC (teG (by decide) x82.1 x82.2) <| allC (te12 xc1) <| allC (te13n hq) <| allC (teG (by decide) x83.1 x83.2) <| allC (teG (by decide) x84.1 x84.2) <| allC (teG (by decide) x85.1 x85.2) <| allC (te12 xc2) <| allC (te13z hy) <| allC (teG (by decide) x86.1 x86.2) <| allC (teG (by decide) x87.1 x87.2) <| allC (teG (by decide) x88.1 x88.2) <| allC (teG (by decide) x89.1 x89.2) <| allN⟩ (taN (by decide)) allN (by unfold tb_u0_7_01; exact allC (tbd (y1b) rfl rfl) <| allC (tbd (yr) rfl rfl) <| allN) h
  have same : ∀ {L : Array Slot}, eqF [(.int 1, .float 21), (.int 0, .float 22), (.int 1, .float 23), (.int 0, .float 24), (.int 1, .float 25), (.int 1, .float 26), (.int 0, .float 27), (.int 1, .float 20), (.int 1, .float 28), (.int 1, .float 29), (.int 0, .float 30), (.int 1, .float 31)] L.toList L.toList = true → ST l Z (mkA bs (SG p0 e v0 v1 m0 m1 m2 m3 s0 s1 (LS 7) ds) T1 T2 F (UU c1 c2 y1b yr q t s y1 y1b a b yr) V) bs 108 L [] hp_10 0 0 108 L [] hp_39 0 0 := fun h => Seg.same (tab := [(.int 1, .float 21), (.int 0, .float 22), (.int 1, .float 23), (.int 0, .float 24), (.int 1, .float 25), (.int 1, .float 26), (.int 0, .float 27), (.int 1, .float 20), (.int 1, .float 28), (.int 1, .float 29), (.int 0, .float 30), (.int 1, .float 31)]) rfl (allC (rfl) <| allC (rfl) <| allC (rfl) <| allC (rfl) <| allC (rfl) <| allC (rfl) <| allC (rfl) <| allC (rfl) <| allC (rfl) <| allC (rfl) <| allC (rfl) <| allC (rfl) <| allN) (by rw [h]; exact (by decide +kernel : (true && (eqL [(.int 1, .float 21), (.int 0, .float 22), (.int 1, .float 23), (.int 0, .float 24), (.int 1, .float 25), (.int 1, .float 26), (.int 0, .float 27), (.int 1, .float 20), (.int 1, .float 28), (.int 1, .float 29), (.int 0, .float 30), (.int 1, .float 31)] [] [] && eqH [(.int 1, .float 21), (.int 0, .float 22), (.int 1, .float 23), (.int 0, .float 24), (.int 1, .float 25), (.int 1, .float 26), (.int 0, .float 27), (.int 1, .float 20), (.int 1, .float 28), (.int 1, .float 29), (.int 0, .float 30), (.int 1, .float 31)] hp_39 hp_10)) = true))
  cases v
  · exact ⟨_, Seg.trans (same (by decide +kernel)) (key sg_u0_7_01)⟩
  · exact ⟨_, Seg.trans (same (by decide +kernel)) (key sg_u1_7_01)⟩
theorem own_u_7_10 (hw : HWt a0 Z) (p0 e v0 v1 m0 m1 m2 m3 s0 s1 c1 c2 : Int32) (ds : List UInt64) (T1 T2 F V : Gp) (q t s y1 y1b a b yr : UInt64) (x82 : NX (FP.ddiv (F.2.getD 7 0) (ds.getD 0 0)) q) (x85 : NX (FP.ddiv (F.2.getD 6 0) (ds.getD 1 0)) y1) (x86 : NX (FP.dsub y1 0) y1b) (x87 : NX (FP.dmul (ds.getD 3 0) y1b) a) (x88 : NX (FP.dadd 0 a) b) (x89 : NX (FP.dsub q b) yr) (xc1 : cmpValue (FP.dcmp q 0) .l = c1) (xc2 : cmpValue (FP.dcmp y1 0) .l = c2) (hq : c1 = 0) (hy : c2 ≠ 0) (v : Bool) : ∃ L', ST l Z (mkA bs (SG p0 e v0 v1 m0 m1 m2 m3 s0 s1 (LS 7) ds) T1 T2 F (UU c1 c2 y1b yr q t s y1 y1b a b yr) V) bs 108 (if v then la_19 else la_18) [] hp_10 0 0 318 L' [] hp_32 0 0 := by
  have key : ∀ {L L2 : Array Slot} {H : AH}, seg (cal tp_u0_7_10 tq_u0_7_10) (pg_33 tp_u0_7_10 tq_u0_7_10) 3000 108 L [] H 0 0 tb_u0_7_10 318 L2 [] hp_32 0 0 rm_33.slots = true → ST l Z (mkA bs (SG p0 e v0 v1 m0 m1 m2 m3 s0 s1 (LS 7) ds) T1 T2 F (UU c1 c2 y1b yr q t s y1 y1b a b yr) V) bs 108 L [] H 0 0 318 L2 [] hp_32 0 0 := fun h => sgT hw mkA_ad ⟨mkA_c, by unfold tp_u0_7_10; exact allC (teG (by decide) x82.1 x82.2) <| allC (te12 xc1) <| allC (te13z hq) <| allC (teG (by decide) x85.1 x85.2) <| allC (te12 xc2) <| allC (te13n hy) <| allC (teG (by decide) x86.1 x86.2) <| allC (teG (by decide) x87.1 x87.2) <| allC (teG (by decide) x88.1 x88.2) <| allC (teG (by decide) x89.1 x89.2) <| allN⟩ (taN (by decide)) allN (by unfold tb_u0_7_10; exact allC (tbd (y1b) rfl rfl) <| allC (tbd (yr) rfl rfl) <| allN) h
  have same : ∀ {L : Array Slot}, eqF [(.int 1, .float 21), (.int 0, .float 22), (.int 1, .float 23), (.int 0, .float 24), (.int 1, .float 25), (.int 1, .float 26), (.int 0, .float 27), (.int 1, .float 20), (.int 1, .float 28), (.int 1, .float 29), (.int 0, .float 30), (.int 1, .float 31)] L.toList L.toList = true → ST l Z (mkA bs (SG p0 e v0 v1 m0 m1 m2 m3 s0 s1 (LS 7) ds) T1 T2 F (UU c1 c2 y1b yr q t s y1 y1b a b yr) V) bs 108 L [] hp_10 0 0 108 L [] hp_39 0 0 := fun h => Seg.same (tab := [(.int 1, .float 21), (.int 0, .float 22), (.int 1, .float 23), (.int 0, .float 24), (.int 1, .float 25), (.int 1, .float 26), (.int 0, .float 27), (.int 1, .float 20), (.int 1, .float 28), (.int 1, .float 29), (.int 0, .float 30), (.int 1, .float 31)]) rfl (allC (rfl) <| allC (rfl) <| allC (rfl) <| allC (rfl) <| allC (rfl) <| allC (rfl) <| allC (rfl) <| allC (rfl) <| allC (rfl) <| allC (rfl) <| allC (rfl) <| allC (rfl) <| allN) (by rw [h]; exact (by decide +kernel : (true && (eqL [(.int 1, .float 21), (.int 0, .float 22), (.int 1, .float 23), (.int 0, .float 24), (.int 1, .float 25), (.int 1, .float 26), (.int 0, .float 27), (.int 1, .float 20), (.int 1, .float 28), (.int 1, .float 29), (.int 0, .float 30), (.int 1, .float 31)] [] [] && eqH [(.int 1, .float 21), (.int 0, .float 22), (.int 1, .float 23), (.int 0, .float 24), (.int 1, .float 25), (.int 1, .float 26), (.int 0, .float 27), (.int 1, .float 20), (.int 1, .float 28), (.int 1, .float 29), (.int 0, .float 30), (.int 1, .float 31)] hp_39 hp_10)) = true))
  cases v
  · exact ⟨_, Seg.trans (same (by decide +kernel)) (key sg_u0_7_10)⟩
  · exact ⟨_, Seg.trans (same (by decide +kernel)) (key sg_u1_7_10)⟩
theorem own_u_7_11 (hw : HWt a0 Z) (p0 e v0 v1 m0 m1 m2 m3 s0 s1 c1 c2 : Int32) (ds : List UInt64) (T1 T2 F V : Gp) (q t s y1 y1b a b yr : UInt64) (x82 : NX (FP.ddiv (F.2.getD 7 0) (ds.getD 0 0)) q) (x85 : NX (FP.ddiv (F.2.getD 6 0) (ds.getD 1 0)) y1) (x86 : NX (FP.dsub y1 0) y1b) (x87 : NX (FP.dmul (ds.getD 3 0) y1b) a) (x88 : NX (FP.dadd 0 a) b) (x89 : NX (FP.dsub q b) yr) (xc1 : cmpValue (FP.dcmp q 0) .l = c1) (xc2 : cmpValue (FP.dcmp y1 0) .l = c2) (hq : c1 = 0) (hy : c2 = 0) (v : Bool) : ∃ L', ST l Z (mkA bs (SG p0 e v0 v1 m0 m1 m2 m3 s0 s1 (LS 7) ds) T1 T2 F (UU c1 c2 y1b yr q t s y1 y1b a b yr) V) bs 108 (if v then la_19 else la_18) [] hp_10 0 0 318 L' [] hp_32 0 0 := by
  have key : ∀ {L L2 : Array Slot} {H : AH}, seg (cal tp_u0_7_11 tq_u0_7_11) (pg_33 tp_u0_7_11 tq_u0_7_11) 3000 108 L [] H 0 0 tb_u0_7_11 318 L2 [] hp_32 0 0 rm_33.slots = true → ST l Z (mkA bs (SG p0 e v0 v1 m0 m1 m2 m3 s0 s1 (LS 7) ds) T1 T2 F (UU c1 c2 y1b yr q t s y1 y1b a b yr) V) bs 108 L [] H 0 0 318 L2 [] hp_32 0 0 := fun h => sgT hw mkA_ad ⟨mkA_c, by unfold tp_u0_7_11; exact allC (teG (by decide) x82.1 x82.2) <| allC (te12 xc1) <| allC (te13z hq) <| allC (teG (by decide) x85.1 x85.2) <| allC (te12 xc2) <| allC (te13z hy) <| allC (teG (by decide) x86.1 x86.2) <| allC (teG (by decide) x87.1 x87.2) <| allC (teG (by decide) x88.1 x88.2) <| allC (teG (by decide) x89.1 x89.2) <| allN⟩ (taN (by decide)) allN (by unfold tb_u0_7_11; exact allC (tbd (y1b) rfl rfl) <| allC (tbd (yr) rfl rfl) <| allN) h
  have same : ∀ {L : Array Slot}, eqF [(.int 1, .float 21), (.int 0, .float 22), (.int 1, .float 23), (.int 0, .float 24), (.int 1, .float 25), (.int 1, .float 26), (.int 0, .float 27), (.int 1, .float 20), (.int 1, .float 28), (.int 1, .float 29), (.int 0, .float 30), (.int 1, .float 31)] L.toList L.toList = true → ST l Z (mkA bs (SG p0 e v0 v1 m0 m1 m2 m3 s0 s1 (LS 7) ds) T1 T2 F (UU c1 c2 y1b yr q t s y1 y1b a b yr) V) bs 108 L [] hp_10 0 0 108 L [] hp_39 0 0 := fun h => Seg.same (tab := [(.int 1, .float 21), (.int 0, .float 22), (.int 1, .float 23), (.int 0, .float 24), (.int 1, .float 25), (.int 1, .float 26), (.int 0, .float 27), (.int 1, .float 20), (.int 1, .float 28), (.int 1, .float 29), (.int 0, .float 30), (.int 1, .float 31)]) rfl (allC (rfl) <| allC (rfl) <| allC (rfl) <| allC (rfl) <| allC (rfl) <| allC (rfl) <| allC (rfl) <| allC (rfl) <| allC (rfl) <| allC (rfl) <| allC (rfl) <| allC (rfl) <| allN) (by rw [h]; exact (by decide +kernel : (true && (eqL [(.int 1, .float 21), (.int 0, .float 22), (.int 1, .float 23), (.int 0, .float 24), (.int 1, .float 25), (.int 1, .float 26), (.int 0, .float 27), (.int 1, .float 20), (.int 1, .float 28), (.int 1, .float 29), (.int 0, .float 30), (.int 1, .float 31)] [] [] && eqH [(.int 1, .float 21), (.int 0, .float 22), (.int 1, .float 23), (.int 0, .float 24), (.int 1, .float 25), (.int 1, .float 26), (.int 0, .float 27), (.int 1, .float 20), (.int 1, .float 28), (.int 1, .float 29), (.int 0, .float 30), (.int 1, .float 31)] hp_39 hp_10)) = true))
  cases v
  · exact ⟨_, Seg.trans (same (by decide +kernel)) (key sg_u0_7_11)⟩
  · exact ⟨_, Seg.trans (same (by decide +kernel)) (key sg_u1_7_11)⟩
theorem own_lu (hw : HWt a0 Z) (p0 e v0 v1 m0 m1 m2 m3 s0 s1 : Int32) (lu : List Int32) (ds : List UInt64) (T1 T2 F : Gp) (W0 W1 : Int) (h0 : DInt W0 (F.2.getD 6 0)) (h1 : DInt W1 (F.2.getD 7 0)) (b0 : W0.natAbs ≤ 17179869184) (b1 : W1.natAbs ≤ 17179869184) (hL : LUR lu ds m0.toInt m1.toInt m2.toInt m3.toInt) (v : Bool) : ∃ U : Gp, YOK (U.2.getD 0 0) (U.2.getD 1 0) W0 W1 m0.toInt m1.toInt m2.toInt m3.toInt ∧ ∀ V, ∃ L', ST l Z (mkA bs (SG p0 e v0 v1 m0 m1 m2 m3 s0 s1 lu ds) T1 T2 F U V) bs 108 (if v then la_19 else la_18) [] hp_10 0 0 318 L' [] hp_32 0 0 := by
  obtain ⟨j, q0, q1, u, l', rfl, d0, d1, du, dl, hp0, hp1, bu, bl, hr⟩ := hL
  match j, hr with
  | 0, ⟨e0, e1, e2, e3, x2, x3⟩ =>
    obtain ⟨k0, k1, k2, k3, k4⟩ := own_lu1 h1 h0 d0 du hp0 bu b1 b0
    have hc := own_cmp0 (DY.of_int k0) (Or.inl rfl)
    obtain ⟨rfl, x2⟩ := x2
    obtain ⟨rfl, x3⟩ := x3
    rcases Decidable.em (cmpValue (FP.dcmp (FP.ddiv (F.2.getD 7 0) (ds.getD 0 0)) 0) .l = 0) with hq | hq
    · have hz := hc.mp hq
      have ds_ := h0
      obtain ⟨Y, y0, y1, y2, y3, y4, y5, y6, y7⟩ := own_lu2 ds_ k0 d1 dl hp1 bl (by omega) (by omega)
      have hY : q1 * Y = 2 * (W0 - 0 * (q0 * W1)) := by rw [y0]; simp
      have hs := own_sol (l := 0) hp0 hY
      have bb : (0 * Y).natAbs ≤ 1 * 8796093022208 := own_nab bl y1
      have yk : ∃ Y0 Y1 : Int, DY Y0 1 _ ∧ DY Y1 1 _ ∧ Y0.natAbs ≤ 35184372088832 ∧ Y1.natAbs ≤ 35184372088832 ∧ m0.toInt * Y0 + m2.toInt * Y1 = 2 * W0 ∧ m1.toInt * Y0 + m3.toInt * Y1 = 2 * W1 := ⟨2 * (q0 * W1) - 0 * Y, Y, (y7.cast (by simp) rfl), y3, by omega, by omega, by simp only [e0, e1, e2, e3]; first | exact hs.2 | (rw [Int.add_comm]; exact hs.2), by simp only [e0, e1, e2, e3]; first | exact hs.1 | (rw [Int.add_comm]; exact hs.1)⟩
      rcases Decidable.em (cmpValue (FP.dcmp (FP.ddiv (F.2.getD 6 0) (ds.getD 1 0)) 0) .l = 0) with hw2 | hw2
      · exact ⟨UU _ _ _ _ _ 0 0 _ _ 0 0 _, yk, fun V => own_u_0_11 hw p0 e v0 v1 m0 m1 m2 m3 s0 s1 _ _ ds T1 T2 F V _ 0 0 _ _ 0 0 _ ⟨rfl, (nnD k0)⟩ ⟨rfl, y2.nn⟩ ⟨rfl, y3.nn⟩ ⟨rfl, y7.nn⟩ rfl rfl hq hw2 x2 x3 v⟩
      · exact ⟨UU _ _ _ _ _ 0 0 _ _ 0 0 _, yk, fun V => own_u_0_10 hw p0 e v0 v1 m0 m1 m2 m3 s0 s1 _ _ ds T1 T2 F V _ 0 0 _ _ 0 0 _ ⟨rfl, (nnD k0)⟩ ⟨rfl, y2.nn⟩ ⟨rfl, y3.nn⟩ ⟨rfl, y7.nn⟩ rfl rfl hq hw2 x2 x3 v⟩
    · have hz := hq
      have ds_ := h0
      obtain ⟨Y, y0, y1, y2, y3, y4, y5, y6, y7⟩ := own_lu2 ds_ k0 d1 dl hp1 bl (by omega) (by omega)
      have hY : q1 * Y = 2 * (W0 - 0 * (q0 * W1)) := by rw [y0]; simp
      have hs := own_sol (l := 0) hp0 hY
      have bb : (0 * Y).natAbs ≤ 1 * 8796093022208 := own_nab bl y1
      have yk : ∃ Y0 Y1 : Int, DY Y0 1 _ ∧ DY Y1 1 _ ∧ Y0.natAbs ≤ 35184372088832 ∧ Y1.natAbs ≤ 35184372088832 ∧ m0.toInt * Y0 + m2.toInt * Y1 = 2 * W0 ∧ m1.toInt * Y0 + m3.toInt * Y1 = 2 * W1 := ⟨2 * (q0 * W1) - 0 * Y, Y, (y7.cast (by simp) rfl), y3, by omega, by omega, by simp only [e0, e1, e2, e3]; first | exact hs.2 | (rw [Int.add_comm]; exact hs.2), by simp only [e0, e1, e2, e3]; first | exact hs.1 | (rw [Int.add_comm]; exact hs.1)⟩
      rcases Decidable.em (cmpValue (FP.dcmp (FP.ddiv (F.2.getD 6 0) (ds.getD 1 0)) 0) .l = 0) with hw2 | hw2
      · exact ⟨UU _ _ _ _ _ 0 0 _ _ 0 0 _, yk, fun V => own_u_0_01 hw p0 e v0 v1 m0 m1 m2 m3 s0 s1 _ _ ds T1 T2 F V _ 0 0 _ _ 0 0 _ ⟨rfl, (nnD k0)⟩ ⟨rfl, y2.nn⟩ ⟨rfl, y3.nn⟩ ⟨rfl, y7.nn⟩ rfl rfl hq hw2 x2 x3 v⟩
      · exact ⟨UU _ _ _ _ _ 0 0 _ _ 0 0 _, yk, fun V => own_u_0_00 hw p0 e v0 v1 m0 m1 m2 m3 s0 s1 _ _ ds T1 T2 F V _ 0 0 _ _ 0 0 _ ⟨rfl, (nnD k0)⟩ ⟨rfl, y2.nn⟩ ⟨rfl, y3.nn⟩ ⟨rfl, y7.nn⟩ rfl rfl hq hw2 x2 x3 v⟩
  | 1, ⟨e0, e1, e2, e3, x2, x3⟩ =>
    obtain ⟨k0, k1, k2, k3, k4⟩ := own_lu1 h0 h1 d0 du hp0 bu b0 b1
    have hc := own_cmp0 (DY.of_int k0) (Or.inl rfl)
    obtain ⟨rfl, x3⟩ := x3
    rcases Decidable.em (cmpValue (FP.dcmp (FP.ddiv (F.2.getD 6 0) (ds.getD 0 0)) 0) .l = 0) with hq | hq
    · have hz := hc.mp hq
      have ds_ := h1
      obtain ⟨Y, y0, y1, y2, y3, y4, y5, y6, y7⟩ := own_lu2 ds_ k0 d1 dl hp1 bl (by omega) (by omega)
      have hY : q1 * Y = 2 * (W1 - u * (q0 * W0)) := by rw [y0]; rw [hz]; simp
      have hs := own_sol (l := 0) hp0 hY
      have bb : (0 * Y).natAbs ≤ 1 * 8796093022208 := own_nab bl y1
      have yk : ∃ Y0 Y1 : Int, DY Y0 1 _ ∧ DY Y1 1 _ ∧ Y0.natAbs ≤ 35184372088832 ∧ Y1.natAbs ≤ 35184372088832 ∧ m0.toInt * Y0 + m2.toInt * Y1 = 2 * W0 ∧ m1.toInt * Y0 + m3.toInt * Y1 = 2 * W1 := ⟨Y, 2 * (q0 * W0) - 0 * Y, y3, (y7.cast (by simp) rfl), by omega, by omega, by simp only [e0, e1, e2, e3]; first | exact hs.1 | (rw [Int.add_comm]; exact hs.1), by simp only [e0, e1, e2, e3]; first | exact hs.2 | (rw [Int.add_comm]; exact hs.2)⟩
      rcases Decidable.em (cmpValue (FP.dcmp (FP.ddiv (F.2.getD 7 0) (ds.getD 1 0)) 0) .l = 0) with hw2 | hw2
      · exact ⟨UU _ _ _ _ _ 0 0 _ _ 0 0 _, yk, fun V => own_u_1_11 hw p0 e v0 v1 m0 m1 m2 m3 s0 s1 _ _ ds T1 T2 F V _ 0 0 _ _ 0 0 _ ⟨rfl, (nnD k0)⟩ ⟨rfl, y2.nn⟩ ⟨rfl, y3.nn⟩ ⟨rfl, y7.nn⟩ rfl rfl hq hw2 x3 v⟩
      · exact ⟨UU _ _ _ _ _ 0 0 _ _ 0 0 _, yk, fun V => own_u_1_10 hw p0 e v0 v1 m0 m1 m2 m3 s0 s1 _ _ ds T1 T2 F V _ 0 0 _ _ 0 0 _ ⟨rfl, (nnD k0)⟩ ⟨rfl, y2.nn⟩ ⟨rfl, y3.nn⟩ ⟨rfl, y7.nn⟩ rfl rfl hq hw2 x3 v⟩
    · have hz := hq
      have ds_ := k2
      obtain ⟨Y, y0, y1, y2, y3, y4, y5, y6, y7⟩ := own_lu2 ds_ k0 d1 dl hp1 bl (by omega) (by omega)
      have hY : q1 * Y = 2 * (W1 - u * (q0 * W0)) := by rw [y0]
      have hs := own_sol (l := 0) hp0 hY
      have bb : (0 * Y).natAbs ≤ 1 * 8796093022208 := own_nab bl y1
      have yk : ∃ Y0 Y1 : Int, DY Y0 1 _ ∧ DY Y1 1 _ ∧ Y0.natAbs ≤ 35184372088832 ∧ Y1.natAbs ≤ 35184372088832 ∧ m0.toInt * Y0 + m2.toInt * Y1 = 2 * W0 ∧ m1.toInt * Y0 + m3.toInt * Y1 = 2 * W1 := ⟨Y, 2 * (q0 * W0) - 0 * Y, y3, (y7.cast (by simp) rfl), by omega, by omega, by simp only [e0, e1, e2, e3]; first | exact hs.1 | (rw [Int.add_comm]; exact hs.1), by simp only [e0, e1, e2, e3]; first | exact hs.2 | (rw [Int.add_comm]; exact hs.2)⟩
      rcases Decidable.em (cmpValue (FP.dcmp (FP.ddiv (FP.dsub (F.2.getD 7 0) (FP.dmul (ds.getD 2 0) (FP.ddiv (F.2.getD 6 0) (ds.getD 0 0)))) (ds.getD 1 0)) 0) .l = 0) with hw2 | hw2
      · exact ⟨UU _ _ _ _ _ _ _ _ _ 0 0 _, yk, fun V => own_u_1_01 hw p0 e v0 v1 m0 m1 m2 m3 s0 s1 _ _ ds T1 T2 F V _ _ _ _ _ 0 0 _ ⟨rfl, (nnD k0)⟩ ⟨rfl, (nnD k1)⟩ ⟨rfl, (nnD k2)⟩ ⟨rfl, y2.nn⟩ ⟨rfl, y3.nn⟩ ⟨rfl, y7.nn⟩ rfl rfl hq hw2 x3 v⟩
      · exact ⟨UU _ _ _ _ _ _ _ _ _ 0 0 _, yk, fun V => own_u_1_00 hw p0 e v0 v1 m0 m1 m2 m3 s0 s1 _ _ ds T1 T2 F V _ _ _ _ _ 0 0 _ ⟨rfl, (nnD k0)⟩ ⟨rfl, (nnD k1)⟩ ⟨rfl, (nnD k2)⟩ ⟨rfl, y2.nn⟩ ⟨rfl, y3.nn⟩ ⟨rfl, y7.nn⟩ rfl rfl hq hw2 x3 v⟩
  | 2, ⟨e0, e1, e2, e3, x2, x3⟩ =>
    obtain ⟨k0, k1, k2, k3, k4⟩ := own_lu1 h1 h0 d0 du hp0 bu b1 b0
    have hc := own_cmp0 (DY.of_int k0) (Or.inl rfl)
    obtain ⟨rfl, x2⟩ := x2
    obtain ⟨rfl, x3⟩ := x3
    rcases Decidable.em (cmpValue (FP.dcmp (FP.ddiv (F.2.getD 7 0) (ds.getD 0 0)) 0) .l = 0) with hq | hq
    · have hz := hc.mp hq
      have ds_ := h0
      obtain ⟨Y, y0, y1, y2, y3, y4, y5, y6, y7⟩ := own_lu2 ds_ k0 d1 dl hp1 bl (by omega) (by omega)
      have hY : q1 * Y = 2 * (W0 - 0 * (q0 * W1)) := by rw [y0]; simp
      have hs := own_sol (l := 0) hp0 hY
      have bb : (0 * Y).natAbs ≤ 1 * 8796093022208 := own_nab bl y1
      have yk : ∃ Y0 Y1 : Int, DY Y0 1 _ ∧ DY Y1 1 _ ∧ Y0.natAbs ≤ 35184372088832 ∧ Y1.natAbs ≤ 35184372088832 ∧ m0.toInt * Y0 + m2.toInt * Y1 = 2 * W0 ∧ m1.toInt * Y0 + m3.toInt * Y1 = 2 * W1 := ⟨Y, 2 * (q0 * W1) - 0 * Y, y3, (y7.cast (by simp) rfl), by omega, by omega, by simp only [e0, e1, e2, e3]; first | exact hs.2 | (rw [Int.add_comm]; exact hs.2), by simp only [e0, e1, e2, e3]; first | exact hs.1 | (rw [Int.add_comm]; exact hs.1)⟩
      rcases Decidable.em (cmpValue (FP.dcmp (FP.ddiv (F.2.getD 6 0) (ds.getD 1 0)) 0) .l = 0) with hw2 | hw2
      · exact ⟨UU _ _ _ _ _ 0 0 _ _ 0 0 _, yk, fun V => own_u_2_11 hw p0 e v0 v1 m0 m1 m2 m3 s0 s1 _ _ ds T1 T2 F V _ 0 0 _ _ 0 0 _ ⟨rfl, (nnD k0)⟩ ⟨rfl, y2.nn⟩ ⟨rfl, y3.nn⟩ ⟨rfl, y7.nn⟩ rfl rfl hq hw2 x2 x3 v⟩
      · exact ⟨UU _ _ _ _ _ 0 0 _ _ 0 0 _, yk, fun V => own_u_2_10 hw p0 e v0 v1 m0 m1 m2 m3 s0 s1 _ _ ds T1 T2 F V _ 0 0 _ _ 0 0 _ ⟨rfl, (nnD k0)⟩ ⟨rfl, y2.nn⟩ ⟨rfl, y3.nn⟩ ⟨rfl, y7.nn⟩ rfl rfl hq hw2 x2 x3 v⟩
    · have hz := hq
      have ds_ := h0
      obtain ⟨Y, y0, y1, y2, y3, y4, y5, y6, y7⟩ := own_lu2 ds_ k0 d1 dl hp1 bl (by omega) (by omega)
      have hY : q1 * Y = 2 * (W0 - 0 * (q0 * W1)) := by rw [y0]; simp
      have hs := own_sol (l := 0) hp0 hY
      have bb : (0 * Y).natAbs ≤ 1 * 8796093022208 := own_nab bl y1
      have yk : ∃ Y0 Y1 : Int, DY Y0 1 _ ∧ DY Y1 1 _ ∧ Y0.natAbs ≤ 35184372088832 ∧ Y1.natAbs ≤ 35184372088832 ∧ m0.toInt * Y0 + m2.toInt * Y1 = 2 * W0 ∧ m1.toInt * Y0 + m3.toInt * Y1 = 2 * W1 := ⟨Y, 2 * (q0 * W1) - 0 * Y, y3, (y7.cast (by simp) rfl), by omega, by omega, by simp only [e0, e1, e2, e3]; first | exact hs.2 | (rw [Int.add_comm]; exact hs.2), by simp only [e0, e1, e2, e3]; first | exact hs.1 | (rw [Int.add_comm]; exact hs.1)⟩
      rcases Decidable.em (cmpValue (FP.dcmp (FP.ddiv (F.2.getD 6 0) (ds.getD 1 0)) 0) .l = 0) with hw2 | hw2
      · exact ⟨UU _ _ _ _ _ 0 0 _ _ 0 0 _, yk, fun V => own_u_2_01 hw p0 e v0 v1 m0 m1 m2 m3 s0 s1 _ _ ds T1 T2 F V _ 0 0 _ _ 0 0 _ ⟨rfl, (nnD k0)⟩ ⟨rfl, y2.nn⟩ ⟨rfl, y3.nn⟩ ⟨rfl, y7.nn⟩ rfl rfl hq hw2 x2 x3 v⟩
      · exact ⟨UU _ _ _ _ _ 0 0 _ _ 0 0 _, yk, fun V => own_u_2_00 hw p0 e v0 v1 m0 m1 m2 m3 s0 s1 _ _ ds T1 T2 F V _ 0 0 _ _ 0 0 _ ⟨rfl, (nnD k0)⟩ ⟨rfl, y2.nn⟩ ⟨rfl, y3.nn⟩ ⟨rfl, y7.nn⟩ rfl rfl hq hw2 x2 x3 v⟩
  | 3, ⟨e0, e1, e2, e3, x2, x3⟩ =>
    obtain ⟨k0, k1, k2, k3, k4⟩ := own_lu1 h1 h0 d0 du hp0 bu b1 b0
    have hc := own_cmp0 (DY.of_int k0) (Or.inl rfl)
    obtain ⟨rfl, x3⟩ := x3
    rcases Decidable.em (cmpValue (FP.dcmp (FP.ddiv (F.2.getD 7 0) (ds.getD 0 0)) 0) .l = 0) with hq | hq
    · have hz := hc.mp hq
      have ds_ := h0
      obtain ⟨Y, y0, y1, y2, y3, y4, y5, y6, y7⟩ := own_lu2 ds_ k0 d1 dl hp1 bl (by omega) (by omega)
      have hY : q1 * Y = 2 * (W0 - u * (q0 * W1)) := by rw [y0]; rw [hz]; simp
      have hs := own_sol (l := 0) hp0 hY
      have bb : (0 * Y).natAbs ≤ 1 * 8796093022208 := own_nab bl y1
      have yk : ∃ Y0 Y1 : Int, DY Y0 1 _ ∧ DY Y1 1 _ ∧ Y0.natAbs ≤ 35184372088832 ∧ Y1.natAbs ≤ 35184372088832 ∧ m0.toInt * Y0 + m2.toInt * Y1 = 2 * W0 ∧ m1.toInt * Y0 + m3.toInt * Y1 = 2 * W1 := ⟨Y, 2 * (q0 * W1) - 0 * Y, y3, (y7.cast (by simp) rfl), by omega, by omega, by simp only [e0, e1, e2, e3]; first | exact hs.2 | (rw [Int.add_comm]; exact hs.2), by simp only [e0, e1, e2, e3]; first | exact hs.1 | (rw [Int.add_comm]; exact hs.1)⟩
      rcases Decidable.em (cmpValue (FP.dcmp (FP.ddiv (F.2.getD 6 0) (ds.getD 1 0)) 0) .l = 0) with hw2 | hw2
      · exact ⟨UU _ _ _ _ _ 0 0 _ _ 0 0 _, yk, fun V => own_u_3_11 hw p0 e v0 v1 m0 m1 m2 m3 s0 s1 _ _ ds T1 T2 F V _ 0 0 _ _ 0 0 _ ⟨rfl, (nnD k0)⟩ ⟨rfl, y2.nn⟩ ⟨rfl, y3.nn⟩ ⟨rfl, y7.nn⟩ rfl rfl hq hw2 x3 v⟩
      · exact ⟨UU _ _ _ _ _ 0 0 _ _ 0 0 _, yk, fun V => own_u_3_10 hw p0 e v0 v1 m0 m1 m2 m3 s0 s1 _ _ ds T1 T2 F V _ 0 0 _ _ 0 0 _ ⟨rfl, (nnD k0)⟩ ⟨rfl, y2.nn⟩ ⟨rfl, y3.nn⟩ ⟨rfl, y7.nn⟩ rfl rfl hq hw2 x3 v⟩
    · have hz := hq
      have ds_ := k2
      obtain ⟨Y, y0, y1, y2, y3, y4, y5, y6, y7⟩ := own_lu2 ds_ k0 d1 dl hp1 bl (by omega) (by omega)
      have hY : q1 * Y = 2 * (W0 - u * (q0 * W1)) := by rw [y0]
      have hs := own_sol (l := 0) hp0 hY
      have bb : (0 * Y).natAbs ≤ 1 * 8796093022208 := own_nab bl y1
      have yk : ∃ Y0 Y1 : Int, DY Y0 1 _ ∧ DY Y1 1 _ ∧ Y0.natAbs ≤ 35184372088832 ∧ Y1.natAbs ≤ 35184372088832 ∧ m0.toInt * Y0 + m2.toInt * Y1 = 2 * W0 ∧ m1.toInt * Y0 + m3.toInt * Y1 = 2 * W1 := ⟨Y, 2 * (q0 * W1) - 0 * Y, y3, (y7.cast (by simp) rfl), by omega, by omega, by simp only [e0, e1, e2, e3]; first | exact hs.2 | (rw [Int.add_comm]; exact hs.2), by simp only [e0, e1, e2, e3]; first | exact hs.1 | (rw [Int.add_comm]; exact hs.1)⟩
      rcases Decidable.em (cmpValue (FP.dcmp (FP.ddiv (FP.dsub (F.2.getD 6 0) (FP.dmul (ds.getD 2 0) (FP.ddiv (F.2.getD 7 0) (ds.getD 0 0)))) (ds.getD 1 0)) 0) .l = 0) with hw2 | hw2
      · exact ⟨UU _ _ _ _ _ _ _ _ _ 0 0 _, yk, fun V => own_u_3_01 hw p0 e v0 v1 m0 m1 m2 m3 s0 s1 _ _ ds T1 T2 F V _ _ _ _ _ 0 0 _ ⟨rfl, (nnD k0)⟩ ⟨rfl, (nnD k1)⟩ ⟨rfl, (nnD k2)⟩ ⟨rfl, y2.nn⟩ ⟨rfl, y3.nn⟩ ⟨rfl, y7.nn⟩ rfl rfl hq hw2 x3 v⟩
      · exact ⟨UU _ _ _ _ _ _ _ _ _ 0 0 _, yk, fun V => own_u_3_00 hw p0 e v0 v1 m0 m1 m2 m3 s0 s1 _ _ ds T1 T2 F V _ _ _ _ _ 0 0 _ ⟨rfl, (nnD k0)⟩ ⟨rfl, (nnD k1)⟩ ⟨rfl, (nnD k2)⟩ ⟨rfl, y2.nn⟩ ⟨rfl, y3.nn⟩ ⟨rfl, y7.nn⟩ rfl rfl hq hw2 x3 v⟩
  | 4, ⟨e0, e1, e2, e3, x2, x3⟩ =>
    obtain ⟨k0, k1, k2, k3, k4⟩ := own_lu1 h0 h1 d0 du hp0 bu b0 b1
    have hc := own_cmp0 (DY.of_int k0) (Or.inl rfl)
    obtain ⟨rfl, x3⟩ := x3
    rcases Decidable.em (cmpValue (FP.dcmp (FP.ddiv (F.2.getD 6 0) (ds.getD 0 0)) 0) .l = 0) with hq | hq
    · have hz := hc.mp hq
      have ds_ := h1
      obtain ⟨Y, y0, y1, y2, y3, y4, y5, y6, y7⟩ := own_lu2 ds_ k0 d1 dl hp1 bl (by omega) (by omega)
      have hY : q1 * Y = 2 * (W1 - u * (q0 * W0)) := by rw [y0]; rw [hz]; simp
      have hs := own_sol (l := 0) hp0 hY
      have bb : (0 * Y).natAbs ≤ 1 * 8796093022208 := own_nab bl y1
      have yk : ∃ Y0 Y1 : Int, DY Y0 1 _ ∧ DY Y1 1 _ ∧ Y0.natAbs ≤ 35184372088832 ∧ Y1.natAbs ≤ 35184372088832 ∧ m0.toInt * Y0 + m2.toInt * Y1 = 2 * W0 ∧ m1.toInt * Y0 + m3.toInt * Y1 = 2 * W1 := ⟨2 * (q0 * W0) - 0 * Y, Y, (y7.cast (by simp) rfl), y3, by omega, by omega, by simp only [e0, e1, e2, e3]; first | exact hs.1 | (rw [Int.add_comm]; exact hs.1), by simp only [e0, e1, e2, e3]; first | exact hs.2 | (rw [Int.add_comm]; exact hs.2)⟩
      rcases Decidable.em (cmpValue (FP.dcmp (FP.ddiv (F.2.getD 7 0) (ds.getD 1 0)) 0) .l = 0) with hw2 | hw2
      · exact ⟨UU _ _ _ _ _ 0 0 _ _ 0 0 _, yk, fun V => own_u_4_11 hw p0 e v0 v1 m0 m1 m2 m3 s0 s1 _ _ ds T1 T2 F V _ 0 0 _ _ 0 0 _ ⟨rfl, (nnD k0)⟩ ⟨rfl, y2.nn⟩ ⟨rfl, y3.nn⟩ ⟨rfl, y7.nn⟩ rfl rfl hq hw2 x3 v⟩
      · exact ⟨UU _ _ _ _ _ 0 0 _ _ 0 0 _, yk, fun V => own_u_4_10 hw p0 e v0 v1 m0 m1 m2 m3 s0 s1 _ _ ds T1 T2 F V _ 0 0 _ _ 0 0 _ ⟨rfl, (nnD k0)⟩ ⟨rfl, y2.nn⟩ ⟨rfl, y3.nn⟩ ⟨rfl, y7.nn⟩ rfl rfl hq hw2 x3 v⟩
    · have hz := hq
      have ds_ := k2
      obtain ⟨Y, y0, y1, y2, y3, y4, y5, y6, y7⟩ := own_lu2 ds_ k0 d1 dl hp1 bl (by omega) (by omega)
      have hY : q1 * Y = 2 * (W1 - u * (q0 * W0)) := by rw [y0]
      have hs := own_sol (l := 0) hp0 hY
      have bb : (0 * Y).natAbs ≤ 1 * 8796093022208 := own_nab bl y1
      have yk : ∃ Y0 Y1 : Int, DY Y0 1 _ ∧ DY Y1 1 _ ∧ Y0.natAbs ≤ 35184372088832 ∧ Y1.natAbs ≤ 35184372088832 ∧ m0.toInt * Y0 + m2.toInt * Y1 = 2 * W0 ∧ m1.toInt * Y0 + m3.toInt * Y1 = 2 * W1 := ⟨2 * (q0 * W0) - 0 * Y, Y, (y7.cast (by simp) rfl), y3, by omega, by omega, by simp only [e0, e1, e2, e3]; first | exact hs.1 | (rw [Int.add_comm]; exact hs.1), by simp only [e0, e1, e2, e3]; first | exact hs.2 | (rw [Int.add_comm]; exact hs.2)⟩
      rcases Decidable.em (cmpValue (FP.dcmp (FP.ddiv (FP.dsub (F.2.getD 7 0) (FP.dmul (ds.getD 2 0) (FP.ddiv (F.2.getD 6 0) (ds.getD 0 0)))) (ds.getD 1 0)) 0) .l = 0) with hw2 | hw2
      · exact ⟨UU _ _ _ _ _ _ _ _ _ 0 0 _, yk, fun V => own_u_4_01 hw p0 e v0 v1 m0 m1 m2 m3 s0 s1 _ _ ds T1 T2 F V _ _ _ _ _ 0 0 _ ⟨rfl, (nnD k0)⟩ ⟨rfl, (nnD k1)⟩ ⟨rfl, (nnD k2)⟩ ⟨rfl, y2.nn⟩ ⟨rfl, y3.nn⟩ ⟨rfl, y7.nn⟩ rfl rfl hq hw2 x3 v⟩
      · exact ⟨UU _ _ _ _ _ _ _ _ _ 0 0 _, yk, fun V => own_u_4_00 hw p0 e v0 v1 m0 m1 m2 m3 s0 s1 _ _ ds T1 T2 F V _ _ _ _ _ 0 0 _ ⟨rfl, (nnD k0)⟩ ⟨rfl, (nnD k1)⟩ ⟨rfl, (nnD k2)⟩ ⟨rfl, y2.nn⟩ ⟨rfl, y3.nn⟩ ⟨rfl, y7.nn⟩ rfl rfl hq hw2 x3 v⟩
  | 5, ⟨e0, e1, e2, e3, x2, x3⟩ =>
    obtain ⟨k0, k1, k2, k3, k4⟩ := own_lu1 h1 h0 d0 du hp0 bu b1 b0
    have hc := own_cmp0 (DY.of_int k0) (Or.inl rfl)
    obtain ⟨rfl, x3⟩ := x3
    rcases Decidable.em (cmpValue (FP.dcmp (FP.ddiv (F.2.getD 7 0) (ds.getD 0 0)) 0) .l = 0) with hq | hq
    · have hz := hc.mp hq
      have ds_ := h0
      obtain ⟨Y, y0, y1, y2, y3, y4, y5, y6, y7⟩ := own_lu2 ds_ k0 d1 dl hp1 bl (by omega) (by omega)
      have hY : q1 * Y = 2 * (W0 - u * (q0 * W1)) := by rw [y0]; rw [hz]; simp
      have hs := own_sol (l := 0) hp0 hY
      have bb : (0 * Y).natAbs ≤ 1 * 8796093022208 := own_nab bl y1
      have yk : ∃ Y0 Y1 : Int, DY Y0 1 _ ∧ DY Y1 1 _ ∧ Y0.natAbs ≤ 35184372088832 ∧ Y1.natAbs ≤ 35184372088832 ∧ m0.toInt * Y0 + m2.toInt * Y1 = 2 * W0 ∧ m1.toInt * Y0 + m3.toInt * Y1 = 2 * W1 := ⟨2 * (q0 * W1) - 0 * Y, Y, (y7.cast (by simp) rfl), y3, by omega, by omega, by simp only [e0, e1, e2, e3]; first | exact hs.2 | (rw [Int.add_comm]; exact hs.2), by simp only [e0, e1, e2, e3]; first | exact hs.1 | (rw [Int.add_comm]; exact hs.1)⟩
      rcases Decidable.em (cmpValue (FP.dcmp (FP.ddiv (F.2.getD 6 0) (ds.getD 1 0)) 0) .l = 0) with hw2 | hw2
      · exact ⟨UU _ _ _ _ _ 0 0 _ _ 0 0 _, yk, fun V => own_u_5_11 hw p0 e v0 v1 m0 m1 m2 m3 s0 s1 _ _ ds T1 T2 F V _ 0 0 _ _ 0 0 _ ⟨rfl, (nnD k0)⟩ ⟨rfl, y2.nn⟩ ⟨rfl, y3.nn⟩ ⟨rfl, y7.nn⟩ rfl rfl hq hw2 x3 v⟩
      · exact ⟨UU _ _ _ _ _ 0 0 _ _ 0 0 _, yk, fun V => own_u_5_10 hw p0 e v0 v1 m0 m1 m2 m3 s0 s1 _ _ ds T1 T2 F V _ 0 0 _ _ 0 0 _ ⟨rfl, (nnD k0)⟩ ⟨rfl, y2.nn⟩ ⟨rfl, y3.nn⟩ ⟨rfl, y7.nn⟩ rfl rfl hq hw2 x3 v⟩
    · have hz := hq
      have ds_ := k2
      obtain ⟨Y, y0, y1, y2, y3, y4, y5, y6, y7⟩ := own_lu2 ds_ k0 d1 dl hp1 bl (by omega) (by omega)
      have hY : q1 * Y = 2 * (W0 - u * (q0 * W1)) := by rw [y0]
      have hs := own_sol (l := 0) hp0 hY
      have bb : (0 * Y).natAbs ≤ 1 * 8796093022208 := own_nab bl y1
      have yk : ∃ Y0 Y1 : Int, DY Y0 1 _ ∧ DY Y1 1 _ ∧ Y0.natAbs ≤ 35184372088832 ∧ Y1.natAbs ≤ 35184372088832 ∧ m0.toInt * Y0 + m2.toInt * Y1 = 2 * W0 ∧ m1.toInt * Y0 + m3.toInt * Y1 = 2 * W1 := ⟨2 * (q0 * W1) - 0 * Y, Y, (y7.cast (by simp) rfl), y3, by omega, by omega, by simp only [e0, e1, e2, e3]; first | exact hs.2 | (rw [Int.add_comm]; exact hs.2), by simp only [e0, e1, e2, e3]; first | exact hs.1 | (rw [Int.add_comm]; exact hs.1)⟩
      rcases Decidable.em (cmpValue (FP.dcmp (FP.ddiv (FP.dsub (F.2.getD 6 0) (FP.dmul (ds.getD 2 0) (FP.ddiv (F.2.getD 7 0) (ds.getD 0 0)))) (ds.getD 1 0)) 0) .l = 0) with hw2 | hw2
      · exact ⟨UU _ _ _ _ _ _ _ _ _ 0 0 _, yk, fun V => own_u_5_01 hw p0 e v0 v1 m0 m1 m2 m3 s0 s1 _ _ ds T1 T2 F V _ _ _ _ _ 0 0 _ ⟨rfl, (nnD k0)⟩ ⟨rfl, (nnD k1)⟩ ⟨rfl, (nnD k2)⟩ ⟨rfl, y2.nn⟩ ⟨rfl, y3.nn⟩ ⟨rfl, y7.nn⟩ rfl rfl hq hw2 x3 v⟩
      · exact ⟨UU _ _ _ _ _ _ _ _ _ 0 0 _, yk, fun V => own_u_5_00 hw p0 e v0 v1 m0 m1 m2 m3 s0 s1 _ _ ds T1 T2 F V _ _ _ _ _ 0 0 _ ⟨rfl, (nnD k0)⟩ ⟨rfl, (nnD k1)⟩ ⟨rfl, (nnD k2)⟩ ⟨rfl, y2.nn⟩ ⟨rfl, y3.nn⟩ ⟨rfl, y7.nn⟩ rfl rfl hq hw2 x3 v⟩
  | 6, ⟨e0, e1, e2, e3, x2, x3⟩ =>
    obtain ⟨k0, k1, k2, k3, k4⟩ := own_lu1 h1 h0 d0 du hp0 bu b1 b0
    have hc := own_cmp0 (DY.of_int k0) (Or.inl rfl)
    rcases Decidable.em (cmpValue (FP.dcmp (FP.ddiv (F.2.getD 7 0) (ds.getD 0 0)) 0) .l = 0) with hq | hq
    · have hz := hc.mp hq
      have ds_ := h0
      obtain ⟨Y, y0, y1, y2, y3, y4, y5, y6, y7⟩ := own_lu2 ds_ k0 d1 dl hp1 bl (by omega) (by omega)
      have hY : q1 * Y = 2 * (W0 - u * (q0 * W1)) := by rw [y0]; rw [hz]; simp
      have hs := own_sol (l := l') hp0 hY
      have bb : (l' * Y).natAbs ≤ 1 * 8796093022208 := own_nab bl y1
      have yk : ∃ Y0 Y1 : Int, DY Y0 1 _ ∧ DY Y1 1 _ ∧ Y0.natAbs ≤ 35184372088832 ∧ Y1.natAbs ≤ 35184372088832 ∧ m0.toInt * Y0 + m2.toInt * Y1 = 2 * W0 ∧ m1.toInt * Y0 + m3.toInt * Y1 = 2 * W1 := ⟨2 * (q0 * W1) - l' * Y, Y, y6, y3, by omega, by omega, by simp only [e0, e1, e2, e3]; first | exact hs.2 | (rw [Int.add_comm]; exact hs.2), by simp only [e0, e1, e2, e3]; first | exact hs.1 | (rw [Int.add_comm]; exact hs.1)⟩
      rcases Decidable.em (cmpValue (FP.dcmp (FP.ddiv (F.2.getD 6 0) (ds.getD 1 0)) 0) .l = 0) with hw2 | hw2
      · exact ⟨UU _ _ _ _ _ 0 0 _ _ _ _ _, yk, fun V => own_u_6_11 hw p0 e v0 v1 m0 m1 m2 m3 s0 s1 _ _ ds T1 T2 F V _ 0 0 _ _ _ _ _ ⟨rfl, (nnD k0)⟩ ⟨rfl, y2.nn⟩ ⟨rfl, y3.nn⟩ ⟨rfl, y4.nn⟩ ⟨rfl, y5.nn⟩ ⟨rfl, y6.nn⟩ rfl rfl hq hw2 v⟩
      · exact ⟨UU _ _ _ _ _ 0 0 _ _ _ _ _, yk, fun V => own_u_6_10 hw p0 e v0 v1 m0 m1 m2 m3 s0 s1 _ _ ds T1 T2 F V _ 0 0 _ _ _ _ _ ⟨rfl, (nnD k0)⟩ ⟨rfl, y2.nn⟩ ⟨rfl, y3.nn⟩ ⟨rfl, y4.nn⟩ ⟨rfl, y5.nn⟩ ⟨rfl, y6.nn⟩ rfl rfl hq hw2 v⟩
    · have hz := hq
      have ds_ := k2
      obtain ⟨Y, y0, y1, y2, y3, y4, y5, y6, y7⟩ := own_lu2 ds_ k0 d1 dl hp1 bl (by omega) (by omega)
      have hY : q1 * Y = 2 * (W0 - u * (q0 * W1)) := by rw [y0]
      have hs := own_sol (l := l') hp0 hY
      have bb : (l' * Y).natAbs ≤ 1 * 8796093022208 := own_nab bl y1
      have yk : ∃ Y0 Y1 : Int, DY Y0 1 _ ∧ DY Y1 1 _ ∧ Y0.natAbs ≤ 35184372088832 ∧ Y1.natAbs ≤ 35184372088832 ∧ m0.toInt * Y0 + m2.toInt * Y1 = 2 * W0 ∧ m1.toInt * Y0 + m3.toInt * Y1 = 2 * W1 := ⟨2 * (q0 * W1) - l' * Y, Y, y6, y3, by omega, by omega, by simp only [e0, e1, e2, e3]; first | exact hs.2 | (rw [Int.add_comm]; exact hs.2), by simp only [e0, e1, e2, e3]; first | exact hs.1 | (rw [Int.add_comm]; exact hs.1)⟩
      rcases Decidable.em (cmpValue (FP.dcmp (FP.ddiv (FP.dsub (F.2.getD 6 0) (FP.dmul (ds.getD 2 0) (FP.ddiv (F.2.getD 7 0) (ds.getD 0 0)))) (ds.getD 1 0)) 0) .l = 0) with hw2 | hw2
      · exact ⟨UU _ _ _ _ _ _ _ _ _ _ _ _, yk, fun V => own_u_6_01 hw p0 e v0 v1 m0 m1 m2 m3 s0 s1 _ _ ds T1 T2 F V _ _ _ _ _ _ _ _ ⟨rfl, (nnD k0)⟩ ⟨rfl, (nnD k1)⟩ ⟨rfl, (nnD k2)⟩ ⟨rfl, y2.nn⟩ ⟨rfl, y3.nn⟩ ⟨rfl, y4.nn⟩ ⟨rfl, y5.nn⟩ ⟨rfl, y6.nn⟩ rfl rfl hq hw2 v⟩
      · exact ⟨UU _ _ _ _ _ _ _ _ _ _ _ _, yk, fun V => own_u_6_00 hw p0 e v0 v1 m0 m1 m2 m3 s0 s1 _ _ ds T1 T2 F V _ _ _ _ _ _ _ _ ⟨rfl, (nnD k0)⟩ ⟨rfl, (nnD k1)⟩ ⟨rfl, (nnD k2)⟩ ⟨rfl, y2.nn⟩ ⟨rfl, y3.nn⟩ ⟨rfl, y4.nn⟩ ⟨rfl, y5.nn⟩ ⟨rfl, y6.nn⟩ rfl rfl hq hw2 v⟩
  | 7, ⟨e0, e1, e2, e3, x2, x3⟩ =>
    obtain ⟨k0, k1, k2, k3, k4⟩ := own_lu1 h1 h0 d0 du hp0 bu b1 b0
    have hc := own_cmp0 (DY.of_int k0) (Or.inl rfl)
    rcases Decidable.em (cmpValue (FP.dcmp (FP.ddiv (F.2.getD 7 0) (ds.getD 0 0)) 0) .l = 0) with hq | hq
    · have hz := hc.mp hq
      have ds_ := h0
      obtain ⟨Y, y0, y1, y2, y3, y4, y5, y6, y7⟩ := own_lu2 ds_ k0 d1 dl hp1 bl (by omega) (by omega)
      have hY : q1 * Y = 2 * (W0 - u * (q0 * W1)) := by rw [y0]; rw [hz]; simp
      have hs := own_sol (l := l') hp0 hY
      have bb : (l' * Y).natAbs ≤ 1 * 8796093022208 := own_nab bl y1
      have yk : ∃ Y0 Y1 : Int, DY Y0 1 _ ∧ DY Y1 1 _ ∧ Y0.natAbs ≤ 35184372088832 ∧ Y1.natAbs ≤ 35184372088832 ∧ m0.toInt * Y0 + m2.toInt * Y1 = 2 * W0 ∧ m1.toInt * Y0 + m3.toInt * Y1 = 2 * W1 := ⟨Y, 2 * (q0 * W1) - l' * Y, y3, y6, by omega, by omega, by simp only [e0, e1, e2, e3]; first | exact hs.2 | (rw [Int.add_comm]; exact hs.2), by simp only [e0, e1, e2, e3]; first | exact hs.1 | (rw [Int.add_comm]; exact hs.1)⟩
      rcases Decidable.em (cmpValue (FP.dcmp (FP.ddiv (F.2.getD 6 0) (ds.getD 1 0)) 0) .l = 0) with hw2 | hw2
      · exact ⟨UU _ _ _ _ _ 0 0 _ _ _ _ _, yk, fun V => own_u_7_11 hw p0 e v0 v1 m0 m1 m2 m3 s0 s1 _ _ ds T1 T2 F V _ 0 0 _ _ _ _ _ ⟨rfl, (nnD k0)⟩ ⟨rfl, y2.nn⟩ ⟨rfl, y3.nn⟩ ⟨rfl, y4.nn⟩ ⟨rfl, y5.nn⟩ ⟨rfl, y6.nn⟩ rfl rfl hq hw2 v⟩
      · exact ⟨UU _ _ _ _ _ 0 0 _ _ _ _ _, yk, fun V => own_u_7_10 hw p0 e v0 v1 m0 m1 m2 m3 s0 s1 _ _ ds T1 T2 F V _ 0 0 _ _ _ _ _ ⟨rfl, (nnD k0)⟩ ⟨rfl, y2.nn⟩ ⟨rfl, y3.nn⟩ ⟨rfl, y4.nn⟩ ⟨rfl, y5.nn⟩ ⟨rfl, y6.nn⟩ rfl rfl hq hw2 v⟩
    · have hz := hq
      have ds_ := k2
      obtain ⟨Y, y0, y1, y2, y3, y4, y5, y6, y7⟩ := own_lu2 ds_ k0 d1 dl hp1 bl (by omega) (by omega)
      have hY : q1 * Y = 2 * (W0 - u * (q0 * W1)) := by rw [y0]
      have hs := own_sol (l := l') hp0 hY
      have bb : (l' * Y).natAbs ≤ 1 * 8796093022208 := own_nab bl y1
      have yk : ∃ Y0 Y1 : Int, DY Y0 1 _ ∧ DY Y1 1 _ ∧ Y0.natAbs ≤ 35184372088832 ∧ Y1.natAbs ≤ 35184372088832 ∧ m0.toInt * Y0 + m2.toInt * Y1 = 2 * W0 ∧ m1.toInt * Y0 + m3.toInt * Y1 = 2 * W1 := ⟨Y, 2 * (q0 * W1) - l' * Y, y3, y6, by omega, by omega, by simp only [e0, e1, e2, e3]; first | exact hs.2 | (rw [Int.add_comm]; exact hs.2), by simp only [e0, e1, e2, e3]; first | exact hs.1 | (rw [Int.add_comm]; exact hs.1)⟩
      rcases Decidable.em (cmpValue (FP.dcmp (FP.ddiv (FP.dsub (F.2.getD 6 0) (FP.dmul (ds.getD 2 0) (FP.ddiv (F.2.getD 7 0) (ds.getD 0 0)))) (ds.getD 1 0)) 0) .l = 0) with hw2 | hw2
      · exact ⟨UU _ _ _ _ _ _ _ _ _ _ _ _, yk, fun V => own_u_7_01 hw p0 e v0 v1 m0 m1 m2 m3 s0 s1 _ _ ds T1 T2 F V _ _ _ _ _ _ _ _ ⟨rfl, (nnD k0)⟩ ⟨rfl, (nnD k1)⟩ ⟨rfl, (nnD k2)⟩ ⟨rfl, y2.nn⟩ ⟨rfl, y3.nn⟩ ⟨rfl, y4.nn⟩ ⟨rfl, y5.nn⟩ ⟨rfl, y6.nn⟩ rfl rfl hq hw2 v⟩
      · exact ⟨UU _ _ _ _ _ _ _ _ _ _ _ _, yk, fun V => own_u_7_00 hw p0 e v0 v1 m0 m1 m2 m3 s0 s1 _ _ ds T1 T2 F V _ _ _ _ _ _ _ _ ⟨rfl, (nnD k0)⟩ ⟨rfl, (nnD k1)⟩ ⟨rfl, (nnD k2)⟩ ⟨rfl, y2.nn⟩ ⟨rfl, y3.nn⟩ ⟨rfl, y4.nn⟩ ⟨rfl, y5.nn⟩ ⟨rfl, y6.nn⟩ rfl rfl hq hw2 v⟩
  | n + 8, hr => exact hr.elim
theorem own_fin' (hw : HWt a0 Z) (p0 e v0 v1 m0 m1 m2 m3 s0 s1 : Int32) (lu : List Int32) (ds : List UInt64) (f0 f1 f2 f3 : Int32) (fi : List Int32) (fd : List UInt64) (U T1 T2 : Gp) (n1 : NaNo (FP.dmul (FP.i2d f0) (U.2.getD 0 0))) (n2 : NaNo (FP.dmul (FP.i2d f2) (U.2.getD 1 0))) (n3 : NaNo (FP.dadd (FP.dmul (FP.i2d f0) (U.2.getD 0 0)) (FP.dmul (FP.i2d f2) (U.2.getD 1 0)))) (n4 : NaNo (FP.dmul (FP.i2d f1) (U.2.getD 0 0))) (n5 : NaNo (FP.dmul (FP.i2d f3) (U.2.getD 1 0))) (n6 : NaNo (FP.dadd (FP.dmul (FP.i2d f1) (U.2.getD 0 0)) (FP.dmul (FP.i2d f3) (U.2.getD 1 0)))) (c1 : (cmpValue (FP.dcmp (FP.dadd (FP.dmul (FP.i2d f0) (U.2.getD 0 0)) (FP.dmul (FP.i2d f2) (U.2.getD 1 0))) (FP.i2d v0)) .l) = 0) (c2 : (cmpValue (FP.dcmp (FP.dadd (FP.dmul (FP.i2d f1) (U.2.getD 0 0)) (FP.dmul (FP.i2d f3) (U.2.getD 1 0))) (FP.i2d v1)) .l) = 0) : SL l Z (mkA bs (SG p0 e v0 v1 m0 m1 m2 m3 s0 s1 lu ds) T1 T2 (f0 :: f1 :: f2 :: f3 :: fi, fd) U ([(cmpValue (FP.dcmp (FP.dadd (FP.dmul (FP.i2d f0) (U.2.getD 0 0)) (FP.dmul (FP.i2d f2) (U.2.getD 1 0))) (FP.i2d v0)) .l), (cmpValue (FP.dcmp (FP.dadd (FP.dmul (FP.i2d f1) (U.2.getD 0 0)) (FP.dmul (FP.i2d f3) (U.2.getD 1 0))) (FP.i2d v1)) .l)], [(FP.i2d f0), (FP.dmul (FP.i2d f0) (U.2.getD 0 0)), (FP.i2d f2), (FP.dmul (FP.i2d f2) (U.2.getD 1 0)), (FP.dadd (FP.dmul (FP.i2d f0) (U.2.getD 0 0)) (FP.dmul (FP.i2d f2) (U.2.getD 1 0))), (FP.i2d f1), (FP.dmul (FP.i2d f1) (U.2.getD 0 0)), (FP.i2d f3), (FP.dmul (FP.i2d f3) (U.2.getD 1 0)), (FP.dadd (FP.dmul (FP.i2d f1) (U.2.getD 0 0)) (FP.dmul (FP.i2d f3) (U.2.getD 1 0)))])) bs 265 la_12 [] hp_32 68 762 348 la_24 [.int 1] hp_32 68 762 :=
  sgL hw mkA_ad ⟨mkA_c, by unfold tp_fin; exact allC (te10 rfl) <| allC (teF (by decide) n1 rfl) <| allC (te10 rfl) <| allC (teF (by decide) n2 rfl) <| allC (teF (by decide) n3 rfl) <| allC (te10 rfl) <| allC (te12 rfl) <| allC (te13z c1) <| allC (te10 rfl) <| allC (teF (by decide) n4 rfl) <| allC (te10 rfl) <| allC (teF (by decide) n5 rfl) <| allC (teF (by decide) n6 rfl) <| allC (te10 rfl) <| allC (te12 rfl) <| allC (te13z c2) <| allN⟩ (taN (by decide)) allN allN sg_fin
theorem own_call (hw : HWt a0 Z) {A : Den} {H : AH} {L : Array Slot} {L' : Array Slot} {vs : List Value} (hA : AdOk A 0 bs) (gi : H[11]? = some (6, vs)) (hH : H.length = 68) (X : ST l Z A bs 0 la_17 [] H 0 0 318 L' [] hp_32 0 0) (hL : L.size = maxLocals) : SL l Z A bs 262 L [.ref 10, .ref 9, .ref 11] H 68 762 265 L [] hp_32 68 762 :=
  Seg.callV (i := 11) (tl := [.ref 9, .ref 10]) (rest := []) (v := none) (rm := rm_33) hA k_6 (by decide) gi (fun h ws h1 h2 h3 h4 => met_seg (y := (⟨"com/example/foreshock/foreshock/planning/BasisFactorization", "solveTransposed", "([D[D)V"⟩ : MethodName)) (R := rm_33) (ret := none) (call := fun _ _ _ => none) (as := [.ref 11, .ref 9, .ref 10]) (rf := rV) (len := 1) (plainFor_of_name pn_2) X (ok_rV rfl (by decide +kernel)) rfl h ws h1 h2 h3 (fun i hi hwi => Or.inl (h4 i hi hwi))) (tW hw 261 rfl) (tW hw 262 rfl) (tW hw 264 rfl) (tW hw 263 rfl) (tW hw 20 rfl) (tW hw 265 rfl) (by decide) pd_7 rfl hL (by decide) (by decide) (by decide) (by decide) rfl rfl (by decide +kernel)
theorem own_last (hw : HWt a0 Z) (p0 e v0 v1 m0 m1 m2 m3 s0 s1 : Int32) (lu : List Int32) (ds : List UInt64) (f0 f1 f2 f3 : Int32) (fi : List Int32) (fd : List UInt64) (U : Gp) (T1 T2 : Gp) (bf0 : f0.toInt.natAbs ≤ 4) (bf1 : f1.toInt.natAbs ≤ 4) (bf2 : f2.toInt.natAbs ≤ 4) (bf3 : f3.toInt.natAbs ≤ 4) (hW : WOK (fd.getD 6 0) (fd.getD 7 0) v0.toInt v1.toInt m0.toInt m1.toInt m2.toInt m3.toInt f0.toInt f1.toInt f2.toInt f3.toInt) (hL : LUR lu ds m0.toInt m1.toInt m2.toInt m3.toInt) {H : AH} {v : Bool} {vs : List Value} (gi : H[11]? = some (6, vs)) (hH : H.length = 68)
    (X : ∀ U V, ST l Z (mkA bs (SG p0 e v0 v1 m0 m1 m2 m3 s0 s1 lu ds) T1 T2 (f0 :: f1 :: f2 :: f3 :: fi, fd) U V) bs 0 la_17 [] H 0 0 108 (if v then la_19 else la_18) [] hp_10 0 0) : ∃ U V L', SL l Z (mkA bs (SG p0 e v0 v1 m0 m1 m2 m3 s0 s1 lu ds) T1 T2 (f0 :: f1 :: f2 :: f3 :: fi, fd) U V) bs 262 la_12 [.ref 10, .ref 9, .ref 11] H 68 762 348 L' [.int 1] hp_32 68 762 := by
  obtain ⟨W0, W1, w0, w1, bw0, bw1, hE⟩ := hW
  have key : ∃ U : Gp, YOK (U.2.getD 0 0) (U.2.getD 1 0) W0 W1 m0.toInt m1.toInt m2.toInt m3.toInt ∧ ∀ V, ∃ L', ST l Z (mkA bs (SG p0 e v0 v1 m0 m1 m2 m3 s0 s1 lu ds) T1 T2 (f0 :: f1 :: f2 :: f3 :: fi, fd) U V) bs 0 la_17 [] H 0 0 318 L' [] hp_32 0 0 := by
    obtain ⟨U, h1, h2⟩ := own_lu hw p0 e v0 v1 m0 m1 m2 m3 s0 s1 lu ds T1 T2 (f0 :: f1 :: f2 :: f3 :: fi, fd) W0 W1 w0 w1 bw0 bw1 hL v
    refine ⟨U, h1, fun V => ?_⟩
    obtain ⟨L', h3⟩ := h2 V
    exact ⟨L', Seg.trans (X U V) h3⟩
  obtain ⟨U0, ⟨Y0, Y1, y0, y1, by0, by1, h0, h1⟩, hV⟩ := key
  obtain ⟨r0, r1⟩ := hE Y0 Y1 h0 h1
  have U1 : ∃ ui a b ud, U0 = (ui, a :: b :: ud) ∨ True := ⟨[], 0, 0, [], Or.inr trivial⟩
  obtain ⟨n1, n2, n3, c1⟩ := own_row (i2d_int f0) (i2d_int f2) y0 y1 (i2d_int v0) bf0 bf2 by0 by1 (own_v32 v0) r0
  obtain ⟨n4, n5, n6, c2⟩ := own_row (i2d_int f1) (i2d_int f3) y0 y1 (i2d_int v1) bf1 bf3 by0 by1 (own_v32 v1) r1
  obtain ⟨L', h3⟩ := hV ([(cmpValue (FP.dcmp (FP.dadd (FP.dmul (FP.i2d f0) (U0.2.getD 0 0)) (FP.dmul (FP.i2d f2) (U0.2.getD 1 0))) (FP.i2d v0)) .l), (cmpValue (FP.dcmp (FP.dadd (FP.dmul (FP.i2d f1) (U0.2.getD 0 0)) (FP.dmul (FP.i2d f3) (U0.2.getD 1 0))) (FP.i2d v1)) .l)], [(FP.i2d f0), (FP.dmul (FP.i2d f0) (U0.2.getD 0 0)), (FP.i2d f2), (FP.dmul (FP.i2d f2) (U0.2.getD 1 0)), (FP.dadd (FP.dmul (FP.i2d f0) (U0.2.getD 0 0)) (FP.dmul (FP.i2d f2) (U0.2.getD 1 0))), (FP.i2d f1), (FP.dmul (FP.i2d f1) (U0.2.getD 0 0)), (FP.i2d f3), (FP.dmul (FP.i2d f3) (U0.2.getD 1 0)), (FP.dadd (FP.dmul (FP.i2d f1) (U0.2.getD 0 0)) (FP.dmul (FP.i2d f3) (U0.2.getD 1 0)))])
  exact ⟨_, _, _, Seg.trans (own_call hw mkA_ad gi hH h3 rfl) (own_fin' hw p0 e v0 v1 m0 m1 m2 m3 s0 s1 lu ds f0 f1 f2 f3 fi fd U0 T1 T2 n1 n2 n3 n4 n5 n6 c1 c2)⟩
theorem own_n (e : Int32) : iop 23 e 3 = 0 ∨ iop 23 e 3 = 1 ∨ iop 23 e 3 = 2 ∨ iop 23 e 3 = 3 := by
  show e &&& 3 = 0 ∨ e &&& 3 = 1 ∨ e &&& 3 = 2 ∨ e &&& 3 = 3
  have h : (e &&& 3).toBitVec = 0#32 ∨ (e &&& 3).toBitVec = 1#32 ∨ (e &&& 3).toBitVec = 2#32 ∨ (e &&& 3).toBitVec = 3#32 := by
    show e.toBitVec &&& 3#32 = 0#32 ∨ e.toBitVec &&& 3#32 = 1#32 ∨ e.toBitVec &&& 3#32 = 2#32 ∨ e.toBitVec &&& 3#32 = 3#32
    generalize e.toBitVec = b
    have q : (b &&& 3#32).toNat = b.toNat % 4 := by rw [BitVec.toNat_and]; exact Nat.and_two_pow_sub_one_eq_mod _ 2
    have q2 : (b &&& 3#32).toNat = 0 ∨ (b &&& 3#32).toNat = 1 ∨ (b &&& 3#32).toNat = 2 ∨ (b &&& 3#32).toNat = 3 := by omega
    rcases q2 with q2 | q2 | q2 | q2
    · exact Or.inl (BitVec.eq_of_toNat_eq q2)
    · exact Or.inr (Or.inl (BitVec.eq_of_toNat_eq q2))
    · exact Or.inr (Or.inr (Or.inl (BitVec.eq_of_toNat_eq q2)))
    · exact Or.inr (Or.inr (Or.inr (BitVec.eq_of_toNat_eq q2)))
  rcases h with h | h | h | h
  · exact Or.inl (Int32.toBitVec_inj.mp h)
  · exact Or.inr (Or.inl (Int32.toBitVec_inj.mp h))
  · exact Or.inr (Or.inr (Or.inl (Int32.toBitVec_inj.mp h)))
  · exact Or.inr (Or.inr (Or.inr (Int32.toBitVec_inj.mp h)))
theorem own_chb {z : Bool} {ps oi : Int32} {od pd : UInt64} {m0 m1 m2 m3 a0 a1 a2 a3 : Int} {k : Nat} (h : CHG z ps oi od pd m0 m1 m2 m3 a0 a1 a2 a3) (h0 : m0.natAbs ≤ k) (h1 : m1.natAbs ≤ k) (h2 : m2.natAbs ≤ k) (h3 : m3.natAbs ≤ k) : a0.natAbs ≤ 2 * k ∧ a1.natAbs ≤ 2 * k ∧ a2.natAbs ≤ 2 * k ∧ a3.natAbs ≤ 2 * k := by
  obtain ⟨P, O, hP, -, hz1, hz0, hh⟩ := h
  have hO : O = 0 ∨ O = 1 ∨ O = -1 := by
    cases z
    · exact Or.inr (hz0 rfl).1
    · exact Or.inl (hz1 rfl)
  rcases hh with ⟨-, -, rfl, rfl, rfl, rfl⟩ | ⟨-, -, rfl, rfl, rfl, rfl⟩ <;> rcases hP with rfl | rfl <;> rcases hO with rfl | rfl | rfl <;> omega
theorem own_tail (hw : HWt a0 Z) (p0 e v0 v1 m0 m1 m2 m3 s0 s1 : Int32) (lu : List Int32) (ds : List UInt64) (hm0 : m0.toInt.natAbs ≤ 1) (hm1 : m1.toInt.natAbs ≤ 1) (hm2 : m2.toInt.natAbs ≤ 1) (hm3 : m3.toInt.natAbs ≤ 1) (hL : LUR lu ds m0.toInt m1.toInt m2.toInt m3.toInt) : ∃ T1 T2 F U V L', SL l Z (mkA bs (SG p0 e v0 v1 m0 m1 m2 m3 s0 s1 lu ds) T1 T2 F U V) bs 214 la_3 [] hp_0 68 762 348 L' [.int 1] hp_32 68 762 := by
  rcases own_n e with hn | hn | hn | hn
  · obtain ⟨U, V, L', X⟩ := own_last hw p0 e v0 v1 m0 m1 m2 m3 s0 s1 lu ds m0 m1 m2 m3 [] [0, 0, 0, 0, 0, 0, FP.i2d v0, FP.i2d v1] ([], []) ([0], []) ([], []) (by omega) (by omega) (by omega) (by omega) ⟨v0.toInt, v1.toInt, i2d_int v0, i2d_int v1, by have := own_v32 v0; omega, by have := own_v32 v1; omega, fun _ _ a b => ⟨a, b⟩⟩ hL (v := false) (H := hp_1) rfl rfl (fun U V => own_e0 hw p0 e v0 v1 m0 m1 m2 m3 s0 s1 lu ds ([0], []) ([], []) U V m0 m1 m2 m3 [])
    exact ⟨_, _, _, U, V, L', Seg.trans (own_na_0 hw p0 e v0 v1 m0 m1 m2 m3 s0 s1 lu ds [] [] _ _ U V hn) (Seg.trans (own_nb_0 hw p0 e v0 v1 m0 m1 m2 m3 s0 s1 lu ds [] [] [] _ _ U V) (Seg.trans (sgL hw mkA_ad ⟨mkA_c, allN⟩ (taN (by decide)) allN allN sg_lc) X))⟩
  · obtain ⟨z, c, k0, k1, k2, k3, t0, t1, oo, a0_, a1, a2, a3, ps, oi, od, pd, hC, X1⟩ := own_ca hw p0 e v0 v1 m0 m1 m2 m3 s0 s1 lu ds 1 (by omega) (by omega) (by omega) (by omega)
    obtain ⟨fi, fd, hW, X2⟩ := own_eta1 hw p0 e v0 v1 m0 m1 m2 m3 s0 s1 lu ds 1 c k0 k1 k2 k3 t0 t1 oo a0_ a1 a2 a3 ps oi od pd z hC
    obtain ⟨q0, q1, q2, q3⟩ := own_chb (k := 1) hC hm0 hm1 hm2 hm3
    obtain ⟨U, V, L', X⟩ := own_last hw p0 e v0 v1 m0 m1 m2 m3 s0 s1 lu ds a0_ a1 a2 a3 fi fd ([], []) (T1G 1 c k0 k1 k2 k3 t0 t1 oo a0_ a1 a2 a3 ps oi od pd) ([], []) (by omega) (by omega) (by omega) (by omega) hW hL (v := true) (H := GA1b z) (vs := _) (by cases z <;> rfl) (by cases z <;> rfl) (fun U V => X2 ([], []) U V)
    have Xn : SL l Z (mkA bs (SG p0 e v0 v1 m0 m1 m2 m3 s0 s1 lu ds) (T1G 1 c k0 k1 k2 k3 t0 t1 oo a0_ a1 a2 a3 ps oi od pd) ([], []) (a0_ :: a1 :: a2 :: a3 :: fi, fd) U V) bs 237 la_12 [] (G2b z) 68 762 256 la_12 [] (GA1b z) 68 762 := by
      cases z
      · exact own_nb_1_0 hw p0 e v0 v1 m0 m1 m2 m3 s0 s1 lu ds c k0 k1 k2 k3 t0 t1 oo a0_ a1 a2 a3 ps oi od pd fi fd _ U V
      · exact own_nb_1_1 hw p0 e v0 v1 m0 m1 m2 m3 s0 s1 lu ds c k0 k1 k2 k3 t0 t1 oo a0_ a1 a2 a3 ps oi od pd fi fd _ U V
    have Xl : SL l Z (mkA bs (SG p0 e v0 v1 m0 m1 m2 m3 s0 s1 lu ds) (T1G 1 c k0 k1 k2 k3 t0 t1 oo a0_ a1 a2 a3 ps oi od pd) ([], []) (a0_ :: a1 :: a2 :: a3 :: fi, fd) U V) bs 256 la_12 [] (GA1b z) 68 762 262 la_12 [.ref 10, .ref 9, .ref 11] (GA1b z) 68 762 := by
      cases z
      · exact sgL hw mkA_ad ⟨mkA_c, allN⟩ (taN (by decide)) allN allN sg_lc_0
      · exact sgL hw mkA_ad ⟨mkA_c, allN⟩ (taN (by decide)) allN allN sg_lc_1
    exact ⟨_, _, _, U, V, L', Seg.trans (own_na_1 hw p0 e v0 v1 m0 m1 m2 m3 s0 s1 lu ds _ _ _ _ U V hn) (Seg.trans (X1 _ _ U V) (Seg.trans Xn (Seg.trans Xl X)))⟩
  · obtain ⟨z, c, k0, k1, k2, k3, t0, t1, oo, b0, b1, b2, b3, ps, oi, od, pd, hC, X1⟩ := own_ca hw p0 e v0 v1 m0 m1 m2 m3 s0 s1 lu ds 2 (by omega) (by omega) (by omega) (by omega)
    obtain ⟨q0, q1, q2, q3⟩ := own_chb (k := 1) hC hm0 hm1 hm2 hm3
    obtain ⟨z', c', s0', s1', oo', ps', oi', a0_, a1, a2, a3, od', pd', hC', X2⟩ := own_cb hw p0 e v0 v1 m0 m1 m2 m3 s0 s1 lu ds 2 c k0 k1 k2 k3 t0 t1 oo b0 b1 b2 b3 ps oi od pd z q0 q1 q2 q3
    obtain ⟨r0, r1, r2, r3⟩ := own_chb (k := 2) hC' q0 q1 q2 q3
    obtain ⟨fi, fd, hW, X3⟩ := own_eta2 hw p0 e v0 v1 m0 m1 m2 m3 s0 s1 lu ds 2 c k0 k1 k2 k3 t0 t1 oo b0 b1 b2 b3 ps oi od pd z z' c' s0' s1' oo' ps' oi' a0_ a1 a2 a3 od' pd' hC hC'
    obtain ⟨U, V, L', X⟩ := own_last hw p0 e v0 v1 m0 m1 m2 m3 s0 s1 lu ds a0_ a1 a2 a3 fi fd ([], []) (T1G 2 c k0 k1 k2 k3 t0 t1 oo b0 b1 b2 b3 ps oi od pd) (T2G c' b0 b1 b2 b3 s0' s1' oo' ps' oi' od' pd') (by omega) (by omega) (by omega) (by omega) hW hL (v := true) (H := GA2b z z') (vs := _) (by cases z <;> cases z' <;> rfl) (by cases z <;> cases z' <;> rfl) (fun U V => X3 U V)
    have Xn : SL l Z (mkA bs (SG p0 e v0 v1 m0 m1 m2 m3 s0 s1 lu ds) (T1G 2 c k0 k1 k2 k3 t0 t1 oo b0 b1 b2 b3 ps oi od pd) (T2G c' b0 b1 b2 b3 s0' s1' oo' ps' oi' od' pd') (a0_ :: a1 :: a2 :: a3 :: fi, fd) U V) bs 237 la_12 [] (G2b z) 68 762 243 la_12 [] (G2b z) 68 762 := by
      cases z
      · exact own_nb_2_0 hw p0 e v0 v1 m0 m1 m2 m3 s0 s1 lu ds c k0 k1 k2 k3 t0 t1 oo b0 b1 b2 b3 ps oi od pd _ _ U V
      · exact own_nb_2_1 hw p0 e v0 v1 m0 m1 m2 m3 s0 s1 lu ds c k0 k1 k2 k3 t0 t1 oo b0 b1 b2 b3 ps oi od pd _ _ U V
    have Xl : SL l Z (mkA bs (SG p0 e v0 v1 m0 m1 m2 m3 s0 s1 lu ds) (T1G 2 c k0 k1 k2 k3 t0 t1 oo b0 b1 b2 b3 ps oi od pd) (T2G c' b0 b1 b2 b3 s0' s1' oo' ps' oi' od' pd') (a0_ :: a1 :: a2 :: a3 :: fi, fd) U V) bs 256 la_12 [] (GA2b z z') 68 762 262 la_12 [.ref 10, .ref 9, .ref 11] (GA2b z z') 68 762 := by
      cases z <;> cases z'
      · exact sgL hw mkA_ad ⟨mkA_c, allN⟩ (taN (by decide)) allN allN sg_lc_00
      · exact sgL hw mkA_ad ⟨mkA_c, allN⟩ (taN (by decide)) allN allN sg_lc_01
      · exact sgL hw mkA_ad ⟨mkA_c, allN⟩ (taN (by decide)) allN allN sg_lc_10
      · exact sgL hw mkA_ad ⟨mkA_c, allN⟩ (taN (by decide)) allN allN sg_lc_11
    exact ⟨_, _, _, U, V, L', Seg.trans (own_na_2 hw p0 e v0 v1 m0 m1 m2 m3 s0 s1 lu ds _ _ _ _ U V hn) (Seg.trans (X1 _ _ U V) (Seg.trans Xn (Seg.trans (X2 fi fd U V) (Seg.trans Xl X))))⟩
  · obtain ⟨z, c, k0, k1, k2, k3, t0, t1, oo, b0, b1, b2, b3, ps, oi, od, pd, hC, X1⟩ := own_ca hw p0 e v0 v1 m0 m1 m2 m3 s0 s1 lu ds 3 (by omega) (by omega) (by omega) (by omega)
    obtain ⟨q0, q1, q2, q3⟩ := own_chb (k := 1) hC hm0 hm1 hm2 hm3
    obtain ⟨z', c', s0', s1', oo', ps', oi', a0_, a1, a2, a3, od', pd', hC', X2⟩ := own_cb hw p0 e v0 v1 m0 m1 m2 m3 s0 s1 lu ds 3 c k0 k1 k2 k3 t0 t1 oo b0 b1 b2 b3 ps oi od pd z q0 q1 q2 q3
    obtain ⟨r0, r1, r2, r3⟩ := own_chb (k := 2) hC' q0 q1 q2 q3
    obtain ⟨fi, fd, hW, X3⟩ := own_eta2 hw p0 e v0 v1 m0 m1 m2 m3 s0 s1 lu ds 3 c k0 k1 k2 k3 t0 t1 oo b0 b1 b2 b3 ps oi od pd z z' c' s0' s1' oo' ps' oi' a0_ a1 a2 a3 od' pd' hC hC'
    obtain ⟨U, V, L', X⟩ := own_last hw p0 e v0 v1 m0 m1 m2 m3 s0 s1 lu ds a0_ a1 a2 a3 fi fd ([], []) (T1G 3 c k0 k1 k2 k3 t0 t1 oo b0 b1 b2 b3 ps oi od pd) (T2G c' b0 b1 b2 b3 s0' s1' oo' ps' oi' od' pd') (by omega) (by omega) (by omega) (by omega) hW hL (v := true) (H := GA2b z z') (vs := _) (by cases z <;> cases z' <;> rfl) (by cases z <;> cases z' <;> rfl) (fun U V => X3 U V)
    have Xn : SL l Z (mkA bs (SG p0 e v0 v1 m0 m1 m2 m3 s0 s1 lu ds) (T1G 3 c k0 k1 k2 k3 t0 t1 oo b0 b1 b2 b3 ps oi od pd) (T2G c' b0 b1 b2 b3 s0' s1' oo' ps' oi' od' pd') (a0_ :: a1 :: a2 :: a3 :: fi, fd) U V) bs 237 la_12 [] (G2b z) 68 762 243 la_12 [] (G2b z) 68 762 := by
      cases z
      · exact own_nb_3_0 hw p0 e v0 v1 m0 m1 m2 m3 s0 s1 lu ds c k0 k1 k2 k3 t0 t1 oo b0 b1 b2 b3 ps oi od pd _ _ U V
      · exact own_nb_3_1 hw p0 e v0 v1 m0 m1 m2 m3 s0 s1 lu ds c k0 k1 k2 k3 t0 t1 oo b0 b1 b2 b3 ps oi od pd _ _ U V
    have Xl : SL l Z (mkA bs (SG p0 e v0 v1 m0 m1 m2 m3 s0 s1 lu ds) (T1G 3 c k0 k1 k2 k3 t0 t1 oo b0 b1 b2 b3 ps oi od pd) (T2G c' b0 b1 b2 b3 s0' s1' oo' ps' oi' od' pd') (a0_ :: a1 :: a2 :: a3 :: fi, fd) U V) bs 256 la_12 [] (GA2b z z') 68 762 262 la_12 [.ref 10, .ref 9, .ref 11] (GA2b z z') 68 762 := by
      cases z <;> cases z'
      · exact sgL hw mkA_ad ⟨mkA_c, allN⟩ (taN (by decide)) allN allN sg_lc_00
      · exact sgL hw mkA_ad ⟨mkA_c, allN⟩ (taN (by decide)) allN allN sg_lc_01
      · exact sgL hw mkA_ad ⟨mkA_c, allN⟩ (taN (by decide)) allN allN sg_lc_10
      · exact sgL hw mkA_ad ⟨mkA_c, allN⟩ (taN (by decide)) allN allN sg_lc_11
    exact ⟨_, _, _, U, V, L', Seg.trans (own_na_3 hw p0 e v0 v1 m0 m1 m2 m3 s0 s1 lu ds _ _ _ _ U V hn) (Seg.trans (X1 _ _ U V) (Seg.trans Xn (Seg.trans (X2 fi fd U V) (Seg.trans Xl X))))⟩

theorem own_law (hw : HWt a0 Z) {p0 e v0 v1 : Int32} {A : Den} {h0 : Heap} {pc' k' n' : Nat} {L' : Array Slot} {H' : AH} (hA : (([.float 0, .float 3, .float 1, .float 2] : List Value).map (OwnI.mv A)).toArray = #[.int p0, .int e, .int v0, .int v1]) (X : SL l Z A h0.size 0 la_0 [] [] 0 0 pc' L' [.int 1] H' k' n') (hd : decode code pc' = .ok (.ireturn, 1)) : OMet l x code maxLocals ret tables_1 room_1 Z h0 [] #[(.int p0), (.int e), (.int v0), (.int v1)] (fun v h' => v = some (.int 1)) := by
  rw [← hA]
  refine OMetOf (plainFor_of_name pn_0) rfl rfl fun p e s m below meth c s₁ P hh hc hml hr hn => ?_
  have I0 : Inv KK A Z 0 h0.size wt s [] h0.size h0 [] 0 := ⟨fun i c q => (nomatch q), by rw [hh]; rfl, rfl, Nat.le_refl _, fun i hi _ => absurd hi (Nat.not_lt_zero _)⟩
  have D := X p e s m _ below meth c [] h0.size (fun v h' => v = some (.int 1)) s₁ h0 P hc hml hn I0 fun T' h' P' I' => (ok_rZ (call := fun _ _ _ => none) (maxL := maxLocals) (nm := "law") rfl hd : OkE l KK A Z 0 h0.size wt "com/example/foreshock/foreshock/planning/BasisFactorizationSolveTransposedPinLaw" code maxLocals ret "law" room_1 (fun _ _ _ => none) (pc', 1, .inr rZ)) L' [.int 1] H' k' n' _ rfl p e s m _ below meth c [] h0.size _ T' h' P' hc hr rfl
  show Done p l e room_1 s m _ below meth c Z "com/example/foreshock/foreshock/planning/BasisFactorizationSolveTransposedPinLaw" [] h0.size _ s₁ { method := m, pc := 0, locals := argsToLocals _ maxLocals, stack := [], locked := none }
  rw [args_ml]
  exact D
theorem m_law (l : Launch) (Z : State) (a0 : Array Value) (hw : ∀ d ∈ tables_1, d.before a0 Z = true) (p0 p1 p2 p3 : Int32) (h0 : Heap) :
    OMet l x code maxLocals ret tables_1 room_1 Z h0 [] #[(.int p0), (.int p1), (.int p2), (.int p3)] (fun v h' => v = some (.int 1)) := by
  rcases Decidable.em (entW p0 * entW (iop 24 p0 6) - entW (iop 24 p0 2) * entW (iop 24 p0 4) = 0) with hd | hd
  · exact own_law hw (A := mkA h0.size (SG p0 p1 p2 p3 (entW p0) (entW (iop 24 p0 2)) (entW (iop 24 p0 4)) (entW (iop 24 p0 6)) 0 0 [] []) ([], []) ([], []) ([], []) ([], []) ([], [])) rfl (own_s0z hw p0 p1 p2 p3 0 0 [] [] ([], []) ([], []) ([], []) ([], []) ([], []) hd) (by decide +kernel)
  · have key : ∃ s0 s1 : Int32, (s0 = 0 ∨ s0 = 1) ∧ (s1 = 0 ∨ s1 = 1) ∧ ∀ lu ds T1 T2 F U V, SL l Z (mkA h0.size (SG p0 p1 p2 p3 (entW p0) (entW (iop 24 p0 2)) (entW (iop 24 p0 4)) (entW (iop 24 p0 6)) s0 s1 lu ds) T1 T2 F U V) h0.size 0 la_0 [] [] 0 0 79 la_2 [] [] 0 0 := by
      rcases Decidable.em (iop 23 (iop 24 p0 8) 1 = 0) with h8 | h8 <;> rcases Decidable.em (iop 23 (iop 24 p0 9) 1 = 0) with h9 | h9
      · exact ⟨0, 0, Or.inl rfl, Or.inl rfl, fun lu ds T1 T2 F U V => own_s0_00 hw p0 p1 p2 p3 lu ds T1 T2 F U V hd h8 h9⟩
      · exact ⟨0, 1, Or.inl rfl, Or.inr rfl, fun lu ds T1 T2 F U V => own_s0_01 hw p0 p1 p2 p3 lu ds T1 T2 F U V hd h8 h9⟩
      · exact ⟨1, 0, Or.inr rfl, Or.inl rfl, fun lu ds T1 T2 F U V => own_s0_10 hw p0 p1 p2 p3 lu ds T1 T2 F U V hd h8 h9⟩
      · exact ⟨1, 1, Or.inr rfl, Or.inr rfl, fun lu ds T1 T2 F U V => own_s0_11 hw p0 p1 p2 p3 lu ds T1 T2 F U V hd h8 h9⟩
    obtain ⟨s0, s1, hs0, hs1, X0⟩ := key
    obtain ⟨lu, ds, hL, X1⟩ := own_s1 (bs := h0.size) hw p0 p1 p2 p3 (entW p0) (entW (iop 24 p0 2)) (entW (iop 24 p0 4)) (entW (iop 24 p0 6)) s0 s1 (own_entR _) (own_entR _) (own_entR _) (own_entR _) hd hs0 hs1
    obtain ⟨T1, T2, F, U, V, L', X2⟩ := own_tail (bs := h0.size) hw p0 p1 p2 p3 (entW p0) (entW (iop 24 p0 2)) (entW (iop 24 p0 4)) (entW (iop 24 p0 6)) s0 s1 lu ds (own_b2 (own_entR _)) (own_b2 (own_entR _)) (own_b2 (own_entR _)) (own_b2 (own_entR _)) hL
    exact own_law hw rfl (Seg.trans (X0 lu ds T1 T2 F U V) (Seg.trans (X1 T1 T2 F U V) X2)) (by decide +kernel)
end Own
set_option maxRecDepth 65536 in
set_option maxHeartbeats 4000000 in
theorem comes_1 {Post : Tables → Env → Array Value → State → Outcome → State → Prop} (hpost : ∀ tb e args s v u, (limb_1_1.after args s (.returned v) u = true ∧ limb_1_2.after args s (.returned v) u = true ∧ True) → FrameEnd s (.returned v) u (Jvm.fieldLocs frame_1_writes args s ++ Jvm.arrayLocs frame_1_arrays args s ++ Jvm.staticLocs frame_1_statics s) 144 1600 → Post tb e args s (.returned v) u) :
    ArmFor flags0 classFile x code maxLocals ret World_1 tables_1 room_1 Calls_1 rest_1 Pre_1 Post := by
  intro l hfl _ _ p e ha hc hk s m args below hf hA hF happ hP
  obtain ⟨hcalls, hrest, hpre⟩ := hP
  obtain ⟨-, -, -, hnamed, -, -, -, hat⟩ := (Spec.applies_iff hf).mp happ
  obtain ⟨hg, hn⟩ := and_e (Cond.before_iff.mp (show (Jvm.Cond.and given_1 narrow_1).before args s = true from hpre))
  obtain ⟨h1, g0⟩ := and_e hg
  obtain ⟨q0, g1⟩ := and_e g0
  obtain ⟨q1, g2⟩ := and_e g1
  obtain ⟨q2, g3⟩ := and_e g2
  obtain ⟨w0, w1, w2, w3, rfl⟩ : ∃ w0 w1 w2 w3 : Value, args = #[w0, w1, w2, w3] := by
    have hs : args.size = 4 := by simpa [Cond.value, given_1] using h1
    obtain ⟨L⟩ := args
    match L, hs with
    | [w0, w1, w2, w3], _ => exact ⟨w0, w1, w2, w3, rfl⟩
  have hw := fun d (hd : d ∈ tables_1) => atoms_spec (ws := Jvm.Cond.code x code maxLocals ret :: tables_1) hat d (List.mem_cons_of_mem _ hd)
  have hfit : Fit s := fun {y c} hc i hi => by
    obtain ⟨ha, rfl⟩ := Array.getElem?_eq_some_iff.mp hc
    have q := List.all_eq_true.mp ((Array.all_eq_true_iff_forall_mem.mp hF) _ (Array.getElem_mem ha)) i (List.mem_range.mpr hi)
    simpa [Array.getElem?_eq_getElem hi] using q
  obtain ⟨i0, e0⟩ := is_v q0
  obtain rfl : w0 = (.int i0) := Option.some.inj e0
  obtain ⟨i1, e1⟩ := is_v q1
  obtain rfl : w1 = (.int i1) := Option.some.inj e1
  obtain ⟨i2, e2⟩ := is_v q2
  obtain rfl : w2 = (.int i2) := Option.some.inj e2
  obtain ⟨i3, e3⟩ := is_v g3
  obtain rfl : w3 = (.int i3) := Option.some.inj e3
  obtain ⟨n, o, h1, h2, h3, _, L, rfl, ⟨rfl, N, -⟩, hq⟩ := m_law l s _ hw  i0 i1 i2 i3  s.heap  p e ha hc hk s m _ below hf ((Spec.applies_iff_loose hf).mp happ).1 ⟨rfl, State.Warmed39.refl s, rfl⟩ trivial
  refine ⟨n, _, h1, h2, h3, hpost _ _ _ _ _ _ ⟨Cond.after_iff.mpr rfl, Cond.after_iff.mpr (eq_i res_at (Term.int_eval (1)) rfl), trivial⟩ ⟨hq.1, hq.2.1, (hq.2.2.sift fun y hy => Or.inr ((N y hy).resolve_left (by simp))).mono (by decide) (by decide)⟩⟩
theorem main_1_1 : Claimed_1_1 := comes_1 fun _ _ _ _ _ _ h hF => ⟨h.1, hF⟩
theorem main_1_2 : Claimed_1_2 := comes_1 fun _ _ _ _ _ _ h hF => ⟨h.2.1, hF⟩
end Jvm.Pilot.@@N@@
namespace Jvm.Pilot.@@N@@
open Jvm Jvm.ClassFile Sem Op Lib Jvm.Free Jvm.Stand Jvm.Pilot.@@N@@.Jvm.D
/-! MADE BY PROGRAM (witnessworld.py) out of the Statement's table words and the real class files: 19 classes; the members and pool entries that the words name. The judged class is class 1, her method 5. -/
namespace start1
open Jvm.ClassFile
def u (s : String) : CpInfo := .utf8 (stringToUtf16 s)
/-- a pool by its gaps: so many unusable entries, then the entry; so many at the end -/
def gap : Nat → List CpInfo → List CpInfo
  | 0, r => r
  | n + 1, r => .unusable :: gap n r
def poolList (es : List (Nat × CpInfo)) (last : Nat) : List CpInfo := es.foldr (fun e r => gap e.1 (e.2 :: r)) (gap last [])
def pool (es : List (Nat × CpInfo)) (last : Nat) : Array CpInfo := ⟨poolList es last⟩
def fileOf (pool : Array CpInfo) (this : Nat) (attrs : Array Attribute := #[]) (ms : Array MethodInfo := #[]) (fl : Nat := 33) (sup : Nat := 0) (ifs : Array Nat := #[]) (fds : Array FieldInfo := #[]) : ClassFile where
  minorVersion := 0
  majorVersion := 65
  constantPool := pool
  accessFlags := fl
  thisClass := this
  superClass := sup
  interfaces := ifs
  fields := fds
  methods := ms
  attributes := attrs
def plain (name : String) (sup : Option ClassId) : Class where
  name := name
  kind := .ordinary
  loader := none
  accessFlags := 33
  super := sup
  interfaces := #[]
  cf := none
  fields := #[]
  methods := #[]
  instanceTypes := #[]
  staticTypes := #[]
  resolved := #[]
  callSites := []
  init := .initialized
  statics := none
  mirror := none

def pool0 : Array CpInfo := pool [(5, u "<init>"), (0, u "()V"), (1, .class_ 10), (1, u "java/lang/Object"), (85, u "clone"), (0, u "()Ljava/lang/Object;")] 26

def k0c0 : Code := { maxStack := 0, maxLocals := 1, code := object_method_1_code, exceptionTable := #[], attributes := #[] }
def k0m0 : Method := { name := "<init>", desc := "()V", sig := { parameters := [], returnType := none }, accessFlags := 1, code := some k0c0 }
def k0m1 : Method := { name := "clone", desc := "()Ljava/lang/Object;", sig := { parameters := [], returnType := some (.object "java/lang/Object") }, accessFlags := 260, code := none }
/-- java/lang/Object -/
def k0 : Class := { plain "java/lang/Object" none with
  accessFlags := 33
  interfaces := #[]
  cf := some (fileOf pool0 8 #[] #[{ accessFlags := 1, nameIndex := 5, descriptorIndex := 6, attributes := #[] }, { accessFlags := 260, nameIndex := 96, descriptorIndex := 97, attributes := #[] }] 33 0 #[] #[])
  fields := #[]
  methods := #[k0m0, k0m1]
  instanceTypes := #[]
  staticTypes := #[]
  resolved := Array.replicate 124 none
  statics := none }

def pool1 : Array CpInfo := pool [(2, .class_ 4), (1, u "java/lang/Object"), (0, u "<init>"), (0, u "()V"), (0, .methodref 8 9), (0, .class_ 10), (0, .nameAndType 11 12), (0, u "com/example/foreshock/foreshock/planning/BasisFactorizationSolveTransposedPinLaw"), (0, u "ent"), (0, u "(I)I"), (0, .methodref 14 15), (0, .class_ 16), (0, .nameAndType 17 18), (0, u "com/example/foreshock/foreshock/planning/BasisFactorization"), (0, u "replace"), (0, u "(I[D)V"), (0, .class_ 20), (0, u "[I"), (0, .methodref 8 22), (0, .nameAndType 23 24), (0, u "rowsOf"), (0, u "(IIZ)[I"), (0, .class_ 26), (0, u "[D"), (0, .methodref 8 28), (0, .nameAndType 29 30), (0, u "valuesOf"), (0, u "(IIZ)[D"), (0, .methodref 14 32), (0, .nameAndType 5 33), (0, u "(I)V"), (0, .methodref 14 35), (0, .nameAndType 36 37), (0, u "factorize"), (0, u "([[I[[D)Z"), (0, .methodref 8 39), (0, .nameAndType 40 41), (0, u "change"), (0, u "(Lcom/example/foreshock/foreshock/planning/BasisFactorization;[II[D)V"), (0, .methodref 14 43), (0, .nameAndType 44 45), (0, u "solveTransposed"), (0, u "([D[D)V"), (3, u "law"), (0, u "(IIII)Z")] 6

def k1m0 : Method := { name := "<init>", desc := "()V", sig := { parameters := [], returnType := none }, accessFlags := 1, code := none }
def k1c1 : Code := { maxStack := 2, maxLocals := 2, code := method_2_code, exceptionTable := #[], attributes := #[] }
def k1m1 : Method := { name := "ent", desc := "(I)I", sig := { parameters := [.int], returnType := some .int }, accessFlags := 10, code := some k1c1 }
def k1c2 : Code := { maxStack := 4, maxLocals := 3, code := method_3_code, exceptionTable := #[], attributes := #[] }
def k1m2 : Method := { name := "rowsOf", desc := "(IIZ)[I", sig := { parameters := [.int, .int, .boolean], returnType := some (.array .int) }, accessFlags := 10, code := some k1c2 }
def k1c3 : Code := { maxStack := 5, maxLocals := 3, code := method_4_code, exceptionTable := #[], attributes := #[] }
def k1m3 : Method := { name := "valuesOf", desc := "(IIZ)[D", sig := { parameters := [.int, .int, .boolean], returnType := some (.array .double) }, accessFlags := 10, code := some k1c3 }
def k1c4 : Code := { maxStack := 4, maxLocals := 11, code := method_5_code, exceptionTable := #[], attributes := #[] }
def k1m4 : Method := { name := "change", desc := "(Lcom/example/foreshock/foreshock/planning/BasisFactorization;[II[D)V", sig := { parameters := [(.object "com/example/foreshock/foreshock/planning/BasisFactorization"), (.array .int), .int, (.array .double)], returnType := none }, accessFlags := 10, code := some k1c4 }
def k1c5 : Code := { maxStack := 6, maxLocals := 21, code := code, exceptionTable := #[], attributes := #[] }
def k1m5 : Method := { name := "law", desc := "(IIII)Z", sig := { parameters := [.int, .int, .int, .int], returnType := some .boolean }, accessFlags := 9, code := some k1c5 }
/-- com/example/foreshock/foreshock/planning/BasisFactorizationSolveTransposedPinLaw -/
def k1 : Class := { plain "com/example/foreshock/foreshock/planning/BasisFactorizationSolveTransposedPinLaw" (some 0) with
  accessFlags := 49
  interfaces := #[]
  cf := some (fileOf pool1 8 #[] #[{ accessFlags := 1, nameIndex := 5, descriptorIndex := 6, attributes := #[] }, { accessFlags := 10, nameIndex := 11, descriptorIndex := 12, attributes := #[] }, { accessFlags := 10, nameIndex := 23, descriptorIndex := 24, attributes := #[] }, { accessFlags := 10, nameIndex := 29, descriptorIndex := 30, attributes := #[] }, { accessFlags := 10, nameIndex := 40, descriptorIndex := 41, attributes := #[] }, { accessFlags := 9, nameIndex := 49, descriptorIndex := 50, attributes := #[] }] 49 2 #[] #[])
  fields := #[]
  methods := #[k1m0, k1m1, k1m2, k1m3, k1m4, k1m5]
  instanceTypes := #[]
  staticTypes := #[]
  resolved := Array.replicate 57 none
  statics := none }

def pool2 : Array CpInfo := pool [(1, .methodref 2 3), (0, .class_ 4), (0, .nameAndType 5 6), (0, u "java/lang/Object"), (0, u "<init>"), (0, u "()V"), (0, .class_ 8), (0, u "com/example/foreshock/foreshock/planning/BasisFactorization$EntryLists"), (0, .methodref 7 3), (0, .fieldref 11 12), (0, .class_ 13), (0, .nameAndType 14 15), (0, u "com/example/foreshock/foreshock/planning/BasisFactorization"), (0, u "lower"), (0, u "Lcom/example/foreshock/foreshock/planning/BasisFactorization$EntryLists;"), (0, .fieldref 11 17), (0, .nameAndType 18 15), (0, u "upperByRow"), (0, .fieldref 11 20), (0, .nameAndType 21 15), (0, u "upperByColumn"), (0, .fieldref 11 23), (0, .nameAndType 24 15), (0, u "etas"), (0, .fieldref 11 26), (0, .nameAndType 27 28), (0, u "etaPosition"), (0, u "[I"), (0, .fieldref 11 30), (0, .nameAndType 31 32), (0, u "etaPivot"), (0, u "[D"), (0, .fieldref 11 34), (0, .nameAndType 35 28), (0, u "missingPositions"), (0, .fieldref 11 37), (0, .nameAndType 38 28), (0, u "missingRows"), (0, .fieldref 11 40), (0, .nameAndType 41 42), (0, u "size"), (0, u "I"), (0, .fieldref 11 44), (0, .nameAndType 45 28), (0, u "pivotRow"), (0, .fieldref 11 47), (0, .nameAndType 48 28), (0, u "pivotPosition"), (0, .fieldref 11 50), (0, .nameAndType 51 32), (0, u "pivotValue"), (0, .methodref 7 53), (0, .nameAndType 54 6), (0, u "clear"), (0, .class_ 56), (0, u "com/example/foreshock/foreshock/planning/BasisFactorization$Elimination"), (0, .methodref 55 58), (0, .nameAndType 5 59), (0, u "(Lcom/example/foreshock/foreshock/planning/BasisFactorization;[[I[[D)V"), (0, .fieldref 11 61), (0, .nameAndType 62 42), (0, u "steps"), (0, .methodref 55 64), (0, .nameAndType 65 66), (0, u "findPivot"), (0, u "()Z"), (0, .methodref 55 68), (0, .nameAndType 69 6), (0, u "eliminate"), (0, .methodref 11 71), (0, .nameAndType 72 6), (0, u "indexUpperByColumn"), (0, .fieldref 55 74), (0, .nameAndType 75 76), (0, u "positionDone"), (0, u "[Z"), (0, .methodref 55 78), (0, .nameAndType 79 80), (0, u "unpivoted"), (0, u "([Z)[I"), (0, .fieldref 55 82), (0, .nameAndType 83 76), (0, u "rowDone"), (5, .fieldref 7 90), (0, .nameAndType 91 42), (0, u "count"), (0, .methodref 93 94), (0, .class_ 95), (0, .nameAndType 96 97), (0, u "java/util/Arrays"), (0, u "copyOf"), (0, u "([II)[I"), (3, .methodref 102 103), (0, .class_ 104), (0, .nameAndType 105 106), (0, u "java/lang/Math"), (0, u "abs"), (0, u "(D)D"), (0, .double 4397347889687374747), (1, .methodref 7 110), (0, .nameAndType 111 112), (0, u "add"), (0, u "(ID)V"), (0, .methodref 7 114), (0, .nameAndType 115 6), (0, u "endList"), (0, .fieldref 7 117), (0, .nameAndType 118 28), (0, u "start"), (0, .fieldref 7 120), (0, .nameAndType 121 28), (0, u "index"), (0, .fieldref 7 123), (0, .nameAndType 124 32), (0, u "value"), (0, .methodref 93 126), (0, .nameAndType 127 128), (0, u "fill"), (0, u "([DD)V"), (0, .fieldref 7 130), (0, .nameAndType 131 42), (0, u "length"), (0, u "THRESHOLD"), (0, u "D"), (3, u "SEARCHED"), (1, u "NEGLIGIBLE"), (2, u "DROPPED"), (0, u "(I)V"), (2, u "factorize"), (0, u "([[I[[D)Z"), (4, u "replace"), (0, u "(I[D)V"), (1, u "([D[D)V"), (0, u "solveTransposed"), (4, .class_ 162), (0, u "com/example/foreshock/foreshock/planning/BasisFactorization$CountLists")] 4

def k2c0 : Code := { maxStack := 3, maxLocals := 2, code := prog_24_method_1_code, exceptionTable := #[], attributes := #[] }
def k2m0 : Method := { name := "<init>", desc := "(I)V", sig := { parameters := [.int], returnType := none }, accessFlags := 0, code := some k2c0 }
def k2c1 : Code := { maxStack := 5, maxLocals := 4, code := prog_24_method_2_code, exceptionTable := #[], attributes := #[] }
def k2m1 : Method := { name := "factorize", desc := "([[I[[D)Z", sig := { parameters := [(.array (.array .int)), (.array (.array .double))], returnType := some .boolean }, accessFlags := 0, code := some k2c1 }
def k2c2 : Code := { maxStack := 4, maxLocals := 4, code := prog_24_method_6_code, exceptionTable := #[], attributes := #[] }
def k2m2 : Method := { name := "replace", desc := "(I[D)V", sig := { parameters := [.int, (.array .double)], returnType := none }, accessFlags := 0, code := some k2c2 }
def k2c3 : Code := { maxStack := 8, maxLocals := 8, code := prog_24_method_8_code, exceptionTable := #[], attributes := #[] }
def k2m3 : Method := { name := "solveTransposed", desc := "([D[D)V", sig := { parameters := [(.array .double), (.array .double)], returnType := none }, accessFlags := 0, code := some k2c3 }
def k2c4 : Code := { maxStack := 5, maxLocals := 10, code := prog_24_method_9_code, exceptionTable := #[], attributes := #[] }
def k2m4 : Method := { name := "indexUpperByColumn", desc := "()V", sig := { parameters := [], returnType := none }, accessFlags := 2, code := some k2c4 }
def resL : List (Option Resolved) := List.replicate 7 none ++ [some (.cls 3)] ++ List.replicate 1 none ++ [some (.method ⟨3, 0⟩)] ++ List.replicate 45 none ++ [some (.cls 4)] ++ List.replicate 17 none ++ [some (.field 4 7)] ++ List.replicate 7 none ++ [some (.field 4 6)] ++ List.replicate 7 none ++ [some (.field 3 0)] ++ List.replicate 26 none ++ [some (.field 3 1)] ++ List.replicate 2 none ++ [some (.field 3 2)] ++ List.replicate 2 none ++ [some (.field 3 3)] ++ List.replicate 6 none ++ [some (.field 3 4)] ++ List.replicate 37 none
/-- com/example/foreshock/foreshock/planning/BasisFactorization -/
def k2 : Class := { plain "com/example/foreshock/foreshock/planning/BasisFactorization" (some 0) with
  accessFlags := 48
  interfaces := #[]
  cf := some (fileOf pool2 11 #[.nestMembers #[7, 161, 55]] #[{ accessFlags := 0, nameIndex := 5, descriptorIndex := 143, attributes := #[] }, { accessFlags := 0, nameIndex := 146, descriptorIndex := 147, attributes := #[] }, { accessFlags := 0, nameIndex := 152, descriptorIndex := 153, attributes := #[] }, { accessFlags := 0, nameIndex := 156, descriptorIndex := 155, attributes := #[] }, { accessFlags := 2, nameIndex := 72, descriptorIndex := 6, attributes := #[] }] 48 2 #[] #[{ accessFlags := 26, nameIndex := 132, descriptorIndex := 133, attributes := #[] }, { accessFlags := 26, nameIndex := 137, descriptorIndex := 42, attributes := #[] }, { accessFlags := 26, nameIndex := 139, descriptorIndex := 133, attributes := #[] }, { accessFlags := 26, nameIndex := 142, descriptorIndex := 133, attributes := #[] }, { accessFlags := 18, nameIndex := 41, descriptorIndex := 42, attributes := #[] }, { accessFlags := 18, nameIndex := 45, descriptorIndex := 28, attributes := #[] }, { accessFlags := 18, nameIndex := 48, descriptorIndex := 28, attributes := #[] }, { accessFlags := 18, nameIndex := 51, descriptorIndex := 32, attributes := #[] }, { accessFlags := 2, nameIndex := 62, descriptorIndex := 42, attributes := #[] }, { accessFlags := 18, nameIndex := 14, descriptorIndex := 15, attributes := #[] }, { accessFlags := 18, nameIndex := 18, descriptorIndex := 15, attributes := #[] }, { accessFlags := 18, nameIndex := 21, descriptorIndex := 15, attributes := #[] }, { accessFlags := 18, nameIndex := 24, descriptorIndex := 15, attributes := #[] }, { accessFlags := 2, nameIndex := 27, descriptorIndex := 28, attributes := #[] }, { accessFlags := 2, nameIndex := 31, descriptorIndex := 32, attributes := #[] }, { accessFlags := 2, nameIndex := 35, descriptorIndex := 28, attributes := #[] }, { accessFlags := 2, nameIndex := 38, descriptorIndex := 28, attributes := #[] }])
  fields := #[{ name := "THRESHOLD", type := .double, accessFlags := 26, slot := 0, constantValue := 0 }, { name := "SEARCHED", type := .int, accessFlags := 26, slot := 1, constantValue := 0 }, { name := "NEGLIGIBLE", type := .double, accessFlags := 26, slot := 2, constantValue := 0 }, { name := "DROPPED", type := .double, accessFlags := 26, slot := 3, constantValue := 0 }, { name := "size", type := .int, accessFlags := 18, slot := 0, constantValue := 0 }, { name := "pivotRow", type := (.array .int), accessFlags := 18, slot := 1, constantValue := 0 }, { name := "pivotPosition", type := (.array .int), accessFlags := 18, slot := 2, constantValue := 0 }, { name := "pivotValue", type := (.array .double), accessFlags := 18, slot := 3, constantValue := 0 }, { name := "steps", type := .int, accessFlags := 2, slot := 4, constantValue := 0 }, { name := "lower", type := (.object "com/example/foreshock/foreshock/planning/BasisFactorization$EntryLists"), accessFlags := 18, slot := 5, constantValue := 0 }, { name := "upperByRow", type := (.object "com/example/foreshock/foreshock/planning/BasisFactorization$EntryLists"), accessFlags := 18, slot := 6, constantValue := 0 }, { name := "upperByColumn", type := (.object "com/example/foreshock/foreshock/planning/BasisFactorization$EntryLists"), accessFlags := 18, slot := 7, constantValue := 0 }, { name := "etas", type := (.object "com/example/foreshock/foreshock/planning/BasisFactorization$EntryLists"), accessFlags := 18, slot := 8, constantValue := 0 }, { name := "etaPosition", type := (.array .int), accessFlags := 2, slot := 9, constantValue := 0 }, { name := "etaPivot", type := (.array .double), accessFlags := 2, slot := 10, constantValue := 0 }, { name := "missingPositions", type := (.array .int), accessFlags := 2, slot := 11, constantValue := 0 }, { name := "missingRows", type := (.array .int), accessFlags := 2, slot := 12, constantValue := 0 }]
  methods := #[k2m0, k2m1, k2m2, k2m3, k2m4]
  instanceTypes := #[.int, (.array .int), (.array .int), (.array .double), .int, (.object "com/example/foreshock/foreshock/planning/BasisFactorization$EntryLists"), (.object "com/example/foreshock/foreshock/planning/BasisFactorization$EntryLists"), (.object "com/example/foreshock/foreshock/planning/BasisFactorization$EntryLists"), (.object "com/example/foreshock/foreshock/planning/BasisFactorization$EntryLists"), (.array .int), (.array .double), (.array .int), (.array .int)]
  staticTypes := #[.double, .int, .double, .double]
  resolved := ⟨resL⟩
  statics := none }

def pool3 : Array CpInfo := pool [(1, .methodref 2 3), (0, .class_ 4), (0, .nameAndType 5 6), (0, u "java/lang/Object"), (0, u "<init>"), (0, u "()V"), (0, .fieldref 8 9), (0, .class_ 10), (0, .nameAndType 11 12), (0, u "com/example/foreshock/foreshock/planning/BasisFactorization$EntryLists"), (0, u "start"), (0, u "[I"), (0, .fieldref 8 14), (0, .nameAndType 15 12), (0, u "index"), (0, .fieldref 8 17), (0, .nameAndType 18 19), (0, u "value"), (0, u "[D"), (0, .fieldref 8 21), (0, .nameAndType 22 23), (0, u "count"), (0, u "I"), (0, .fieldref 8 25), (0, .nameAndType 26 23), (0, u "length"), (0, .methodref 28 29), (0, .class_ 30), (0, .nameAndType 31 32), (0, u "java/util/Arrays"), (0, u "copyOf"), (0, u "([II)[I"), (5, u "clear"), (0, u "add"), (0, u "(ID)V"), (1, u "endList"), (3, .class_ 47), (0, u "com/example/foreshock/foreshock/planning/BasisFactorization")] 2

def k3c0 : Code := { maxStack := 2, maxLocals := 1, code := prog_27_method_1_code, exceptionTable := #[], attributes := #[] }
def k3m0 : Method := { name := "<init>", desc := "()V", sig := { parameters := [], returnType := none }, accessFlags := 2, code := some k3c0 }
def k3c1 : Code := { maxStack := 2, maxLocals := 1, code := prog_27_method_2_code, exceptionTable := #[], attributes := #[] }
def k3m1 : Method := { name := "clear", desc := "()V", sig := { parameters := [], returnType := none }, accessFlags := 0, code := some k3c1 }
def k3c2 : Code := { maxStack := 4, maxLocals := 4, code := prog_27_method_3_code, exceptionTable := #[], attributes := #[] }
def k3m2 : Method := { name := "add", desc := "(ID)V", sig := { parameters := [.int, .double], returnType := none }, accessFlags := 0, code := some k3c2 }
def k3c3 : Code := { maxStack := 5, maxLocals := 1, code := prog_27_method_4_code, exceptionTable := #[], attributes := #[] }
def k3m3 : Method := { name := "endList", desc := "()V", sig := { parameters := [], returnType := none }, accessFlags := 0, code := some k3c3 }
/-- com/example/foreshock/foreshock/planning/BasisFactorization$EntryLists -/
def k3 : Class := { plain "com/example/foreshock/foreshock/planning/BasisFactorization$EntryLists" (some 0) with
  accessFlags := 48
  interfaces := #[]
  cf := some (fileOf pool3 8 #[.nestHost 46] #[{ accessFlags := 2, nameIndex := 5, descriptorIndex := 6, attributes := #[] }, { accessFlags := 0, nameIndex := 38, descriptorIndex := 6, attributes := #[] }, { accessFlags := 0, nameIndex := 39, descriptorIndex := 40, attributes := #[] }, { accessFlags := 0, nameIndex := 42, descriptorIndex := 6, attributes := #[] }] 48 2 #[] #[{ accessFlags := 2, nameIndex := 22, descriptorIndex := 23, attributes := #[] }, { accessFlags := 2, nameIndex := 11, descriptorIndex := 12, attributes := #[] }, { accessFlags := 2, nameIndex := 15, descriptorIndex := 12, attributes := #[] }, { accessFlags := 2, nameIndex := 18, descriptorIndex := 19, attributes := #[] }, { accessFlags := 2, nameIndex := 26, descriptorIndex := 23, attributes := #[] }])
  fields := #[{ name := "count", type := .int, accessFlags := 2, slot := 0, constantValue := 0 }, { name := "start", type := (.array .int), accessFlags := 2, slot := 1, constantValue := 0 }, { name := "index", type := (.array .int), accessFlags := 2, slot := 2, constantValue := 0 }, { name := "value", type := (.array .double), accessFlags := 2, slot := 3, constantValue := 0 }, { name := "length", type := .int, accessFlags := 2, slot := 4, constantValue := 0 }]
  methods := #[k3m0, k3m1, k3m2, k3m3]
  instanceTypes := #[.int, (.array .int), (.array .int), (.array .double), .int]
  staticTypes := #[]
  resolved := Array.replicate 50 none
  statics := none }

def pool4 : Array CpInfo := pool [(1, .class_ 2), (0, u "com/example/foreshock/foreshock/planning/BasisFactorization"), (0, .fieldref 4 5), (0, .class_ 6), (0, .nameAndType 7 8), (0, u "com/example/foreshock/foreshock/planning/BasisFactorization$Elimination"), (0, u "this$0"), (0, u "Lcom/example/foreshock/foreshock/planning/BasisFactorization;"), (0, .methodref 10 11), (0, .class_ 12), (0, .nameAndType 13 14), (0, u "java/lang/Object"), (0, u "<init>"), (0, u "()V"), (0, .fieldref 1 16), (0, .nameAndType 17 18), (0, u "size"), (0, u "I"), (0, .class_ 20), (0, u "[I"), (0, .fieldref 4 22), (0, .nameAndType 23 24), (0, u "rowPositions"), (0, u "[[I"), (0, .class_ 26), (0, u "[D"), (0, .fieldref 4 28), (0, .nameAndType 29 30), (0, u "rowValues"), (0, u "[[D"), (0, .fieldref 4 32), (0, .nameAndType 33 20), (0, u "rowLength"), (0, .fieldref 4 35), (0, .nameAndType 36 24), (0, u "positionRows"), (0, .fieldref 4 38), (0, .nameAndType 39 20), (0, u "positionListed"), (0, .fieldref 4 41), (0, .nameAndType 42 20), (0, u "positionCount"), (0, .fieldref 4 44), (0, .nameAndType 45 46), (0, u "rowDone"), (0, u "[Z"), (0, .fieldref 4 48), (0, .nameAndType 49 46), (0, u "positionDone"), (0, .class_ 51), (0, u "com/example/foreshock/foreshock/planning/BasisFactorization$CountLists"), (0, .methodref 50 53), (0, .nameAndType 13 54), (0, u "(I)V"), (0, .fieldref 4 56), (0, .nameAndType 57 58), (0, u "rowsByCount"), (0, u "Lcom/example/foreshock/foreshock/planning/BasisFactorization$CountLists;"), (0, .fieldref 4 60), (0, .nameAndType 61 58), (0, u "positionsByCount"), (0, .fieldref 4 63), (0, .nameAndType 64 20), (0, u "slot"), (0, .methodref 19 66), (0, .nameAndType 67 68), (0, u "clone"), (0, u "()Ljava/lang/Object;"), (0, .methodref 4 70), (0, .nameAndType 71 72), (0, u "append"), (0, u "(IID)V"), (0, .methodref 50 74), (0, .nameAndType 75 76), (0, u "insert"), (0, u "(II)V"), (0, .fieldref 4 78), (0, .nameAndType 79 18), (0, u "row"), (2, .long 9223372036854775807), (1, .methodref 50 85), (0, .nameAndType 86 87), (0, u "first"), (0, u "(I)I"), (0, .methodref 4 89), (0, .nameAndType 90 91), (0, u "largestIn"), (0, u "(I)D"), (0, .methodref 4 93), (0, .nameAndType 94 95), (0, u "valueAt"), (0, u "(II)D"), (0, .methodref 4 97), (0, .nameAndType 98 99), (0, u "stable"), (0, u "(DD)Z"), (0, .fieldref 4 101), (0, .nameAndType 102 18), (0, u "position"), (3, .methodref 107 108), (0, .class_ 109), (0, .nameAndType 110 111), (0, u "java/lang/Math"), (0, u "abs"), (0, u "(D)D"), (0, .double 4442235333156365461), (1, .double 4591870180066957722), (1, .fieldref 1 117), (0, .nameAndType 118 20), (0, u "pivotRow"), (0, .fieldref 1 120), (0, .nameAndType 121 18), (0, u "steps"), (0, .fieldref 1 123), (0, .nameAndType 124 20), (0, u "pivotPosition"), (0, .fieldref 1 126), (0, .nameAndType 127 26), (0, u "pivotValue"), (0, .methodref 50 129), (0, .nameAndType 130 54), (0, u "remove"), (0, .fieldref 1 132), (0, .nameAndType 133 134), (0, u "upperByRow"), (0, u "Lcom/example/foreshock/foreshock/planning/BasisFactorization$EntryLists;"), (0, .methodref 136 137), (0, .class_ 138), (0, .nameAndType 139 140), (0, u "com/example/foreshock/foreshock/planning/BasisFactorization$EntryLists"), (0, u "add"), (0, u "(ID)V"), (0, .methodref 4 142), (0, .nameAndType 143 54), (0, u "dropPivotedRowFrom"), (0, .methodref 136 145), (0, .nameAndType 146 14), (0, u "endList"), (0, .fieldref 1 148), (0, .nameAndType 149 134), (0, u "lower"), (0, .methodref 4 151), (0, .nameAndType 152 140), (0, u "subtract"), (3, .methodref 50 157), (0, .nameAndType 158 76), (0, u "move"), (0, .methodref 160 161), (0, .class_ 162), (0, .nameAndType 163 164), (0, u "java/util/Arrays"), (0, u "copyOf"), (0, u "([II)[I"), (5, u "max"), (1, .methodref 107 173), (0, .nameAndType 170 174), (0, u "(DD)D"), (0, u "(Lcom/example/foreshock/foreshock/planning/BasisFactorization;[[I[[D)V"), (6, u "findPivot"), (0, u "()Z"), (0, u "eliminate"), (0, u "unpivoted"), (0, u "([Z)[I")] 7

def k4c0 : Code := { maxStack := 5, maxLocals := 6, code := prog_26_method_1_code, exceptionTable := #[], attributes := #[] }
def k4m0 : Method := { name := "<init>", desc := "(Lcom/example/foreshock/foreshock/planning/BasisFactorization;[[I[[D)V", sig := { parameters := [(.object "com/example/foreshock/foreshock/planning/BasisFactorization"), (.array (.array .int)), (.array (.array .double))], returnType := none }, accessFlags := 0, code := some k4c0 }
def k4c1 : Code := { maxStack := 5, maxLocals := 14, code := prog_26_method_2_code, exceptionTable := #[], attributes := #[] }
def k4m1 : Method := { name := "findPivot", desc := "()Z", sig := { parameters := [], returnType := some .boolean }, accessFlags := 0, code := some k4c1 }
def k4c2 : Code := { maxStack := 6, maxLocals := 5, code := prog_26_method_3_code, exceptionTable := #[], attributes := #[] }
def k4m2 : Method := { name := "stable", desc := "(DD)Z", sig := { parameters := [.double, .double], returnType := some .boolean }, accessFlags := 2, code := some k4c2 }
def k4c3 : Code := { maxStack := 4, maxLocals := 7, code := prog_26_method_4_code, exceptionTable := #[], attributes := #[] }
def k4m3 : Method := { name := "eliminate", desc := "()V", sig := { parameters := [], returnType := none }, accessFlags := 0, code := some k4c3 }
def k4c4 : Code := { maxStack := 6, maxLocals := 8, code := prog_26_method_5_code, exceptionTable := #[], attributes := #[] }
def k4m4 : Method := { name := "subtract", desc := "(ID)V", sig := { parameters := [.int, .double], returnType := none }, accessFlags := 2, code := some k4c4 }
def k4c5 : Code := { maxStack := 6, maxLocals := 5, code := prog_26_method_6_code, exceptionTable := #[], attributes := #[] }
def k4m5 : Method := { name := "append", desc := "(IID)V", sig := { parameters := [.int, .int, .double], returnType := none }, accessFlags := 2, code := some k4c5 }
def k4c6 : Code := { maxStack := 4, maxLocals := 2, code := prog_26_method_8_code, exceptionTable := #[], attributes := #[] }
def k4m6 : Method := { name := "dropPivotedRowFrom", desc := "(I)V", sig := { parameters := [.int], returnType := none }, accessFlags := 2, code := some k4c6 }
def k4c7 : Code := { maxStack := 3, maxLocals := 4, code := prog_26_method_9_code, exceptionTable := #[], attributes := #[] }
def k4m7 : Method := { name := "valueAt", desc := "(II)D", sig := { parameters := [.int, .int], returnType := some .double }, accessFlags := 2, code := some k4c7 }
def k4c8 : Code := { maxStack := 5, maxLocals := 6, code := prog_26_method_10_code, exceptionTable := #[], attributes := #[] }
def k4m8 : Method := { name := "largestIn", desc := "(I)D", sig := { parameters := [.int], returnType := some .double }, accessFlags := 2, code := some k4c8 }
def k4c9 : Code := { maxStack := 3, maxLocals := 5, code := prog_26_method_11_code, exceptionTable := #[], attributes := #[] }
def k4m9 : Method := { name := "unpivoted", desc := "([Z)[I", sig := { parameters := [(.array .boolean)], returnType := some (.array .int) }, accessFlags := 0, code := some k4c9 }
/-- com/example/foreshock/foreshock/planning/BasisFactorization$Elimination -/
def k4 : Class := { plain "com/example/foreshock/foreshock/planning/BasisFactorization$Elimination" (some 0) with
  accessFlags := 48
  interfaces := #[]
  cf := some (fileOf pool4 4 #[.nestHost 1] #[{ accessFlags := 0, nameIndex := 13, descriptorIndex := 175, attributes := #[] }, { accessFlags := 0, nameIndex := 182, descriptorIndex := 183, attributes := #[] }, { accessFlags := 2, nameIndex := 98, descriptorIndex := 99, attributes := #[] }, { accessFlags := 0, nameIndex := 184, descriptorIndex := 14, attributes := #[] }, { accessFlags := 2, nameIndex := 152, descriptorIndex := 140, attributes := #[] }, { accessFlags := 2, nameIndex := 71, descriptorIndex := 72, attributes := #[] }, { accessFlags := 2, nameIndex := 143, descriptorIndex := 54, attributes := #[] }, { accessFlags := 2, nameIndex := 94, descriptorIndex := 95, attributes := #[] }, { accessFlags := 2, nameIndex := 90, descriptorIndex := 91, attributes := #[] }, { accessFlags := 0, nameIndex := 185, descriptorIndex := 186, attributes := #[] }] 48 10 #[] #[{ accessFlags := 18, nameIndex := 23, descriptorIndex := 24, attributes := #[] }, { accessFlags := 18, nameIndex := 29, descriptorIndex := 30, attributes := #[] }, { accessFlags := 18, nameIndex := 33, descriptorIndex := 20, attributes := #[] }, { accessFlags := 18, nameIndex := 36, descriptorIndex := 24, attributes := #[] }, { accessFlags := 18, nameIndex := 39, descriptorIndex := 20, attributes := #[] }, { accessFlags := 18, nameIndex := 42, descriptorIndex := 20, attributes := #[] }, { accessFlags := 18, nameIndex := 45, descriptorIndex := 46, attributes := #[] }, { accessFlags := 18, nameIndex := 49, descriptorIndex := 46, attributes := #[] }, { accessFlags := 18, nameIndex := 57, descriptorIndex := 58, attributes := #[] }, { accessFlags := 18, nameIndex := 61, descriptorIndex := 58, attributes := #[] }, { accessFlags := 18, nameIndex := 64, descriptorIndex := 20, attributes := #[] }, { accessFlags := 2, nameIndex := 79, descriptorIndex := 18, attributes := #[] }, { accessFlags := 2, nameIndex := 102, descriptorIndex := 18, attributes := #[] }, { accessFlags := 4112, nameIndex := 7, descriptorIndex := 8, attributes := #[] }])
  fields := #[{ name := "rowPositions", type := (.array (.array .int)), accessFlags := 18, slot := 0, constantValue := 0 }, { name := "rowValues", type := (.array (.array .double)), accessFlags := 18, slot := 1, constantValue := 0 }, { name := "rowLength", type := (.array .int), accessFlags := 18, slot := 2, constantValue := 0 }, { name := "positionRows", type := (.array (.array .int)), accessFlags := 18, slot := 3, constantValue := 0 }, { name := "positionListed", type := (.array .int), accessFlags := 18, slot := 4, constantValue := 0 }, { name := "positionCount", type := (.array .int), accessFlags := 18, slot := 5, constantValue := 0 }, { name := "rowDone", type := (.array .boolean), accessFlags := 18, slot := 6, constantValue := 0 }, { name := "positionDone", type := (.array .boolean), accessFlags := 18, slot := 7, constantValue := 0 }, { name := "rowsByCount", type := (.object "com/example/foreshock/foreshock/planning/BasisFactorization$CountLists"), accessFlags := 18, slot := 8, constantValue := 0 }, { name := "positionsByCount", type := (.object "com/example/foreshock/foreshock/planning/BasisFactorization$CountLists"), accessFlags := 18, slot := 9, constantValue := 0 }, { name := "slot", type := (.array .int), accessFlags := 18, slot := 10, constantValue := 0 }, { name := "row", type := .int, accessFlags := 2, slot := 11, constantValue := 0 }, { name := "position", type := .int, accessFlags := 2, slot := 12, constantValue := 0 }, { name := "this$0", type := (.object "com/example/foreshock/foreshock/planning/BasisFactorization"), accessFlags := 4112, slot := 13, constantValue := 0 }]
  methods := #[k4m0, k4m1, k4m2, k4m3, k4m4, k4m5, k4m6, k4m7, k4m8, k4m9]
  instanceTypes := #[(.array (.array .int)), (.array (.array .double)), (.array .int), (.array (.array .int)), (.array .int), (.array .int), (.array .boolean), (.array .boolean), (.object "com/example/foreshock/foreshock/planning/BasisFactorization$CountLists"), (.object "com/example/foreshock/foreshock/planning/BasisFactorization$CountLists"), (.array .int), .int, .int, (.object "com/example/foreshock/foreshock/planning/BasisFactorization")]
  staticTypes := #[]
  resolved := Array.replicate 194 none
  statics := none }

def pool5 : Array CpInfo := pool [(1, .methodref 2 3), (0, .class_ 4), (0, .nameAndType 5 6), (0, u "java/lang/Object"), (0, u "<init>"), (0, u "()V"), (0, .fieldref 8 9), (0, .class_ 10), (0, .nameAndType 11 12), (0, u "com/example/foreshock/foreshock/planning/BasisFactorization$CountLists"), (0, u "head"), (0, u "[I"), (0, .methodref 14 15), (0, .class_ 16), (0, .nameAndType 17 18), (0, u "java/util/Arrays"), (0, u "fill"), (0, u "([II)V"), (0, .fieldref 8 20), (0, .nameAndType 21 12), (0, u "next"), (0, .fieldref 8 23), (0, .nameAndType 24 12), (0, u "previous"), (0, .fieldref 8 26), (0, .nameAndType 27 12), (0, u "count"), (0, .methodref 8 29), (0, .nameAndType 30 31), (0, u "remove"), (0, u "(I)V"), (0, .methodref 8 33), (0, .nameAndType 34 35), (0, u "insert"), (0, u "(II)V"), (3, u "move"), (0, u "first"), (0, u "(I)I"), (3, .class_ 46), (0, u "com/example/foreshock/foreshock/planning/BasisFactorization")] 2

def k5c0 : Code := { maxStack := 3, maxLocals := 2, code := prog_25_method_1_code, exceptionTable := #[], attributes := #[] }
def k5m0 : Method := { name := "<init>", desc := "(I)V", sig := { parameters := [.int], returnType := none }, accessFlags := 0, code := some k5c0 }
def k5c1 : Code := { maxStack := 4, maxLocals := 3, code := prog_25_method_2_code, exceptionTable := #[], attributes := #[] }
def k5m1 : Method := { name := "insert", desc := "(II)V", sig := { parameters := [.int, .int], returnType := none }, accessFlags := 0, code := some k5c1 }
def k5c2 : Code := { maxStack := 4, maxLocals := 2, code := prog_25_method_3_code, exceptionTable := #[], attributes := #[] }
def k5m2 : Method := { name := "remove", desc := "(I)V", sig := { parameters := [.int], returnType := none }, accessFlags := 0, code := some k5c2 }
def k5c3 : Code := { maxStack := 3, maxLocals := 3, code := prog_25_method_4_code, exceptionTable := #[], attributes := #[] }
def k5m3 : Method := { name := "move", desc := "(II)V", sig := { parameters := [.int, .int], returnType := none }, accessFlags := 0, code := some k5c3 }
def k5c4 : Code := { maxStack := 2, maxLocals := 2, code := prog_25_method_5_code, exceptionTable := #[], attributes := #[] }
def k5m4 : Method := { name := "first", desc := "(I)I", sig := { parameters := [.int], returnType := some .int }, accessFlags := 0, code := some k5c4 }
/-- com/example/foreshock/foreshock/planning/BasisFactorization$CountLists -/
def k5 : Class := { plain "com/example/foreshock/foreshock/planning/BasisFactorization$CountLists" (some 0) with
  accessFlags := 48
  interfaces := #[]
  cf := some (fileOf pool5 8 #[.nestHost 45] #[{ accessFlags := 0, nameIndex := 5, descriptorIndex := 31, attributes := #[] }, { accessFlags := 0, nameIndex := 34, descriptorIndex := 35, attributes := #[] }, { accessFlags := 0, nameIndex := 30, descriptorIndex := 31, attributes := #[] }, { accessFlags := 0, nameIndex := 39, descriptorIndex := 35, attributes := #[] }, { accessFlags := 0, nameIndex := 40, descriptorIndex := 41, attributes := #[] }] 48 2 #[] #[{ accessFlags := 18, nameIndex := 11, descriptorIndex := 12, attributes := #[] }, { accessFlags := 18, nameIndex := 21, descriptorIndex := 12, attributes := #[] }, { accessFlags := 18, nameIndex := 24, descriptorIndex := 12, attributes := #[] }, { accessFlags := 18, nameIndex := 27, descriptorIndex := 12, attributes := #[] }])
  fields := #[{ name := "head", type := (.array .int), accessFlags := 18, slot := 0, constantValue := 0 }, { name := "next", type := (.array .int), accessFlags := 18, slot := 1, constantValue := 0 }, { name := "previous", type := (.array .int), accessFlags := 18, slot := 2, constantValue := 0 }, { name := "count", type := (.array .int), accessFlags := 18, slot := 3, constantValue := 0 }]
  methods := #[k5m0, k5m1, k5m2, k5m3, k5m4]
  instanceTypes := #[(.array .int), (.array .int), (.array .int), (.array .int)]
  staticTypes := #[]
  resolved := Array.replicate 49 none
  statics := none }

def pool6 : Array CpInfo := pool [(2, .class_ 4), (1, u "java/lang/Object"), (0, u "<init>"), (0, u "()V"), (7, .class_ 16), (1, u "java/util/Arrays"), (57, .class_ 76), (1, u "java/util/Arrays$NaturalOrder"), (36, .class_ 115), (1, u "java/util/Arrays$LegacyMergeSort"), (1, u "Z"), (32, .methodref 151 152), (0, .class_ 153), (0, .nameAndType 154 155), (0, u "java/lang/System"), (0, u "arraycopy"), (0, u "(Ljava/lang/Object;ILjava/lang/Object;II)V"), (146, u "copyOf"), (1, .methodref 305 306), (0, .class_ 307), (0, .nameAndType 308 309), (0, u "java/lang/Math"), (0, u "min"), (0, u "(II)I"), (65, .class_ 376), (0, u "java/util/Arrays$ArrayList"), (68, u "$assertionsDisabled"), (269, u "MIN_ARRAY_SORT_GRAN"), (0, u "I"), (2, u "INSERTIONSORT_THRESHOLD"), (120, u "fill"), (4, u "([II)V"), (8, u "([DD)V"), (16, u "([II)[I"), (103, .class_ 976), (0, u "java/util/Arrays$ArrayItr")] 52

def k6m0 : Method := { name := "<init>", desc := "()V", sig := { parameters := [], returnType := none }, accessFlags := 2, code := none }
def k6c1 : Code := { maxStack := 3, maxLocals := 4, code := jdk_65_method_103_code, exceptionTable := #[], attributes := #[] }
def k6m1 : Method := { name := "fill", desc := "([II)V", sig := { parameters := [(.array .int), .int], returnType := none }, accessFlags := 9, code := some k6c1 }
def k6c2 : Code := { maxStack := 4, maxLocals := 5, code := jdk_65_method_113_code, exceptionTable := #[], attributes := #[] }
def k6m2 : Method := { name := "fill", desc := "([DD)V", sig := { parameters := [(.array .double), .double], returnType := none }, accessFlags := 9, code := some k6c2 }
def k6c3 : Code := { maxStack := 6, maxLocals := 3, code := jdk_65_method_123_code, exceptionTable := #[], attributes := #[] }
def k6m3 : Method := { name := "copyOf", desc := "([II)[I", sig := { parameters := [(.array .int), .int], returnType := some (.array .int) }, accessFlags := 9, code := some k6c3 }
/-- java/util/Arrays -/
def k6 : Class := { plain "java/util/Arrays" (some 0) with
  accessFlags := 49
  interfaces := #[]
  cf := some (fileOf pool6 14 #[.nestMembers #[975, 375, 113, 74]] #[{ accessFlags := 2, nameIndex := 5, descriptorIndex := 6, attributes := #[] }, { accessFlags := 9, nameIndex := 840, descriptorIndex := 845, attributes := #[] }, { accessFlags := 9, nameIndex := 840, descriptorIndex := 854, attributes := #[] }, { accessFlags := 9, nameIndex := 302, descriptorIndex := 871, attributes := #[] }] 49 2 #[] #[{ accessFlags := 26, nameIndex := 715, descriptorIndex := 716, attributes := #[] }, { accessFlags := 26, nameIndex := 719, descriptorIndex := 716, attributes := #[] }, { accessFlags := 4120, nameIndex := 445, descriptorIndex := 117, attributes := #[] }])
  fields := #[{ name := "MIN_ARRAY_SORT_GRAN", type := .int, accessFlags := 26, slot := 0, constantValue := 0 }, { name := "INSERTIONSORT_THRESHOLD", type := .int, accessFlags := 26, slot := 1, constantValue := 0 }, { name := "$assertionsDisabled", type := .boolean, accessFlags := 4120, slot := 2, constantValue := 0 }]
  methods := #[k6m0, k6m1, k6m2, k6m3]
  instanceTypes := #[]
  staticTypes := #[.int, .int, .boolean]
  resolved := Array.replicate 1029 none
  statics := none }

def pool7 : Array CpInfo := pool [(1, .class_ 2), (0, u "java/lang/Cloneable"), (0, .class_ 4), (0, u "java/lang/Object")] 2

/-- java/lang/Cloneable -/
def k7 : Class := { plain "java/lang/Cloneable" (some 0) with
  accessFlags := 1537
  interfaces := #[]
  cf := some (fileOf pool7 1 #[] #[] 1537 3 #[] #[])
  fields := #[]
  methods := #[]
  instanceTypes := #[]
  staticTypes := #[]
  resolved := Array.replicate 7 none
  statics := none }

def pool8 : Array CpInfo := pool [(1, .class_ 2), (0, u "java/lang/Math"), (1, .class_ 6), (1, u "java/lang/Object"), (0, u "<init>"), (0, u "()V"), (5, u "(D)D"), (37, u "(DD)D"), (45, .class_ 100), (1, u "java/lang/Math$RandomNumberGeneratorHolder"), (23, u "abs"), (47, u "negativeZeroFloatBits"), (0, u "J"), (2, u "negativeZeroDoubleBits"), (21, u "max"), (2, u "min"), (43, u "$assertionsDisabled"), (0, u "Z"), (88, u "(II)I"), (2, u "twoToTheDoubleScaleDown"), (0, u "D"), (4, u "twoToTheDoubleScaleUp"), (9, u "E"), (3, u "PI"), (2, u "TAU"), (2, u "DEGREES_TO_RADIANS"), (0, u "RADIANS_TO_DEGREES")] 94

def k8m0 : Method := { name := "<init>", desc := "()V", sig := { parameters := [], returnType := none }, accessFlags := 2, code := none }
def k8c1 : Code := { maxStack := 4, maxLocals := 2, code := jdk_29_method_64_code, exceptionTable := #[], attributes := #[] }
def k8m1 : Method := { name := "abs", desc := "(D)D", sig := { parameters := [.double], returnType := some .double }, accessFlags := 9, code := some k8c1 }
def k8c2 : Code := { maxStack := 4, maxLocals := 4, code := jdk_29_method_68_code, exceptionTable := #[], attributes := #[] }
def k8m2 : Method := { name := "max", desc := "(DD)D", sig := { parameters := [.double, .double], returnType := some .double }, accessFlags := 9, code := some k8c2 }
def k8c3 : Code := { maxStack := 2, maxLocals := 2, code := jdk_29_method_69_code, exceptionTable := #[], attributes := #[] }
def k8m3 : Method := { name := "min", desc := "(II)I", sig := { parameters := [.int, .int], returnType := some .int }, accessFlags := 9, code := some k8c3 }
/-- java/lang/Math -/
def k8 : Class := { plain "java/lang/Math" (some 0) with
  accessFlags := 49
  interfaces := #[]
  cf := some (fileOf pool8 1 #[.nestMembers #[98]] #[{ accessFlags := 2, nameIndex := 7, descriptorIndex := 8, attributes := #[] }, { accessFlags := 9, nameIndex := 124, descriptorIndex := 14, attributes := #[] }, { accessFlags := 9, nameIndex := 198, descriptorIndex := 52, attributes := #[] }, { accessFlags := 9, nameIndex := 201, descriptorIndex := 335, attributes := #[] }] 49 4 #[] #[{ accessFlags := 25, nameIndex := 354, descriptorIndex := 339, attributes := #[] }, { accessFlags := 25, nameIndex := 358, descriptorIndex := 339, attributes := #[] }, { accessFlags := 25, nameIndex := 361, descriptorIndex := 339, attributes := #[] }, { accessFlags := 26, nameIndex := 364, descriptorIndex := 339, attributes := #[] }, { accessFlags := 26, nameIndex := 365, descriptorIndex := 339, attributes := #[] }, { accessFlags := 26, nameIndex := 172, descriptorIndex := 173, attributes := #[] }, { accessFlags := 26, nameIndex := 176, descriptorIndex := 173, attributes := #[] }, { accessFlags := 8, nameIndex := 344, descriptorIndex := 339, attributes := #[] }, { accessFlags := 8, nameIndex := 338, descriptorIndex := 339, attributes := #[] }, { accessFlags := 4120, nameIndex := 245, descriptorIndex := 246, attributes := #[] }])
  fields := #[{ name := "E", type := .double, accessFlags := 25, slot := 0, constantValue := 0 }, { name := "PI", type := .double, accessFlags := 25, slot := 1, constantValue := 0 }, { name := "TAU", type := .double, accessFlags := 25, slot := 2, constantValue := 0 }, { name := "DEGREES_TO_RADIANS", type := .double, accessFlags := 26, slot := 3, constantValue := 0 }, { name := "RADIANS_TO_DEGREES", type := .double, accessFlags := 26, slot := 4, constantValue := 0 }, { name := "negativeZeroFloatBits", type := .long, accessFlags := 26, slot := 5, constantValue := 0 }, { name := "negativeZeroDoubleBits", type := .long, accessFlags := 26, slot := 6, constantValue := 0 }, { name := "twoToTheDoubleScaleUp", type := .double, accessFlags := 8, slot := 7, constantValue := 0 }, { name := "twoToTheDoubleScaleDown", type := .double, accessFlags := 8, slot := 8, constantValue := 0 }, { name := "$assertionsDisabled", type := .boolean, accessFlags := 4120, slot := 9, constantValue := 0 }]
  methods := #[k8m0, k8m1, k8m2, k8m3]
  instanceTypes := #[]
  staticTypes := #[.double, .double, .double, .double, .double, .long, .long, .double, .double, .boolean]
  resolved := Array.replicate 460 none
  statics := none }

def pool9 : Array CpInfo := pool [(2, .class_ 4), (1, u "java/lang/Object"), (0, u "<init>"), (0, u "()V"), (1, .class_ 10), (1, u "java/lang/System"), (0, u "allowSecurityManager"), (0, u "I"), (16, u "cons"), (0, u "Ljava/io/Console;"), (77, .class_ 110), (1, u "java/lang/System$CallersHolder"), (43, u "initialErrStream"), (0, u "Ljava/io/PrintStream;"), (19, u "security"), (0, u "Ljava/lang/SecurityManager;"), (31, .class_ 209), (0, u "java/lang/System$1"), (7, u "props"), (0, u "Ljava/util/Properties;"), (2, u "lineSeparator"), (0, u "Ljava/lang/String;"), (96, .class_ 321), (1, u "java/lang/System$LoggerFinder"), (5, .class_ 328), (0, u "java/lang/System$Logger"), (67, u "err"), (2, u "out"), (91, u "notSupportedJnuEncoding"), (15, u "in"), (17, u "initialIn"), (0, u "Ljava/io/InputStream;"), (35, u "bootLayer"), (0, u "Ljava/lang/ModuleLayer;"), (99, .class_ 664), (0, u "java/lang/System$2"), (9, u "NEVER"), (2, u "MAYBE"), (49, u "arraycopy"), (0, u "(Ljava/lang/Object;ILjava/lang/Object;II)V"), (72, .class_ 802), (0, u "java/lang/System$Logger$Level")] 31

def k9m0 : Method := { name := "<init>", desc := "()V", sig := { parameters := [], returnType := none }, accessFlags := 2, code := none }
def k9m1 : Method := { name := "arraycopy", desc := "(Ljava/lang/Object;ILjava/lang/Object;II)V", sig := { parameters := [(.object "java/lang/Object"), .int, (.object "java/lang/Object"), .int, .int], returnType := none }, accessFlags := 265, code := none }
/-- java/lang/System -/
def k9 : Class := { plain "java/lang/System" (some 0) with
  accessFlags := 49
  interfaces := #[]
  cf := some (fileOf pool9 8 #[.nestMembers #[319, 327, 801, 108, 663, 208]] #[{ accessFlags := 2, nameIndex := 5, descriptorIndex := 6, attributes := #[] }, { accessFlags := 265, nameIndex := 727, descriptorIndex := 728, attributes := #[] }] 49 2 #[] #[{ accessFlags := 25, nameIndex := 507, descriptorIndex := 526, attributes := #[] }, { accessFlags := 25, nameIndex := 399, descriptorIndex := 155, attributes := #[] }, { accessFlags := 25, nameIndex := 396, descriptorIndex := 155, attributes := #[] }, { accessFlags := 10, nameIndex := 525, descriptorIndex := 526, attributes := #[] }, { accessFlags := 26, nameIndex := 674, descriptorIndex := 12, attributes := #[] }, { accessFlags := 26, nameIndex := 677, descriptorIndex := 12, attributes := #[] }, { accessFlags := 10, nameIndex := 11, descriptorIndex := 12, attributes := #[] }, { accessFlags := 74, nameIndex := 175, descriptorIndex := 176, attributes := #[] }, { accessFlags := 10, nameIndex := 491, descriptorIndex := 222, attributes := #[] }, { accessFlags := 74, nameIndex := 29, descriptorIndex := 30, attributes := #[] }, { accessFlags := 74, nameIndex := 154, descriptorIndex := 155, attributes := #[] }, { accessFlags := 10, nameIndex := 217, descriptorIndex := 218, attributes := #[] }, { accessFlags := 10, nameIndex := 221, descriptorIndex := 222, attributes := #[] }, { accessFlags := 8, nameIndex := 562, descriptorIndex := 563, attributes := #[] }])
  fields := #[{ name := "in", type := (.object "java/io/InputStream"), accessFlags := 25, slot := 0, constantValue := 0 }, { name := "out", type := (.object "java/io/PrintStream"), accessFlags := 25, slot := 1, constantValue := 0 }, { name := "err", type := (.object "java/io/PrintStream"), accessFlags := 25, slot := 2, constantValue := 0 }, { name := "initialIn", type := (.object "java/io/InputStream"), accessFlags := 10, slot := 3, constantValue := 0 }, { name := "NEVER", type := .int, accessFlags := 26, slot := 4, constantValue := 0 }, { name := "MAYBE", type := .int, accessFlags := 26, slot := 5, constantValue := 0 }, { name := "allowSecurityManager", type := .int, accessFlags := 10, slot := 6, constantValue := 0 }, { name := "security", type := (.object "java/lang/SecurityManager"), accessFlags := 74, slot := 7, constantValue := 0 }, { name := "notSupportedJnuEncoding", type := (.object "java/lang/String"), accessFlags := 10, slot := 8, constantValue := 0 }, { name := "cons", type := (.object "java/io/Console"), accessFlags := 74, slot := 9, constantValue := 0 }, { name := "initialErrStream", type := (.object "java/io/PrintStream"), accessFlags := 74, slot := 10, constantValue := 0 }, { name := "props", type := (.object "java/util/Properties"), accessFlags := 10, slot := 11, constantValue := 0 }, { name := "lineSeparator", type := (.object "java/lang/String"), accessFlags := 10, slot := 12, constantValue := 0 }, { name := "bootLayer", type := (.object "java/lang/ModuleLayer"), accessFlags := 8, slot := 13, constantValue := 0 }]
  methods := #[k9m0, k9m1]
  instanceTypes := #[]
  staticTypes := #[(.object "java/io/InputStream"), (.object "java/io/PrintStream"), (.object "java/io/PrintStream"), (.object "java/io/InputStream"), .int, .int, .int, (.object "java/lang/SecurityManager"), (.object "java/lang/String"), (.object "java/io/Console"), (.object "java/io/PrintStream"), (.object "java/util/Properties"), (.object "java/lang/String"), (.object "java/lang/ModuleLayer")]
  resolved := Array.replicate 834 none
  statics := none }

def pool10 : Array CpInfo := pool [(1, u "java/io/Serializable"), (0, .class_ 1), (0, u "java/lang/Object"), (0, .class_ 3)] 3

/-- java/io/Serializable -/
def k10 : Class := { plain "java/io/Serializable" (some 0) with
  accessFlags := 1537
  interfaces := #[]
  cf := some (fileOf pool10 2 #[] #[] 1537 4 #[] #[])
  fields := #[]
  methods := #[]
  instanceTypes := #[]
  staticTypes := #[]
  resolved := Array.replicate 8 none
  statics := none }

/-- the primitive boolean -/
def k11 : Class := { plain "boolean" none with kind := .primitive 'Z', accessFlags := 0x411 }
/-- [Z -/
def k12 : Class := { plain "[Z" (some 0) with kind := .array 11 .boolean, interfaces := #[7, 10], accessFlags := 1041 }

/-- the primitive byte -/
def k13 : Class := { plain "byte" none with kind := .primitive 'B', accessFlags := 0x411 }
/-- [B -/
def k14 : Class := { plain "[B" (some 0) with kind := .array 13 .byte, interfaces := #[7, 10], accessFlags := 1041 }

/-- the primitive double -/
def k15 : Class := { plain "double" none with kind := .primitive 'D', accessFlags := 0x411 }
/-- [D -/
def k16 : Class := { plain "[D" (some 0) with kind := .array 15 .double, interfaces := #[7, 10], accessFlags := 1041 }

/-- the primitive int -/
def k17 : Class := { plain "int" none with kind := .primitive 'I', accessFlags := 0x411 }
/-- [I -/
def k18 : Class := { plain "[I" (some 0) with kind := .array 17 .int, interfaces := #[7, 10], accessFlags := 1041 }

/-- [[I -/
def k19 : Class := { plain "[[I" (some 0) with kind := .array 18 (.array .int), interfaces := #[7, 10], accessFlags := 1041 }
/-- [[D -/
def k20 : Class := { plain "[[D" (some 0) with kind := .array 16 (.array .double), interfaces := #[7, 10], accessFlags := 1041 }
def heap : Heap := #[]
def classes : Array Class := #[k0, k1, k2, k3, k4, k5, k6, k7, k8, k9, k10, k11, k12, k13, k14, k15, k16, k17, k18, k19, k20]
def interned : List (Array UInt16 × Addr) := []
def slotsUsed : Nat := 0
def theMethod : MethodId := ⟨1, 5⟩
def args0 : Array Value := #[.int 5, .int 5, .int 5, .int 5]
def aboutOver (below : List Frame) : State where
  vm := { classes := classes, interned := interned.toArray }
  heap := heap
  slotsUsed := slotsUsed
  threads := #[{ frames := .invoking theMethod args0 :: below }]
def below0 : List Frame := [.native { method := ⟨0, 0⟩, args := #[] }]
def about1 : State := aboutOver below0
def p0 : Program := .bare "" "" ""
def e0 : Env := launch0.env 0 0 0
theorem w_frames : about1.frames = Frame.invoking theMethod args0 :: below0 := rfl
set_option maxRecDepth 65536 in
theorem w_args : argsFit about1.vm theMethod args0 = true := by decide +kernel
set_option maxRecDepth 65536 in
theorem w_heap : heapFits about1 = true := by decide +kernel
set_option maxRecDepth 65536 in
theorem w_runnable : about1.curStatus? = some .runnable := by decide +kernel
set_option maxRecDepth 65536 in
theorem w_alone : about1.alone = true := by decide +kernel
set_option maxRecDepth 65536 in
theorem w_named : about1.methodNamed? x = some theMethod := by decide +kernel
set_option maxRecDepth 65536 in
theorem w_hears : about1.hears theMethod below0 = true := by decide +kernel
set_option maxRecDepth 65536 in
theorem w_ripe : about1.ripe theMethod args0 below0 = true := by decide +kernel
theorem w_running : about1.status = .running := rfl
set_option maxRecDepth 65536 in
theorem w_room : about1.hasRoom e0.platform room_1 = true :=
  launch0.hasRoom_least _ room_1 (by decide +kernel) (by decide +kernel) (by decide +kernel) (by decide +kernel) (by decide +kernel) (by decide +kernel)
theorem allAtoms_all (ts : List Jvm.Cond) (a : Array Jvm.Value) (st : Jvm.State) : (allAtoms ts).before a st = ts.all (fun c => c.before a st) := by
  induction ts with
  | nil => rfl
  | cons c t ih =>
    show (Jvm.Cond.and c (allAtoms t)).before a st = _
    rw [Jvm.Cond.before_and, ih, List.all_cons]
def words1 : List Jvm.Cond := Jvm.Cond.code x code maxLocals ret :: tables_1
/-- a 'code' word, met by the world's own term for the bytes: nothing is compared byte by byte -/
theorem code_word {y : MethodName} {bytes : ByteArray} {mx : Nat} {rt : Option FieldType} {a : Array Value} {s : State} {m : MethodId} {meth : Method} {c : Code} (h1 : s.methodNamed? y = some m) (h2 : s.vm.method? m = some meth) (h3 : meth.code = some c) (h4 : c.code = bytes)
    (h5 : (c.maxLocals == mx && c.exceptionTable.isEmpty && decide (c.maxStack ≤ mostOperands) && decide (meth.sig.returnType = rt) && !meth.locks && decide (parseMethodDescriptor y.desc = some meth.sig)) = true) : (Jvm.Cond.code y bytes mx rt).before a s = true := by
  simp only [Bool.and_eq_true, beq_iff_eq, Bool.not_eq_true', decide_eq_true_eq] at h5
  obtain ⟨⟨⟨⟨⟨g1, g2⟩, g3⟩, g4⟩, g5⟩, g6⟩ := h5
  simp [Cond.before, Cond.holds, Cond.value, h1, h2, h3, h4, g1, g2, g3, g4, g5, g6]
def isCode : Jvm.Cond → Bool
  | .code _ _ _ _ => true
  | _ => false
theorem all_split {L : List Jvm.Cond} {P : Jvm.Cond → Bool} (h1 : L.all (fun c => isCode c || P c) = true) (h2 : ∀ c ∈ L.filter isCode, P c = true) : L.all P = true := by
  refine List.all_eq_true.mpr fun c hc => ?_
  have h := List.all_eq_true.mp h1 c hc
  rcases Bool.eq_false_or_eq_true (isCode c) with hi | hi
  · exact h2 c (List.mem_filter.mpr ⟨hc, hi⟩)
  · simpa [hi] using h
set_option maxRecDepth 65536 in
theorem w_c0 : (Jvm.Cond.code x code maxLocals ret).before args0 about1 = true := code_word (m := ⟨1, 5⟩) (meth := k1m5) (c := k1c5) (by decide +kernel) rfl rfl rfl (by decide +kernel)
set_option maxRecDepth 65536 in
theorem w_c1 : (Jvm.Cond.code ({ cls := "com/example/foreshock/foreshock/planning/BasisFactorizationSolveTransposedPinLaw", name := "ent", desc := "(I)I" } : Jvm.MethodName) method_2_code (2 : Nat) (Option.some Jvm.ClassFile.FieldType.int)).before args0 about1 = true := code_word (m := ⟨1, 1⟩) (meth := k1m1) (c := k1c1) (by decide +kernel) rfl rfl rfl (by decide +kernel)
set_option maxRecDepth 65536 in
theorem w_c2 : (Jvm.Cond.code ({ cls := "com/example/foreshock/foreshock/planning/BasisFactorizationSolveTransposedPinLaw", name := "rowsOf", desc := "(IIZ)[I" } : Jvm.MethodName) method_3_code (3 : Nat) (Option.some (Jvm.ClassFile.FieldType.array Jvm.ClassFile.FieldType.int))).before args0 about1 = true := code_word (m := ⟨1, 2⟩) (meth := k1m2) (c := k1c2) (by decide +kernel) rfl rfl rfl (by decide +kernel)
set_option maxRecDepth 65536 in
theorem w_c3 : (Jvm.Cond.code ({ cls := "com/example/foreshock/foreshock/planning/BasisFactorizationSolveTransposedPinLaw", name := "valuesOf", desc := "(IIZ)[D" } : Jvm.MethodName) method_4_code (3 : Nat) (Option.some (Jvm.ClassFile.FieldType.array Jvm.ClassFile.FieldType.double))).before args0 about1 = true := code_word (m := ⟨1, 3⟩) (meth := k1m3) (c := k1c3) (by decide +kernel) rfl rfl rfl (by decide +kernel)
set_option maxRecDepth 65536 in
theorem w_c4 : (Jvm.Cond.code ({ cls := "com/example/foreshock/foreshock/planning/BasisFactorization", name := "<init>", desc := "(I)V" } : Jvm.MethodName) prog_24_method_1_code (2 : Nat) (Option.none : Option Jvm.ClassFile.FieldType)).before args0 about1 = true := code_word (m := ⟨2, 0⟩) (meth := k2m0) (c := k2c0) (by decide +kernel) rfl rfl rfl (by decide +kernel)
set_option maxRecDepth 65536 in
theorem w_c5 : (Jvm.Cond.code ({ cls := "java/lang/Object", name := "<init>", desc := "()V" } : Jvm.MethodName) object_method_1_code (1 : Nat) (Option.none : Option Jvm.ClassFile.FieldType)).before args0 about1 = true := code_word (m := ⟨0, 0⟩) (meth := k0m0) (c := k0c0) (by decide +kernel) rfl rfl rfl (by decide +kernel)
set_option maxRecDepth 65536 in
theorem w_c6 : (Jvm.Cond.code ({ cls := "com/example/foreshock/foreshock/planning/BasisFactorization$EntryLists", name := "<init>", desc := "()V" } : Jvm.MethodName) prog_27_method_1_code (1 : Nat) (Option.none : Option Jvm.ClassFile.FieldType)).before args0 about1 = true := code_word (m := ⟨3, 0⟩) (meth := k3m0) (c := k3c0) (by decide +kernel) rfl rfl rfl (by decide +kernel)
set_option maxRecDepth 65536 in
theorem w_c7 : (Jvm.Cond.code ({ cls := "com/example/foreshock/foreshock/planning/BasisFactorization", name := "factorize", desc := "([[I[[D)Z" } : Jvm.MethodName) prog_24_method_2_code (4 : Nat) (Option.some Jvm.ClassFile.FieldType.boolean)).before args0 about1 = true := code_word (m := ⟨2, 1⟩) (meth := k2m1) (c := k2c1) (by decide +kernel) rfl rfl rfl (by decide +kernel)
set_option maxRecDepth 65536 in
theorem w_c8 : (Jvm.Cond.code ({ cls := "com/example/foreshock/foreshock/planning/BasisFactorization$EntryLists", name := "clear", desc := "()V" } : Jvm.MethodName) prog_27_method_2_code (1 : Nat) (Option.none : Option Jvm.ClassFile.FieldType)).before args0 about1 = true := code_word (m := ⟨3, 1⟩) (meth := k3m1) (c := k3c1) (by decide +kernel) rfl rfl rfl (by decide +kernel)
set_option maxRecDepth 65536 in
theorem w_c9 : (Jvm.Cond.code ({ cls := "com/example/foreshock/foreshock/planning/BasisFactorization$Elimination", name := "<init>", desc := "(Lcom/example/foreshock/foreshock/planning/BasisFactorization;[[I[[D)V" } : Jvm.MethodName) prog_26_method_1_code (6 : Nat) (Option.none : Option Jvm.ClassFile.FieldType)).before args0 about1 = true := code_word (m := ⟨4, 0⟩) (meth := k4m0) (c := k4c0) (by decide +kernel) rfl rfl rfl (by decide +kernel)
set_option maxRecDepth 65536 in
theorem w_c10 : (Jvm.Cond.code ({ cls := "com/example/foreshock/foreshock/planning/BasisFactorization$CountLists", name := "<init>", desc := "(I)V" } : Jvm.MethodName) prog_25_method_1_code (2 : Nat) (Option.none : Option Jvm.ClassFile.FieldType)).before args0 about1 = true := code_word (m := ⟨5, 0⟩) (meth := k5m0) (c := k5c0) (by decide +kernel) rfl rfl rfl (by decide +kernel)
set_option maxRecDepth 65536 in
theorem w_c11 : (Jvm.Cond.code ({ cls := "java/util/Arrays", name := "fill", desc := "([II)V" } : Jvm.MethodName) jdk_65_method_103_code (4 : Nat) (Option.none : Option Jvm.ClassFile.FieldType)).before args0 about1 = true := code_word (m := ⟨6, 1⟩) (meth := k6m1) (c := k6c1) (by decide +kernel) rfl rfl rfl (by decide +kernel)
set_option maxRecDepth 65536 in
theorem w_c12 : (Jvm.Cond.code ({ cls := "com/example/foreshock/foreshock/planning/BasisFactorization$Elimination", name := "append", desc := "(IID)V" } : Jvm.MethodName) prog_26_method_6_code (5 : Nat) (Option.none : Option Jvm.ClassFile.FieldType)).before args0 about1 = true := code_word (m := ⟨4, 5⟩) (meth := k4m5) (c := k4c5) (by decide +kernel) rfl rfl rfl (by decide +kernel)
set_option maxRecDepth 65536 in
theorem w_c13 : (Jvm.Cond.code ({ cls := "com/example/foreshock/foreshock/planning/BasisFactorization$CountLists", name := "insert", desc := "(II)V" } : Jvm.MethodName) prog_25_method_2_code (3 : Nat) (Option.none : Option Jvm.ClassFile.FieldType)).before args0 about1 = true := code_word (m := ⟨5, 1⟩) (meth := k5m1) (c := k5c1) (by decide +kernel) rfl rfl rfl (by decide +kernel)
set_option maxRecDepth 65536 in
theorem w_c14 : (Jvm.Cond.code ({ cls := "com/example/foreshock/foreshock/planning/BasisFactorization$Elimination", name := "findPivot", desc := "()Z" } : Jvm.MethodName) prog_26_method_2_code (14 : Nat) (Option.some Jvm.ClassFile.FieldType.boolean)).before args0 about1 = true := code_word (m := ⟨4, 1⟩) (meth := k4m1) (c := k4c1) (by decide +kernel) rfl rfl rfl (by decide +kernel)
set_option maxRecDepth 65536 in
theorem w_c15 : (Jvm.Cond.code ({ cls := "com/example/foreshock/foreshock/planning/BasisFactorization$CountLists", name := "first", desc := "(I)I" } : Jvm.MethodName) prog_25_method_5_code (2 : Nat) (Option.some Jvm.ClassFile.FieldType.int)).before args0 about1 = true := code_word (m := ⟨5, 4⟩) (meth := k5m4) (c := k5c4) (by decide +kernel) rfl rfl rfl (by decide +kernel)
set_option maxRecDepth 65536 in
theorem w_c16 : (Jvm.Cond.code ({ cls := "com/example/foreshock/foreshock/planning/BasisFactorization$Elimination", name := "largestIn", desc := "(I)D" } : Jvm.MethodName) prog_26_method_10_code (6 : Nat) (Option.some Jvm.ClassFile.FieldType.double)).before args0 about1 = true := code_word (m := ⟨4, 8⟩) (meth := k4m8) (c := k4c8) (by decide +kernel) rfl rfl rfl (by decide +kernel)
set_option maxRecDepth 65536 in
theorem w_c17 : (Jvm.Cond.code ({ cls := "com/example/foreshock/foreshock/planning/BasisFactorization$Elimination", name := "valueAt", desc := "(II)D" } : Jvm.MethodName) prog_26_method_9_code (4 : Nat) (Option.some Jvm.ClassFile.FieldType.double)).before args0 about1 = true := code_word (m := ⟨4, 7⟩) (meth := k4m7) (c := k4c7) (by decide +kernel) rfl rfl rfl (by decide +kernel)
set_option maxRecDepth 65536 in
theorem w_c18 : (Jvm.Cond.code ({ cls := "java/lang/Math", name := "abs", desc := "(D)D" } : Jvm.MethodName) jdk_29_method_64_code (2 : Nat) (Option.some Jvm.ClassFile.FieldType.double)).before args0 about1 = true := code_word (m := ⟨8, 1⟩) (meth := k8m1) (c := k8c1) (by decide +kernel) rfl rfl rfl (by decide +kernel)
set_option maxRecDepth 65536 in
theorem w_c19 : (Jvm.Cond.code ({ cls := "java/lang/Math", name := "max", desc := "(DD)D" } : Jvm.MethodName) jdk_29_method_68_code (4 : Nat) (Option.some Jvm.ClassFile.FieldType.double)).before args0 about1 = true := code_word (m := ⟨8, 2⟩) (meth := k8m2) (c := k8c2) (by decide +kernel) rfl rfl rfl (by decide +kernel)
set_option maxRecDepth 65536 in
theorem w_c20 : (Jvm.Cond.code ({ cls := "com/example/foreshock/foreshock/planning/BasisFactorization$Elimination", name := "stable", desc := "(DD)Z" } : Jvm.MethodName) prog_26_method_3_code (5 : Nat) (Option.some Jvm.ClassFile.FieldType.boolean)).before args0 about1 = true := code_word (m := ⟨4, 2⟩) (meth := k4m2) (c := k4c2) (by decide +kernel) rfl rfl rfl (by decide +kernel)
set_option maxRecDepth 65536 in
theorem w_c21 : (Jvm.Cond.code ({ cls := "com/example/foreshock/foreshock/planning/BasisFactorization$Elimination", name := "eliminate", desc := "()V" } : Jvm.MethodName) prog_26_method_4_code (7 : Nat) (Option.none : Option Jvm.ClassFile.FieldType)).before args0 about1 = true := code_word (m := ⟨4, 3⟩) (meth := k4m3) (c := k4c3) (by decide +kernel) rfl rfl rfl (by decide +kernel)
set_option maxRecDepth 65536 in
theorem w_c22 : (Jvm.Cond.code ({ cls := "com/example/foreshock/foreshock/planning/BasisFactorization$CountLists", name := "remove", desc := "(I)V" } : Jvm.MethodName) prog_25_method_3_code (2 : Nat) (Option.none : Option Jvm.ClassFile.FieldType)).before args0 about1 = true := code_word (m := ⟨5, 2⟩) (meth := k5m2) (c := k5c2) (by decide +kernel) rfl rfl rfl (by decide +kernel)
set_option maxRecDepth 65536 in
theorem w_c23 : (Jvm.Cond.code ({ cls := "com/example/foreshock/foreshock/planning/BasisFactorization$EntryLists", name := "add", desc := "(ID)V" } : Jvm.MethodName) prog_27_method_3_code (4 : Nat) (Option.none : Option Jvm.ClassFile.FieldType)).before args0 about1 = true := code_word (m := ⟨3, 2⟩) (meth := k3m2) (c := k3c2) (by decide +kernel) rfl rfl rfl (by decide +kernel)
set_option maxRecDepth 65536 in
theorem w_c24 : (Jvm.Cond.code ({ cls := "com/example/foreshock/foreshock/planning/BasisFactorization$Elimination", name := "dropPivotedRowFrom", desc := "(I)V" } : Jvm.MethodName) prog_26_method_8_code (2 : Nat) (Option.none : Option Jvm.ClassFile.FieldType)).before args0 about1 = true := code_word (m := ⟨4, 6⟩) (meth := k4m6) (c := k4c6) (by decide +kernel) rfl rfl rfl (by decide +kernel)
set_option maxRecDepth 65536 in
theorem w_c25 : (Jvm.Cond.code ({ cls := "com/example/foreshock/foreshock/planning/BasisFactorization$CountLists", name := "move", desc := "(II)V" } : Jvm.MethodName) prog_25_method_4_code (3 : Nat) (Option.none : Option Jvm.ClassFile.FieldType)).before args0 about1 = true := code_word (m := ⟨5, 3⟩) (meth := k5m3) (c := k5c3) (by decide +kernel) rfl rfl rfl (by decide +kernel)
set_option maxRecDepth 65536 in
theorem w_c26 : (Jvm.Cond.code ({ cls := "com/example/foreshock/foreshock/planning/BasisFactorization$EntryLists", name := "endList", desc := "()V" } : Jvm.MethodName) prog_27_method_4_code (1 : Nat) (Option.none : Option Jvm.ClassFile.FieldType)).before args0 about1 = true := code_word (m := ⟨3, 3⟩) (meth := k3m3) (c := k3c3) (by decide +kernel) rfl rfl rfl (by decide +kernel)
set_option maxRecDepth 65536 in
theorem w_c27 : (Jvm.Cond.code ({ cls := "com/example/foreshock/foreshock/planning/BasisFactorization", name := "indexUpperByColumn", desc := "()V" } : Jvm.MethodName) prog_24_method_9_code (10 : Nat) (Option.none : Option Jvm.ClassFile.FieldType)).before args0 about1 = true := code_word (m := ⟨2, 4⟩) (meth := k2m4) (c := k2c4) (by decide +kernel) rfl rfl rfl (by decide +kernel)
set_option maxRecDepth 65536 in
theorem w_c28 : (Jvm.Cond.code ({ cls := "java/util/Arrays", name := "copyOf", desc := "([II)[I" } : Jvm.MethodName) jdk_65_method_123_code (3 : Nat) (Option.some (Jvm.ClassFile.FieldType.array Jvm.ClassFile.FieldType.int))).before args0 about1 = true := code_word (m := ⟨6, 3⟩) (meth := k6m3) (c := k6c3) (by decide +kernel) rfl rfl rfl (by decide +kernel)
set_option maxRecDepth 65536 in
theorem w_c29 : (Jvm.Cond.code ({ cls := "java/lang/Math", name := "min", desc := "(II)I" } : Jvm.MethodName) jdk_29_method_69_code (2 : Nat) (Option.some Jvm.ClassFile.FieldType.int)).before args0 about1 = true := code_word (m := ⟨8, 3⟩) (meth := k8m3) (c := k8c3) (by decide +kernel) rfl rfl rfl (by decide +kernel)
set_option maxRecDepth 65536 in
theorem w_c30 : (Jvm.Cond.code ({ cls := "com/example/foreshock/foreshock/planning/BasisFactorization$Elimination", name := "unpivoted", desc := "([Z)[I" } : Jvm.MethodName) prog_26_method_11_code (5 : Nat) (Option.some (Jvm.ClassFile.FieldType.array Jvm.ClassFile.FieldType.int))).before args0 about1 = true := code_word (m := ⟨4, 9⟩) (meth := k4m9) (c := k4c9) (by decide +kernel) rfl rfl rfl (by decide +kernel)
set_option maxRecDepth 65536 in
theorem w_c31 : (Jvm.Cond.code ({ cls := "com/example/foreshock/foreshock/planning/BasisFactorizationSolveTransposedPinLaw", name := "change", desc := "(Lcom/example/foreshock/foreshock/planning/BasisFactorization;[II[D)V" } : Jvm.MethodName) method_5_code (11 : Nat) (Option.none : Option Jvm.ClassFile.FieldType)).before args0 about1 = true := code_word (m := ⟨1, 4⟩) (meth := k1m4) (c := k1c4) (by decide +kernel) rfl rfl rfl (by decide +kernel)
set_option maxRecDepth 65536 in
theorem w_c32 : (Jvm.Cond.code ({ cls := "com/example/foreshock/foreshock/planning/BasisFactorization", name := "replace", desc := "(I[D)V" } : Jvm.MethodName) prog_24_method_6_code (4 : Nat) (Option.none : Option Jvm.ClassFile.FieldType)).before args0 about1 = true := code_word (m := ⟨2, 2⟩) (meth := k2m2) (c := k2c2) (by decide +kernel) rfl rfl rfl (by decide +kernel)
set_option maxRecDepth 65536 in
theorem w_c33 : (Jvm.Cond.code ({ cls := "com/example/foreshock/foreshock/planning/BasisFactorization", name := "solveTransposed", desc := "([D[D)V" } : Jvm.MethodName) prog_24_method_8_code (8 : Nat) (Option.none : Option Jvm.ClassFile.FieldType)).before args0 about1 = true := code_word (m := ⟨2, 3⟩) (meth := k2m3) (c := k2c3) (by decide +kernel) rfl rfl rfl (by decide +kernel)
set_option maxRecDepth 65536 in
theorem w_c34 : (Jvm.Cond.code ({ cls := "java/util/Arrays", name := "fill", desc := "([DD)V" } : Jvm.MethodName) jdk_65_method_113_code (5 : Nat) (Option.none : Option Jvm.ClassFile.FieldType)).before args0 about1 = true := code_word (m := ⟨6, 2⟩) (meth := k6m2) (c := k6c2) (by decide +kernel) rfl rfl rfl (by decide +kernel)
set_option maxRecDepth 65536 in
theorem w_c35 : (Jvm.Cond.code ({ cls := "com/example/foreshock/foreshock/planning/BasisFactorization$Elimination", name := "subtract", desc := "(ID)V" } : Jvm.MethodName) prog_26_method_5_code (8 : Nat) (Option.none : Option Jvm.ClassFile.FieldType)).before args0 about1 = true := code_word (m := ⟨4, 4⟩) (meth := k4m4) (c := k4c4) (by decide +kernel) rfl rfl rfl (by decide +kernel)
def codes1 : List Jvm.Cond := [Jvm.Cond.code x code maxLocals ret, Jvm.Cond.code ({ cls := "com/example/foreshock/foreshock/planning/BasisFactorizationSolveTransposedPinLaw", name := "ent", desc := "(I)I" } : Jvm.MethodName) method_2_code (2 : Nat) (Option.some Jvm.ClassFile.FieldType.int), Jvm.Cond.code ({ cls := "com/example/foreshock/foreshock/planning/BasisFactorizationSolveTransposedPinLaw", name := "rowsOf", desc := "(IIZ)[I" } : Jvm.MethodName) method_3_code (3 : Nat) (Option.some (Jvm.ClassFile.FieldType.array Jvm.ClassFile.FieldType.int)), Jvm.Cond.code ({ cls := "com/example/foreshock/foreshock/planning/BasisFactorizationSolveTransposedPinLaw", name := "valuesOf", desc := "(IIZ)[D" } : Jvm.MethodName) method_4_code (3 : Nat) (Option.some (Jvm.ClassFile.FieldType.array Jvm.ClassFile.FieldType.double)), Jvm.Cond.code ({ cls := "com/example/foreshock/foreshock/planning/BasisFactorization", name := "<init>", desc := "(I)V" } : Jvm.MethodName) prog_24_method_1_code (2 : Nat) (Option.none : Option Jvm.ClassFile.FieldType), Jvm.Cond.code ({ cls := "java/lang/Object", name := "<init>", desc := "()V" } : Jvm.MethodName) object_method_1_code (1 : Nat) (Option.none : Option Jvm.ClassFile.FieldType), Jvm.Cond.code ({ cls := "com/example/foreshock/foreshock/planning/BasisFactorization$EntryLists", name := "<init>", desc := "()V" } : Jvm.MethodName) prog_27_method_1_code (1 : Nat) (Option.none : Option Jvm.ClassFile.FieldType), Jvm.Cond.code ({ cls := "com/example/foreshock/foreshock/planning/BasisFactorization", name := "factorize", desc := "([[I[[D)Z" } : Jvm.MethodName) prog_24_method_2_code (4 : Nat) (Option.some Jvm.ClassFile.FieldType.boolean), Jvm.Cond.code ({ cls := "com/example/foreshock/foreshock/planning/BasisFactorization$EntryLists", name := "clear", desc := "()V" } : Jvm.MethodName) prog_27_method_2_code (1 : Nat) (Option.none : Option Jvm.ClassFile.FieldType), Jvm.Cond.code ({ cls := "com/example/foreshock/foreshock/planning/BasisFactorization$Elimination", name := "<init>", desc := "(Lcom/example/foreshock/foreshock/planning/BasisFactorization;[[I[[D)V" } : Jvm.MethodName) prog_26_method_1_code (6 : Nat) (Option.none : Option Jvm.ClassFile.FieldType), Jvm.Cond.code ({ cls := "com/example/foreshock/foreshock/planning/BasisFactorization$CountLists", name := "<init>", desc := "(I)V" } : Jvm.MethodName) prog_25_method_1_code (2 : Nat) (Option.none : Option Jvm.ClassFile.FieldType), Jvm.Cond.code ({ cls := "java/util/Arrays", name := "fill", desc := "([II)V" } : Jvm.MethodName) jdk_65_method_103_code (4 : Nat) (Option.none : Option Jvm.ClassFile.FieldType), Jvm.Cond.code ({ cls := "com/example/foreshock/foreshock/planning/BasisFactorization$Elimination", name := "append", desc := "(IID)V" } : Jvm.MethodName) prog_26_method_6_code (5 : Nat) (Option.none : Option Jvm.ClassFile.FieldType), Jvm.Cond.code ({ cls := "com/example/foreshock/foreshock/planning/BasisFactorization$CountLists", name := "insert", desc := "(II)V" } : Jvm.MethodName) prog_25_method_2_code (3 : Nat) (Option.none : Option Jvm.ClassFile.FieldType), Jvm.Cond.code ({ cls := "com/example/foreshock/foreshock/planning/BasisFactorization$Elimination", name := "findPivot", desc := "()Z" } : Jvm.MethodName) prog_26_method_2_code (14 : Nat) (Option.some Jvm.ClassFile.FieldType.boolean), Jvm.Cond.code ({ cls := "com/example/foreshock/foreshock/planning/BasisFactorization$CountLists", name := "first", desc := "(I)I" } : Jvm.MethodName) prog_25_method_5_code (2 : Nat) (Option.some Jvm.ClassFile.FieldType.int), Jvm.Cond.code ({ cls := "com/example/foreshock/foreshock/planning/BasisFactorization$Elimination", name := "largestIn", desc := "(I)D" } : Jvm.MethodName) prog_26_method_10_code (6 : Nat) (Option.some Jvm.ClassFile.FieldType.double), Jvm.Cond.code ({ cls := "com/example/foreshock/foreshock/planning/BasisFactorization$Elimination", name := "valueAt", desc := "(II)D" } : Jvm.MethodName) prog_26_method_9_code (4 : Nat) (Option.some Jvm.ClassFile.FieldType.double), Jvm.Cond.code ({ cls := "java/lang/Math", name := "abs", desc := "(D)D" } : Jvm.MethodName) jdk_29_method_64_code (2 : Nat) (Option.some Jvm.ClassFile.FieldType.double), Jvm.Cond.code ({ cls := "java/lang/Math", name := "max", desc := "(DD)D" } : Jvm.MethodName) jdk_29_method_68_code (4 : Nat) (Option.some Jvm.ClassFile.FieldType.double), Jvm.Cond.code ({ cls := "com/example/foreshock/foreshock/planning/BasisFactorization$Elimination", name := "stable", desc := "(DD)Z" } : Jvm.MethodName) prog_26_method_3_code (5 : Nat) (Option.some Jvm.ClassFile.FieldType.boolean), Jvm.Cond.code ({ cls := "com/example/foreshock/foreshock/planning/BasisFactorization$Elimination", name := "eliminate", desc := "()V" } : Jvm.MethodName) prog_26_method_4_code (7 : Nat) (Option.none : Option Jvm.ClassFile.FieldType), Jvm.Cond.code ({ cls := "com/example/foreshock/foreshock/planning/BasisFactorization$CountLists", name := "remove", desc := "(I)V" } : Jvm.MethodName) prog_25_method_3_code (2 : Nat) (Option.none : Option Jvm.ClassFile.FieldType), Jvm.Cond.code ({ cls := "com/example/foreshock/foreshock/planning/BasisFactorization$EntryLists", name := "add", desc := "(ID)V" } : Jvm.MethodName) prog_27_method_3_code (4 : Nat) (Option.none : Option Jvm.ClassFile.FieldType), Jvm.Cond.code ({ cls := "com/example/foreshock/foreshock/planning/BasisFactorization$Elimination", name := "dropPivotedRowFrom", desc := "(I)V" } : Jvm.MethodName) prog_26_method_8_code (2 : Nat) (Option.none : Option Jvm.ClassFile.FieldType), Jvm.Cond.code ({ cls := "com/example/foreshock/foreshock/planning/BasisFactorization$CountLists", name := "move", desc := "(II)V" } : Jvm.MethodName) prog_25_method_4_code (3 : Nat) (Option.none : Option Jvm.ClassFile.FieldType), Jvm.Cond.code ({ cls := "com/example/foreshock/foreshock/planning/BasisFactorization$EntryLists", name := "endList", desc := "()V" } : Jvm.MethodName) prog_27_method_4_code (1 : Nat) (Option.none : Option Jvm.ClassFile.FieldType), Jvm.Cond.code ({ cls := "com/example/foreshock/foreshock/planning/BasisFactorization", name := "indexUpperByColumn", desc := "()V" } : Jvm.MethodName) prog_24_method_9_code (10 : Nat) (Option.none : Option Jvm.ClassFile.FieldType), Jvm.Cond.code ({ cls := "java/util/Arrays", name := "copyOf", desc := "([II)[I" } : Jvm.MethodName) jdk_65_method_123_code (3 : Nat) (Option.some (Jvm.ClassFile.FieldType.array Jvm.ClassFile.FieldType.int)), Jvm.Cond.code ({ cls := "java/lang/Math", name := "min", desc := "(II)I" } : Jvm.MethodName) jdk_29_method_69_code (2 : Nat) (Option.some Jvm.ClassFile.FieldType.int), Jvm.Cond.code ({ cls := "com/example/foreshock/foreshock/planning/BasisFactorization$Elimination", name := "unpivoted", desc := "([Z)[I" } : Jvm.MethodName) prog_26_method_11_code (5 : Nat) (Option.some (Jvm.ClassFile.FieldType.array Jvm.ClassFile.FieldType.int)), Jvm.Cond.code ({ cls := "com/example/foreshock/foreshock/planning/BasisFactorizationSolveTransposedPinLaw", name := "change", desc := "(Lcom/example/foreshock/foreshock/planning/BasisFactorization;[II[D)V" } : Jvm.MethodName) method_5_code (11 : Nat) (Option.none : Option Jvm.ClassFile.FieldType), Jvm.Cond.code ({ cls := "com/example/foreshock/foreshock/planning/BasisFactorization", name := "replace", desc := "(I[D)V" } : Jvm.MethodName) prog_24_method_6_code (4 : Nat) (Option.none : Option Jvm.ClassFile.FieldType), Jvm.Cond.code ({ cls := "com/example/foreshock/foreshock/planning/BasisFactorization", name := "solveTransposed", desc := "([D[D)V" } : Jvm.MethodName) prog_24_method_8_code (8 : Nat) (Option.none : Option Jvm.ClassFile.FieldType), Jvm.Cond.code ({ cls := "java/util/Arrays", name := "fill", desc := "([DD)V" } : Jvm.MethodName) jdk_65_method_113_code (5 : Nat) (Option.none : Option Jvm.ClassFile.FieldType), Jvm.Cond.code ({ cls := "com/example/foreshock/foreshock/planning/BasisFactorization$Elimination", name := "subtract", desc := "(ID)V" } : Jvm.MethodName) prog_26_method_5_code (8 : Nat) (Option.none : Option Jvm.ClassFile.FieldType)]
set_option maxRecDepth 65536 in
theorem codes_eq : words1.filter isCode = codes1 := rfl
theorem w_codes : ∀ c ∈ words1.filter isCode, c.before args0 about1 = true := by
  rw [codes_eq]
  intro c hc
  simp only [codes1, List.mem_cons, List.not_mem_nil, or_false] at hc
  rcases hc with rfl | rfl | rfl | rfl | rfl | rfl | rfl | rfl | rfl | rfl | rfl | rfl | rfl | rfl | rfl | rfl | rfl | rfl | rfl | rfl | rfl | rfl | rfl | rfl | rfl | rfl | rfl | rfl | rfl | rfl | rfl | rfl | rfl | rfl | rfl | rfl
  · exact w_c0
  · exact w_c1
  · exact w_c2
  · exact w_c3
  · exact w_c4
  · exact w_c5
  · exact w_c6
  · exact w_c7
  · exact w_c8
  · exact w_c9
  · exact w_c10
  · exact w_c11
  · exact w_c12
  · exact w_c13
  · exact w_c14
  · exact w_c15
  · exact w_c16
  · exact w_c17
  · exact w_c18
  · exact w_c19
  · exact w_c20
  · exact w_c21
  · exact w_c22
  · exact w_c23
  · exact w_c24
  · exact w_c25
  · exact w_c26
  · exact w_c27
  · exact w_c28
  · exact w_c29
  · exact w_c30
  · exact w_c31
  · exact w_c32
  · exact w_c33
  · exact w_c34
  · exact w_c35
set_option maxRecDepth 65536 in
theorem w_t1 : (words1.take 24).all (fun c => isCode c || c.before args0 about1) = true := by decide +kernel
set_option maxRecDepth 65536 in
theorem w_t2 : ((words1.drop 24).take 24).all (fun c => isCode c || c.before args0 about1) = true := by decide +kernel
set_option maxRecDepth 65536 in
theorem w_t3 : (((words1.drop 24).drop 24).take 24).all (fun c => isCode c || c.before args0 about1) = true := by decide +kernel
set_option maxRecDepth 65536 in
theorem w_t4 : ((((words1.drop 24).drop 24).drop 24).take 24).all (fun c => isCode c || c.before args0 about1) = true := by decide +kernel
set_option maxRecDepth 65536 in
theorem w_t5 : (((((words1.drop 24).drop 24).drop 24).drop 24).take 24).all (fun c => isCode c || c.before args0 about1) = true := by decide +kernel
set_option maxRecDepth 65536 in
theorem w_t6 : ((((((words1.drop 24).drop 24).drop 24).drop 24).drop 24).take 24).all (fun c => isCode c || c.before args0 about1) = true := by decide +kernel
set_option maxRecDepth 65536 in
theorem w_t7 : (((((((words1.drop 24).drop 24).drop 24).drop 24).drop 24).drop 24).take 24).all (fun c => isCode c || c.before args0 about1) = true := by decide +kernel
set_option maxRecDepth 65536 in
theorem w_t8 : ((((((((words1.drop 24).drop 24).drop 24).drop 24).drop 24).drop 24).drop 24).take 24).all (fun c => isCode c || c.before args0 about1) = true := by decide +kernel
set_option maxRecDepth 65536 in
theorem w_t9 : (((((((((words1.drop 24).drop 24).drop 24).drop 24).drop 24).drop 24).drop 24).drop 24).take 24).all (fun c => isCode c || c.before args0 about1) = true := by decide +kernel
set_option maxRecDepth 65536 in
theorem w_t10 : ((((((((((words1.drop 24).drop 24).drop 24).drop 24).drop 24).drop 24).drop 24).drop 24).drop 24).take 24).all (fun c => isCode c || c.before args0 about1) = true := by decide +kernel
set_option maxRecDepth 65536 in
theorem w_t11 : (((((((((((words1.drop 24).drop 24).drop 24).drop 24).drop 24).drop 24).drop 24).drop 24).drop 24).drop 24).take 24).all (fun c => isCode c || c.before args0 about1) = true := by decide +kernel
set_option maxRecDepth 65536 in
theorem w_t12 : (((((((((((words1.drop 24).drop 24).drop 24).drop 24).drop 24).drop 24).drop 24).drop 24).drop 24).drop 24).drop 24).all (fun c => isCode c || c.before args0 about1) = true := by decide +kernel
theorem w_tables : (allAtoms (Jvm.Cond.code x code maxLocals ret :: tables_1)).before args0 about1 = true := by
  rw [allAtoms_all]
  show words1.all (fun c => c.before args0 about1) = true
  refine all_split ?_ w_codes
  rw [← List.take_append_drop 24 words1, List.all_append, w_t1, ← List.take_append_drop 24 (words1.drop 24), List.all_append, w_t2, ← List.take_append_drop 24 ((words1.drop 24).drop 24), List.all_append, w_t3, ← List.take_append_drop 24 (((words1.drop 24).drop 24).drop 24), List.all_append, w_t4, ← List.take_append_drop 24 ((((words1.drop 24).drop 24).drop 24).drop 24), List.all_append, w_t5, ← List.take_append_drop 24 (((((words1.drop 24).drop 24).drop 24).drop 24).drop 24), List.all_append, w_t6, ← List.take_append_drop 24 ((((((words1.drop 24).drop 24).drop 24).drop 24).drop 24).drop 24), List.all_append, w_t7, ← List.take_append_drop 24 (((((((words1.drop 24).drop 24).drop 24).drop 24).drop 24).drop 24).drop 24), List.all_append, w_t8, ← List.take_append_drop 24 ((((((((words1.drop 24).drop 24).drop 24).drop 24).drop 24).drop 24).drop 24).drop 24), List.all_append, w_t9, ← List.take_append_drop 24 (((((((((words1.drop 24).drop 24).drop 24).drop 24).drop 24).drop 24).drop 24).drop 24).drop 24), List.all_append, w_t10, ← List.take_append_drop 24 ((((((((((words1.drop 24).drop 24).drop 24).drop 24).drop 24).drop 24).drop 24).drop 24).drop 24).drop 24), List.all_append, w_t11, w_t12]
  rfl
set_option maxRecDepth 65536 in
theorem w_case : (Jvm.Cond.and given_1 narrow_1).before args0 about1 = true := by decide +kernel
theorem w_applies : (headSpec (Jvm.Cond.code x code maxLocals ret :: tables_1) room_1).applies x e0.platform about1 = true :=
  (Spec.applies_iff w_frames).mpr ⟨w_running, w_runnable, w_alone, w_named, w_hears, w_ripe, w_room, w_tables⟩
theorem atStart : AtStart classFile x code maxLocals ret World_1 tables_1 room_1 Calls_1 rest_1 Pre_1 launch0 p0 e0 about1 theMethod args0 below0 :=
  ⟨lists_1, trivial, launch0.admits_env _ _ _, launch0.least_env, fairChoices_fair.cas, fairChoices_fair.clock, w_frames, w_args, w_heap, w_applies, trivial, trivial, w_case⟩
end start1
theorem witness_1 : WitnessClaimed_1 := ⟨start1.p0, start1.e0, start1.about1, start1.theMethod, start1.args0, start1.below0, start1.atStart⟩
end Jvm.Pilot.@@N@@
