import PyProof.Rows.All
import Wide.All
import OpenK.AllK
import Wide.FinOn
import PySem.Challenge.RW_ti0033_01
set_option Elab.async false
section
open PySem PySem.W PySem.Calls PyProof.Rows
set_option Elab.async false
set_option maxRecDepth 100000
namespace Mine
inductive V where
  | none | bool (b : Bool) | int (i : Int) | str (s : Str) | bytes (b : Array UInt8)
  | tup (l : List V) | lst (l : List V) | rng (a b : Int) | own (a : Addr) | obj (v : Value) | num (i : Int) | txt (s : Str)
noncomputable abbrev Bt := Addr → Option Obj
noncomputable def Ble (Z Z' : Bt) : Prop := ∀ a o, Z a = some o → Z' a = some o
structure Zt where
  ob : Addr → Option Obj
  tk : Tok → Option V
structure Zle (Z Z' : Zt) : Prop where
  ob : ∀ a o, Z.ob a = some o → Z'.ob a = some o
  tk : ∀ t v, Z.tk t = some v → Z'.tk t = some v
theorem Zle.refl (Z : Zt) : Zle Z Z := ⟨fun _ _ e => e, fun _ _ e => e⟩
theorem Zle.trans {X Y Z : Zt} (h : Zle X Y) (k : Zle Y Z) : Zle X Z := ⟨fun a o e => k.ob a o (h.ob a o e), fun a o e => k.tk a o (h.tk a o e)⟩
mutual
inductive R (Z : Zt) : Value → V → Prop
  | none : R Z Value.none V.none
  | bool (b : Bool) : R Z (Value.bool b) (V.bool b)
  | int (i : Int) (t : Tok) (ht : Z.tk t = some (V.int i)) : R Z (Value.int i t) (V.int i)
  | str (x : Str) (t : Tok) (ht : Z.tk t = some (V.str x)) : R Z (Value.str x t) (V.str x)
  | bytes (b : Array UInt8) (t : Tok) : R Z (Value.bytes b t) (V.bytes b)
  | tup {a : Addr} {vs : List Value} {n : Nat} {l : List V} : Z.ob a = some { cls := .type "tuple", data := .seq vs.toArray n } → Rs Z vs l → R Z (Value.ref a) (V.tup l)
  | lst {a : Addr} {vs : List Value} {n : Nat} {l : List V} : Z.ob a = some { cls := .type "list", data := .seq vs.toArray n } → Rs Z vs l → R Z (Value.ref a) (V.lst l)
  | rng {a : Addr} {i j : Int} {t u v : Tok} : Z.ob a = some { cls := .type "range", dict := none, data := .fields #[.int i t, .int j u, .int 1 v], slots := #[] } → R Z (Value.ref a) (V.rng i j)
  | own (a : Addr) : R Z (Value.ref a) (V.own a)
  | obj (v : Value) : R Z v (V.obj v)
  | num (i : Int) (t : Tok) : R Z (Value.int i t) (V.num i)
  | txt (x : Str) (t : Tok) : R Z (Value.str x t) (V.txt x)
inductive Rs (Z : Zt) : List Value → List V → Prop
  | nil : Rs Z [] []
  | cons {v : Value} {vs : List Value} {d : V} {ds : List V} : R Z v d → Rs Z vs ds → Rs Z (v :: vs) (d :: ds)
end
mutual
theorem R.mono {Z Z' : Zt} (h : Zle Z Z') : ∀ {v : Value} {d : V}, R Z v d → R Z' v d
  | _, _, .none => .none
  | _, _, .bool b => .bool b
  | _, _, .int i t ht => .int i t (h.tk _ _ ht)
  | _, _, .str i t ht => .str i t (h.tk _ _ ht)
  | _, _, .bytes i t => .bytes i t
  | _, _, .tup e r => .tup (h.ob _ _ e) (Rs.mono h r)
  | _, _, .lst e r => .lst (h.ob _ _ e) (Rs.mono h r)
  | _, _, .rng e => .rng (h.ob _ _ e)
  | _, _, .own a => .own a
  | _, _, .obj v => .obj v
  | _, _, .num i t => .num i t
  | _, _, .txt i t => .txt i t
theorem Rs.mono {Z Z' : Zt} (h : Zle Z Z') : ∀ {vs : List Value} {ds : List V}, Rs Z vs ds → Rs Z' vs ds
  | _, _, .nil => .nil
  | _, _, .cons a b => .cons (R.mono h a) (Rs.mono h b)
end
inductive RInt (Z : Zt) (i : Int) : Value → Prop
  | mk (t : Tok) : Z.tk t = some (V.int i) → RInt Z i (.int i t)
inductive RStr (Z : Zt) (x : Str) : Value → Prop
  | mk (t : Tok) : Z.tk t = some (V.str x) → RStr Z x (.str x t)
inductive RByt (b : Array UInt8) : Value → Prop
  | mk (t : Tok) : RByt b (.bytes b t)
inductive RTup (Z : Zt) (n : String) (l : List V) : Value → Prop
  | mk (a : Addr) (vs : List Value) (k : Nat) : Z.ob a = some { cls := .type n, data := .seq vs.toArray k } → Rs Z vs l → RTup Z n l (.ref a)
inductive RRng (Z : Zt) (i j : Int) : Value → Prop
  | mk (a : Addr) (t u v : Tok) : Z.ob a = some { cls := .type "range", dict := none, data := .fields #[.int i t, .int j u, .int 1 v], slots := #[] } → RRng Z i j (.ref a)
inductive RNum (i : Int) : Value → Prop
  | mk (t : Tok) : RNum i (.int i t)
inductive RTxt (x : Str) : Value → Prop
  | mk (t : Tok) : RTxt x (.str x t)
noncomputable def RInv (Z : Zt) (v : Value) : V → Prop
  | .none => v = .none
  | .bool b => v = .bool b
  | .int i => RInt Z i v
  | .str x => RStr Z x v
  | .bytes b => RByt b v
  | .tup l => RTup Z "tuple" l v
  | .lst l => RTup Z "list" l v
  | .rng i j => RRng Z i j v
  | .own a => v = .ref a
  | .obj u => v = u
  | .num i => RNum i v
  | .txt x => RTxt x v
theorem R.inv {Z : Zt} {v : Value} {x : V} (r : R Z v x) : RInv Z v x := by
  cases r with
  | none => rfl
  | bool => rfl
  | int _ t h => exact .mk t h
  | str _ t h => exact .mk t h
  | bytes _ t => exact .mk t
  | tup e r => exact .mk _ _ _ e r
  | lst e r => exact .mk _ _ _ e r
  | rng e => exact .mk _ _ _ _ e
  | own => rfl
  | obj => rfl
  | num _ t => exact .mk t
  | txt _ t => exact .mk t
inductive Rs1 (Z : Zt) (x : V) : List Value → Prop
  | mk (a : Value) : R Z a x → Rs1 Z x [a]
theorem Rs.one {Z : Zt} {x : V} {as : List Value} (h : Rs Z as [x]) : Rs1 Z x as := by
  cases h with
  | cons r h => cases h; exact .mk _ r
inductive Rs2 (Z : Zt) (x y : V) : List Value → Prop
  | mk (a b : Value) : R Z a x → R Z b y → Rs2 Z x y [a, b]
theorem Rs.two {Z : Zt} {x y : V} {as : List Value} (h : Rs Z as [x, y]) : Rs2 Z x y as := by
  cases h with
  | cons r h => cases h.one with | mk _ k => exact .mk _ _ r k
inductive Rs3 (Z : Zt) (x y z : V) : List Value → Prop
  | mk (a b c : Value) : R Z a x → R Z b y → R Z c z → Rs3 Z x y z [a, b, c]
theorem Rs.three {Z : Zt} {x y z : V} {as : List Value} (h : Rs Z as [x, y, z]) : Rs3 Z x y z as := by
  cases h with
  | cons r h => cases h.two with | mk _ _ k l => exact .mk _ _ _ r k l
theorem Rs.length {Z : Zt} {vs : List Value} {ds : List V} (h : Rs Z vs ds) : vs.length = ds.length := by
  induction vs generalizing ds with
  | nil => cases h; rfl
  | cons v vs ih => cases h with | cons _ r => simp [ih r]
theorem Rs.append {Z : Zt} {vs ws : List Value} {ds es : List V} (h : Rs Z vs ds) (k : Rs Z ws es) : Rs Z (vs ++ ws) (ds ++ es) := by
  induction vs generalizing ds with
  | nil => cases h; exact k
  | cons v vs ih => cases h with | cons a r => exact .cons a (ih r)
theorem Rs.get {Z : Zt} {vs : List Value} {ds : List V} (h : Rs Z vs ds) {i : Nat} {d : V} (e : ds[i]? = some d) : ∃ v, vs[i]? = some v ∧ R Z v d := by
  induction vs generalizing ds i with
  | nil => cases h; simp at e
  | cons v vs ih =>
    cases h with
    | cons a r =>
      cases i with
      | zero => simp at e; subst e; exact ⟨v, rfl, a⟩
      | succ i => simpa using ih r (by simpa using e)
theorem Rs.get' {Z : Zt} {vs : List Value} {ds : List V} (h : Rs Z vs ds) {i : Nat} {v : Value} (e : vs[i]? = some v) : ∃ d, ds[i]? = some d ∧ R Z v d := by
  induction vs generalizing ds i with
  | nil => simp at e
  | cons w vs ih =>
    cases h with
    | cons a r =>
      cases i with
      | zero => simp at e; subst e; exact ⟨_, rfl, a⟩
      | succ i => simpa using ih r (by simpa using e)
theorem Rs.drop {Z : Zt} {vs : List Value} {ds : List V} (h : Rs Z vs ds) (n : Nat) : Rs Z (vs.drop n) (ds.drop n) := by
  induction vs generalizing ds n with
  | nil => cases h; simpa using Rs.nil
  | cons w vs ih =>
    cases h with
    | cons a r =>
      cases n with
      | zero => exact .cons a r
      | succ n => simpa using ih r n
theorem Rs.take {Z : Zt} {vs : List Value} {ds : List V} (h : Rs Z vs ds) (n : Nat) : Rs Z (vs.take n) (ds.take n) := by
  induction vs generalizing ds n with
  | nil => cases h; simpa using Rs.nil
  | cons w vs ih =>
    cases h with
    | cons a r =>
      cases n with
      | zero => simpa using Rs.nil
      | succ n => simpa using Rs.cons a (ih r n)
theorem Rs.reverse {Z : Zt} {vs : List Value} {ds : List V} (h : Rs Z vs ds) : Rs Z vs.reverse ds.reverse := by
  induction vs generalizing ds with
  | nil => cases h; exact .nil
  | cons w vs ih =>
    cases h with
    | cons a r => rw [List.reverse_cons, List.reverse_cons]; exact (ih r).append (.cons a .nil)
inductive AO where
  | list (l : List V)
  | inst (C dx : Addr)
  | dict (l : List (Str × V))
inductive Es (Z : Zt) : List DictEntry → List (Str × V) → Prop
  | nil : Es Z [] []
  | cons {h : Int} {k : Str} {t : Tok} {v : Value} {d : V} {es : List DictEntry} {ds : List (Str × V)} : R Z v d → Es Z es ds → Es Z (⟨h, .str k t, v⟩ :: es) ((k, d) :: ds)
theorem Es.mono {Z Z' : Zt} (h : Zle Z Z') {es : List DictEntry} {ds : List (Str × V)} (e : Es Z es ds) : Es Z' es ds := by
  induction e with
  | nil => exact .nil
  | cons a _ ih => exact .cons (a.mono h) ih
noncomputable def LR (Z : Zt) (o : Obj) : AO → Prop
  | .list l => ∃ vs n, o = { cls := .type "list", data := .seq vs.toArray n } ∧ Rs Z vs l
  | .inst C dx => o = instObj C dx
  | .dict l => ∃ es n, o = dictOf es n ∧ Es Z es l
theorem LR.ofList {Z : Zt} {vs : List Value} {l : List V} {n : Nat} (h : Rs Z vs l) : LR Z { cls := .type "list", data := .seq vs.toArray n } (.list l) := ⟨vs, n, rfl, h⟩
theorem LR.mono {Z Z' : Zt} (h : Zle Z Z') {o : Obj} {ao : AO} (e : LR Z o ao) : LR Z' o ao := by
  cases ao with
  | list l => obtain ⟨vs, n, rfl, r⟩ := e; exact ⟨vs, n, rfl, r.mono h⟩
  | inst C dx => exact e
  | dict l => obtain ⟨es, n, rfl, r⟩ := e; exact ⟨es, n, rfl, r.mono h⟩
noncomputable abbrev Loc := List (Str × V)
noncomputable abbrev Led := Addr → Option AO
noncomputable def upd (led : Led) (a : Addr) (ao : AO) : Led := fun b => if b = a then some ao else led b
noncomputable def del (led : Led) (a : Addr) : Led := fun b => if b = a then none else led b
noncomputable def zup (Z : Zt) (a : Addr) (o : Obj) : Zt := ⟨fun b => if b = a then some o else Z.ob b, Z.tk⟩
theorem zup_self (Z : Zt) (a : Addr) (o : Obj) : (zup Z a o).ob a = some o := by simp [zup]
theorem zup_le {Z : Zt} {a : Addr} (o : Obj) (h : Z.ob a = none) : Zle Z (zup Z a o) := ⟨fun b x e => by
  unfold zup
  by_cases q : b = a
  · subst q; rw [h] at e; cases e
  · dsimp only; rw [if_neg q]; exact e, fun _ _ e => e⟩
noncomputable def ztk (Z : Zt) (t : Tok) (v : V) : Zt := ⟨Z.ob, fun u => if u = t then some v else Z.tk u⟩
theorem ztk_self (Z : Zt) (t : Tok) (v : V) : (ztk Z t v).tk t = some v := by simp [ztk]
theorem ztk_le {Z : Zt} {t : Tok} (v : V) (h : Z.tk t = none) : Zle Z (ztk Z t v) := ⟨fun _ _ e => e, fun b x e => by
  unfold ztk
  by_cases q : b = t
  · subst q; rw [h] at e; cases e
  · dsimp only; rw [if_neg q]; exact e⟩
noncomputable def DataObj (o : Obj) : Prop := (∃ xs n, o.data = .seq xs n ∧ (o.cls = .type "tuple" ∨ o.cls = .type "list")) ∨ ∃ vs, o.data = .fields vs ∧ o.cls = .type "range"
structure TokOk (Z : Zt) (n : Tok) : Prop where
  pos : n ≠ 0
  new : ∀ t, n ≤ t → Z.tk t = none
  ne : Z.tk 0 = none
theorem TokOk.mono {Z : Zt} {n k : Tok} (h : TokOk Z n) (l : n ≤ k) : TokOk Z k := ⟨fun q => h.pos (Nat.eq_zero_of_le_zero (q ▸ l)), fun t e => h.new t (Nat.le_trans l e), h.ne⟩
theorem TokOk.zup {Z : Zt} {n : Tok} {a : Addr} {o : Obj} (T : TokOk Z n) : TokOk (zup Z a o) n := ⟨T.pos, T.new, T.ne⟩
structure Sh (env : Env) (bg : Bt) (Z : Zt) (m : Loc) (led : Led) (h : Heap) : Prop where
  bgk : ∀ a o, bg a = some o → h.get? a = some o
  zk : ∀ a o, Z.ob a = some o → h.get? a = some o
  loc : ∃ mr, h.Ns env.locals mr ∧ ∀ x v, m.lookup x = some v → env.kindOf x = some .local → ∃ r, mr x = some r ∧ R Z r v
  cel : ∀ x a, env.cells.lookup x = some a → ∃ r, h.IsCell a r ∧ ∀ v, m.lookup x = some v → env.kindOf x = some .cell → ∃ r', r = some r' ∧ R Z r' v
  lk : ∀ a ao, led a = some ao → ∃ o, h.get? a = some o ∧ LR Z o ao
  dled : ∀ a ao, led a = some ao → bg a = none ∧ Z.ob a = none ∧ a ≠ env.locals ∧ ∀ x, env.cells.lookup x ≠ some a
  dloc : bg env.locals = none ∧ Z.ob env.locals = none ∧ ∀ x, env.cells.lookup x ≠ some env.locals
  dcel : ∀ x a, env.cells.lookup x = some a → bg a = none ∧ Z.ob a = none
  icel : ∀ x y a, env.cells.lookup x = some a → env.cells.lookup y = some a → x = y
  zc : ∀ a o, Z.ob a = some o → DataObj o
section
variable {env : Env} {bg : Bt} {Z : Zt} {m : Loc} {led : Led} {h h' : Heap}
theorem Sh.zlt (S : Sh env bg Z m led h) {a : Addr} (ha : h.objs.size ≤ a) : Z.ob a = none := by
  cases q : Z.ob a with
  | none => rfl
  | some o => exact absurd (Heap.lt_size (S.zk a o q)) (Nat.not_lt.mpr ha)
theorem Sh.blt (S : Sh env bg Z m led h) {a : Addr} (ha : h.objs.size ≤ a) : bg a = none := by
  cases q : bg a with
  | none => rfl
  | some o => exact absurd (Heap.lt_size (S.bgk a o q)) (Nat.not_lt.mpr ha)
theorem Sh.llt (S : Sh env bg Z m led h) {a : Addr} (ha : h.objs.size ≤ a) : led a = none := by
  cases q : led a with
  | none => rfl
  | some o => obtain ⟨x, e, _⟩ := S.lk a o q; exact absurd (Heap.lt_size e) (Nat.not_lt.mpr ha)
theorem Sh.keep (S : Sh env bg Z m led h) (k : ∀ a o, h.get? a = some o → h'.get? a = some o) : Sh env bg Z m led h' where
  bgk a o e := k a o (S.bgk a o e)
  zk a o e := k a o (S.zk a o e)
  loc := let ⟨mr, hn, hr⟩ := S.loc; ⟨mr, hn.keeps k, hr⟩
  cel x a e := let ⟨r, hc, hr⟩ := S.cel x a e; ⟨r, hc.keeps k, hr⟩
  lk a ao e := let ⟨o, ho, hr⟩ := S.lk a ao e; ⟨o, k a o ho, hr⟩
  dled := S.dled
  dloc := S.dloc
  dcel := S.dcel
  icel := S.icel
  zc := S.zc
theorem Sh.allocZ (S : Sh env bg Z m led h) {o : Obj} (hf : o.isFreed = false) (hd : DataObj o) : Sh env bg (zup Z h.objs.size o) m led (h.push o) where
  bgk a x e := Heap.get?_push_of_some _ (S.bgk a x e)
  zk a x e := by
    unfold zup at e
    dsimp only at e
    split at e
    · rename_i q; subst q; cases e; exact Heap.get?_push_size _ hf
    · exact Heap.get?_push_of_some _ (S.zk a x e)
  loc := let ⟨mr, hn, hr⟩ := S.loc; ⟨mr, hn.push o, fun x v e l => let ⟨r, e1, e2⟩ := hr x v e l; ⟨r, e1, e2.mono (zup_le o (S.zlt (Nat.le_refl _)))⟩⟩
  cel x a e := let ⟨r, hc, hr⟩ := S.cel x a e; ⟨r, hc.keeps fun _ _ e => Heap.get?_push_of_some _ e, fun v e l => let ⟨r', e1, e2⟩ := hr v e l; ⟨r', e1, e2.mono (zup_le o (S.zlt (Nat.le_refl _)))⟩⟩
  lk a ao e := let ⟨x, ho, hr⟩ := S.lk a ao e; ⟨x, Heap.get?_push_of_some _ ho, hr.mono (zup_le o (S.zlt (Nat.le_refl _)))⟩
  dled a ao e := by
    obtain ⟨h1, h2, h3⟩ := S.dled a ao e
    refine ⟨h1, ?_, h3⟩
    obtain ⟨x, ho, _⟩ := S.lk a ao e
    simp [zup, Nat.ne_of_lt (Heap.lt_size ho), h2]
  dloc := by
    refine ⟨S.dloc.1, ?_, S.dloc.2.2⟩
    obtain ⟨mr, hn, _⟩ := S.loc
    simp [zup, Nat.ne_of_lt hn.lt, S.dloc.2.1]
  dcel x a e := by
    refine ⟨(S.dcel x a e).1, ?_⟩
    obtain ⟨r, hc, _⟩ := S.cel x a e
    simp [zup, Nat.ne_of_lt hc.lt, (S.dcel x a e).2]
  icel := S.icel
  zc a x e := by
    unfold zup at e
    dsimp only at e
    split at e
    · cases e; exact hd
    · exact S.zc a x e
theorem Sh.allocL (S : Sh env bg Z m led h) {o : Obj} (hf : o.isFreed = false) {ao : AO} (hr : LR Z o ao) : Sh env bg Z m (upd led h.objs.size ao) (h.push o) where
  bgk a x e := Heap.get?_push_of_some _ (S.bgk a x e)
  zk a x e := Heap.get?_push_of_some _ (S.zk a x e)
  loc := let ⟨mr, hn, hr⟩ := S.loc; ⟨mr, hn.push o, hr⟩
  cel x a e := let ⟨r, hc, hr⟩ := S.cel x a e; ⟨r, hc.keeps fun _ _ e => Heap.get?_push_of_some _ e, hr⟩
  lk a ao e := by
    unfold upd at e
    split at e
    · rename_i q; subst q; cases e; exact ⟨o, Heap.get?_push_size _ hf, hr⟩
    · obtain ⟨x, ho, hr⟩ := S.lk a ao e; exact ⟨x, Heap.get?_push_of_some _ ho, hr⟩
  dled a ao e := by
    unfold upd at e
    split at e
    · rename_i q; subst q
      obtain ⟨mr, hn, _⟩ := S.loc
      refine ⟨S.blt (Nat.le_refl _), S.zlt (Nat.le_refl _), Nat.ne_of_gt hn.lt, fun x hx => ?_⟩
      obtain ⟨r, hc, _⟩ := S.cel x _ hx
      exact absurd hc.lt (Nat.lt_irrefl _)
    · exact S.dled a ao e
  dloc := S.dloc
  dcel := S.dcel
  icel := S.icel
  zc := S.zc
theorem Sh.change (S : Sh env bg Z m led h) {a : Addr} {ao ao' : AO} {o' : Obj} (e : led a = some ao) (ho : h'.get? a = some o') (hs : Heap.SameBut a h h') (hr : LR Z o' ao') : Sh env bg Z m (upd led a ao') h' := by
  obtain ⟨d1, d2, d3, d4⟩ := S.dled a ao e
  exact {
    bgk := fun b x q => (hs.2 b fun z => by rw [z, d1] at q; cases q).trans (S.bgk b x q)
    zk := fun b x q => (hs.2 b fun z => by rw [z, d2] at q; cases q).trans (S.zk b x q)
    loc := let ⟨mr, hn, hr⟩ := S.loc; ⟨mr, hn.sameBut hs (Ne.symm d3), hr⟩
    cel := fun x b q => let ⟨r, hc, hr⟩ := S.cel x b q; ⟨r, hc.sameBut hs (fun z => d4 x (z ▸ q)), hr⟩
    lk := fun b ao q => by
      unfold upd at q
      split at q
      · rename_i z; subst z; cases q; exact ⟨o', ho, hr⟩
      · rename_i z
        obtain ⟨x, hx, hr⟩ := S.lk b ao q
        exact ⟨x, (hs.2 b z).trans hx, hr⟩
    dled := fun b ao q => by
      unfold upd at q
      split at q
      · rename_i z; subst z; exact ⟨d1, d2, d3, d4⟩
      · exact S.dled b ao q
    dloc := S.dloc
    dcel := S.dcel
    icel := S.icel
    zc := S.zc }
theorem Sh.freeze (S : Sh env bg Z m led h) {a : Addr} {l : List V} (e : led a = some (.list l)) : ∃ Z', Zle Z Z' ∧ (∀ n, TokOk Z n → TokOk Z' n) ∧ Sh env bg Z' m (del led a) h ∧ R Z' (.ref a) (.lst l) := by
  obtain ⟨d1, d2, d3, d4⟩ := S.dled a _ e
  obtain ⟨o, ho, vs, n, rfl, hr⟩ := S.lk a _ e
  have le := zup_le (Z := Z) (a := a) ({ cls := .type "list", data := .seq vs.toArray n } : Obj) d2
  refine ⟨zup Z a { cls := .type "list", data := .seq vs.toArray n }, le, fun _ T => T.zup, ?_, .lst (zup_self ..) (hr.mono le)⟩
  exact {
    bgk := S.bgk
    zk := fun b x q => by
      unfold zup at q
      dsimp only at q
      split at q
      · rename_i z; subst z; cases q; exact ho
      · exact S.zk b x q
    loc := let ⟨mr, hn, hr⟩ := S.loc; ⟨mr, hn, fun x v e l => let ⟨r, e1, e2⟩ := hr x v e l; ⟨r, e1, e2.mono le⟩⟩
    cel := fun x a e => let ⟨r, hc, hr⟩ := S.cel x a e; ⟨r, hc, fun v e l => let ⟨r', e1, e2⟩ := hr v e l; ⟨r', e1, e2.mono le⟩⟩
    lk := fun b ao q => by
      unfold del at q
      split at q
      · cases q
      · obtain ⟨x, hx, hr⟩ := S.lk b ao q; exact ⟨x, hx, hr.mono le⟩
    dled := fun b ao q => by
      unfold del at q
      split at q
      · cases q
      · rename_i z
        obtain ⟨h1, h2, h3⟩ := S.dled b ao q
        exact ⟨h1, by simp [zup, z, h2], h3⟩
    dloc := ⟨S.dloc.1, by simp [zup, Ne.symm d3, S.dloc.2.1], S.dloc.2.2⟩
    dcel := fun x b q => ⟨(S.dcel x b q).1, by
      have : b ≠ a := fun z => d4 x (z ▸ q)
      simp [zup, this, (S.dcel x b q).2]⟩
    icel := S.icel
    zc := fun b x q => by
      unfold zup at q
      dsimp only at q
      split at q
      · cases q; exact .inl ⟨_, _, rfl, .inr rfl⟩
      · exact S.zc b x q }
theorem Sh.store (S : Sh env bg Z m led h) {x : Str} {r : Value} {v : V} {mr : Str → Option Value} (hn : h.Ns env.locals mr) (hr : R Z r v)
    (hn' : h'.Ns env.locals (fun y => if y = x then some r else mr y)) (hs : Heap.SameBut env.locals h h') (hk : env.kindOf x = some .local) : Sh env bg Z ((x, v) :: m) led h' := by
  obtain ⟨mr', hn1, hm⟩ := S.loc
  have same : ∀ y, mr' y = mr y := hn1.agree hn
  exact {
    bgk := fun b y q => (hs.2 b fun z => by rw [z, S.dloc.1] at q; cases q).trans (S.bgk b y q)
    zk := fun b y q => (hs.2 b fun z => by rw [z, S.dloc.2.1] at q; cases q).trans (S.zk b y q)
    loc := ⟨_, hn', fun y w e l => by
      rw [List.lookup_cons] at e
      by_cases q : y = x
      · subst q; simp at e; subst e; exact ⟨r, by simp, hr⟩
      · have : (y == x) = false := by simpa using q
        rw [this] at e
        obtain ⟨r', e1, e2⟩ := hm y w e l
        exact ⟨r', by simp [q, ← same y, e1], e2⟩⟩
    cel := fun y a e => by
      obtain ⟨r', hc, hr'⟩ := S.cel y a e
      refine ⟨r', hc.sameBut hs (fun z => S.dloc.2.2 y (z ▸ e)), fun v' q l => ?_⟩
      rw [List.lookup_cons] at q
      by_cases z : y = x
      · subst z; rw [hk] at l; cases l
      · have : (y == x) = false := by simpa using z
        rw [this] at q
        exact hr' v' q l
    lk := fun b ao q => by
      obtain ⟨o, ho, hl⟩ := S.lk b ao q
      exact ⟨o, (hs.2 b (S.dled b ao q).2.2.1).trans ho, hl⟩
    dled := S.dled
    dloc := S.dloc
    dcel := S.dcel
    icel := S.icel
    zc := S.zc }
theorem Sh.storeCell (S : Sh env bg Z m led h) {x : Str} {c : Addr} {r : Value} {v : V} (hc : env.cells.lookup x = some c) (hr : R Z r v)
    (hn' : h'.IsCell c (some r)) (hs : Heap.SameBut c h h') (hk : env.kindOf x = some .cell) : Sh env bg Z ((x, v) :: m) led h' := by
  obtain ⟨mr', hn1, hm⟩ := S.loc
  exact {
    bgk := fun b y q => (hs.2 b fun z => by rw [z, (S.dcel x c hc).1] at q; cases q).trans (S.bgk b y q)
    zk := fun b y q => (hs.2 b fun z => by rw [z, (S.dcel x c hc).2] at q; cases q).trans (S.zk b y q)
    loc := ⟨mr', hn1.sameBut hs (fun z => S.dloc.2.2 x (z ▸ hc)), fun y w e l => by
      rw [List.lookup_cons] at e
      by_cases q : y = x
      · subst q; rw [hk] at l; cases l
      · have : (y == x) = false := by simpa using q
        rw [this] at e
        exact hm y w e l⟩
    cel := fun y a e => by
      obtain ⟨r', hc', hr'⟩ := S.cel y a e
      by_cases z : y = x
      · subst z
        rw [hc] at e; cases e
        refine ⟨some r, hn', fun v' q l => ?_⟩
        simp at q; subst q; exact ⟨r, rfl, hr⟩
      · refine ⟨r', hc'.sameBut hs (fun q => z (S.icel y x a e (q ▸ hc))), fun v' q l => ?_⟩
        have : (y == x) = false := by simpa using z
        rw [List.lookup_cons, this] at q
        exact hr' v' q l
    lk := fun b ao q => by
      obtain ⟨o, ho, hl⟩ := S.lk b ao q
      exact ⟨o, (hs.2 b fun z => (S.dled b ao q).2.2.2 x (z ▸ hc)).trans ho, hl⟩
    dled := S.dled
    dloc := S.dloc
    dcel := S.dcel
    icel := S.icel
    zc := S.zc }
noncomputable def Less (m' m : Loc) : Prop := ∀ x v, m'.lookup x = some v → m.lookup x = some v
theorem Sh.less (S : Sh env bg Z m led h) {m' : Loc} (l : Less m' m) : Sh env bg Z m' led h where
  bgk := S.bgk
  zk := S.zk
  loc := let ⟨mr, hn, hr⟩ := S.loc; ⟨mr, hn, fun x v e k => hr x v (l x v e) k⟩
  cel x a e := let ⟨r, hc, hr⟩ := S.cel x a e; ⟨r, hc, fun v e k => hr v (l x v e) k⟩
  lk := S.lk
  dled := S.dled
  dloc := S.dloc
  dcel := S.dcel
  icel := S.icel
  zc := S.zc
theorem Sh.lessLed (S : Sh env bg Z m led h) {led' : Led} (l : ∀ a ao, led' a = some ao → led a = some ao) : Sh env bg Z m led' h where
  bgk := S.bgk
  zk := S.zk
  loc := S.loc
  cel := S.cel
  lk a ao e := S.lk a ao (l a ao e)
  dled a ao e := S.dled a ao (l a ao e)
  dloc := S.dloc
  dcel := S.dcel
  icel := S.icel
  zc := S.zc
end
structure St (env : Env) (bg : Bt) (Z : Zt) (m : Loc) (led : Led) (s : Shared) : Prop extends Sh env bg Z m led s.heap where
  tk : TokOk Z s.toks
section
variable {env : Env} {bg : Bt} {Z : Zt} {m : Loc} {led : Led} {s s' : Shared}
theorem Sh.st {h : Heap} (S : Sh env bg Z m led h) (e : s'.heap = h) (t : TokOk Z s'.toks) : St env bg Z m led s' := by subst e; exact ⟨S, t⟩
theorem Sh.tok {h : Heap} (S : Sh env bg Z m led h) {n : Tok} (T : TokOk Z n) (v : V) : Sh env bg (ztk Z n v) m led h :=
  have le := ztk_le v (T.new n (Nat.le_refl _))
  { bgk := S.bgk
    zk := S.zk
    loc := let ⟨mr, hn, hr⟩ := S.loc; ⟨mr, hn, fun x v e k => let ⟨r, e1, e2⟩ := hr x v e k; ⟨r, e1, e2.mono le⟩⟩
    cel := fun x a e => let ⟨r, hc, hr⟩ := S.cel x a e; ⟨r, hc, fun v e k => let ⟨r', e1, e2⟩ := hr v e k; ⟨r', e1, e2.mono le⟩⟩
    lk := fun a ao e => let ⟨o, ho, hr⟩ := S.lk a ao e; ⟨o, ho, hr.mono le⟩
    dled := S.dled
    dloc := S.dloc
    dcel := S.dcel
    icel := S.icel
    zc := S.zc }
theorem TokOk.tok {n : Tok} (T : TokOk Z n) (v : V) {k : Tok} (l : n < k) : TokOk (ztk Z n v) k :=
  ⟨fun q => Nat.not_lt_zero _ (q ▸ l), fun t e => by
    show (if t = n then some v else Z.tk t) = none
    have q : t ≠ n := Nat.ne_of_gt (Nat.lt_of_lt_of_le l e)
    rw [if_neg q, T.new t (Nat.le_trans (Nat.le_of_lt l) e)], by
    show (if 0 = n then some v else Z.tk 0) = none
    rw [if_neg (fun q => T.pos q.symm), T.ne]⟩
noncomputable def Zx (Z : Zt) (n : Tok) (Z' : Zt) (n' : Tok) : Prop := (Z' = Z ∧ n ≤ n') ∨ ∃ v, Z' = Mine.ztk Z n v ∧ n < n'
theorem Zx.same {Z : Zt} {n : Tok} : Zx Z n Z n := .inl ⟨rfl, Nat.le_refl _⟩
theorem Zx.new {Z : Zt} {n : Tok} (v : V) : Zx Z n (Mine.ztk Z n v) (n + 1) := .inr ⟨v, rfl, Nat.lt_succ_self _⟩
theorem Zx.le {Z Z' : Zt} {n n' : Tok} (x : Zx Z n Z' n') (T : TokOk Z n) : Zle Z Z' := by
  rcases x with ⟨rfl, _⟩ | ⟨v, rfl, _⟩
  · exact Zle.refl _
  · exact ztk_le v (T.new n (Nat.le_refl _))
theorem Zx.tk {Z Z' : Zt} {n n' : Tok} (x : Zx Z n Z' n') (T : TokOk Z n) : TokOk Z' n' := by
  rcases x with ⟨rfl, l⟩ | ⟨v, rfl, l⟩
  · exact T.mono l
  · exact T.tok v l
theorem Sh.zx {h : Heap} {Z' : Zt} {n n' : Tok} (S : Sh env bg Z m led h) (x : Zx Z n Z' n') (T : TokOk Z n) : Sh env bg Z' m led h := by
  rcases x with ⟨rfl, _⟩ | ⟨v, rfl, _⟩
  · exact S
  · exact S.tok T v
theorem St.ztk (S : St env bg Z m led s) (v : V) : Zle Z (Mine.ztk Z s.toks v) := ztk_le v (S.tk.new _ (Nat.le_refl _))
theorem St.tok (S : St env bg Z m led s) (v : V) (e : s'.heap = s.heap) (l : s.toks < s'.toks) : St env bg (Mine.ztk Z s.toks v) m led s' := by
  refine Sh.st (S.toSh.tok S.tk v) e (S.tk.tok v l)
theorem St.less (S : St env bg Z m led s) {m' : Loc} (l : Less m' m) : St env bg Z m' led s := ⟨S.toSh.less l, S.tk⟩
theorem St.lessLed (S : St env bg Z m led s) {led' : Led} (l : ∀ a ao, led' a = some ao → led a = some ao) : St env bg Z m led' s := ⟨S.toSh.lessLed l, S.tk⟩
end
theorem runs_toks {M : Model} {Γ : Ctx} {p : Pos} {t : Sem Fin} {fs : List Frame} {s : Shared} {e : End} {s' : Shared} (h : Runs M Γ p t fs s e s') : s.toks ≤ s'.toks := by
  induction h with
  | done | raise | yield => exact Nat.le_refl _
  | again _ _ ih | rule _ ih | «at» _ ih | loadIfAlive _ ih | point _ ih | ask _ ih | handled _ ih | stack _ ih | thread _ ih => exact ih
  | load _ _ ih | genState _ _ ih => exact ih
  | update _ _ ih | choose _ _ ih => exact ih
  | alloc _ ih | os _ ih | newGen _ ih => exact ih
  | fresh _ ih => exact Nat.le_trans (Nat.le_succ _) ih
  | call _ _ ih1 ih2 => exact Nat.le_trans ih1 ih2
  | callSusp _ ih => exact ih
  | resumeFresh _ _ _ _ ih1 ih2 => exact Nat.le_trans ih1 ih2
  | resumeSuspended _ _ _ _ ih1 ih2 => exact Nat.le_trans ih1 ih2
  | resumeJustStarted _ _ _ ih => exact ih
  | resumeThrowFresh _ _ ih => exact ih
  | resumeRunning _ _ ih => exact ih
  | resumeFinished _ _ ih => exact ih
  | segRet _ _ ih1 ih2 => exact Nat.le_trans ih1 ih2
  | segGen _ _ ih1 ih2 => exact Nat.le_trans ih1 ih2
  | segSuspOut _ _ ih => exact ih
  | segSuspGen _ _ _ _ ih1 ih2 => exact Nat.le_trans ih1 ih2
theorem wakes_toks {M : Model} {Γ : Ctx} {p : Pos} {g : Nat} {r : Resume} {s s' : Shared} {res : GenResult} (h : Wakes M Γ p g r s res s') : s.toks ≤ s'.toks := by
  unfold Wakes at h
  split at h
  · exact h.elim
  · split at h
    · obtain ⟨e, s₁, hr, _, _, rfl⟩ := h; have := runs_toks hr; exact this
    · obtain ⟨_, rfl⟩ := h; exact Nat.le_refl _
    · obtain ⟨_, rfl⟩ := h; exact Nat.le_refl _
  · obtain ⟨e, s₁, hr, _, _, rfl⟩ := h; have := runs_toks hr; exact this
  · obtain ⟨_, rfl⟩ := h; exact Nat.le_refl _
  · obtain ⟨_, rfl⟩ := h; exact Nat.le_refl _
theorem wp_toks {α : Type} {M : Model} {Γ : Ctx} {n : Nat} (t : Sem α) : ∀ {Q : α → Pos → Shared → Prop} {E : Value → Pos → Shared → Prop} {p : Pos} {s : Shared}, n ≤ s.toks → Sem.wp M Γ t Q E p s →
    Sem.wp M Γ t (fun a p' s' => Q a p' s' ∧ n ≤ s'.toks) E p s := by
  induction t with
  | pure a => intro Q E p s hn h; rw [Sem.wp] at h ⊢; exact ⟨h, hn⟩
  | raise e => intro Q E p s hn h; rw [Sem.wp] at h ⊢; exact h
  | unsupported | finish | yield | fork | await | register => intro Q E p s hn h; rw [Sem.wp] at h; exact h.elim
  | rule _ k ih | point _ k ih | ask k ih | handled _ k ih | newGen _ k ih | stack k ih | thread k ih | loadIfAlive _ k ih | alloc _ k ih | os _ _ k ih => intro Q E p s hn h; rw [Sem.wp] at h ⊢; exact ih _ hn h
  | «at» _ k ih => intro Q E p s hn h; rw [Sem.wp] at h ⊢; exact ih _ hn h
  | load a _ k ih => intro Q E p s hn h; rw [Sem.wp] at h ⊢; obtain ⟨o, e, h⟩ := h; exact ⟨o, e, ih _ hn h⟩
  | update a _ f k ih => intro Q E p s hn h; rw [Sem.wp] at h ⊢; exact ⟨h.1, ih _ hn h.2⟩
  | choose src m k ih => intro Q E p s hn h; rw [Sem.wp] at h ⊢; exact ⟨h.1, ih _ hn h.2⟩
  | fresh k ih => intro Q E p s hn h; rw [Sem.wp] at h ⊢; exact ih _ (Nat.le_succ_of_le hn) h
  | genState g k ih => intro Q E p s hn h; rw [Sem.wp] at h ⊢; obtain ⟨o, e, h⟩ := h; exact ⟨o, e, ih _ hn h⟩
  | call c h' _ _ k ih => intro Q E p s hn h; rw [Sem.wp] at h ⊢; obtain ⟨r, s', hr, h⟩ := h; exact ⟨r, s', hr, ih _ (Nat.le_trans hn (runs_toks hr)) h⟩
  | resume g r _ k ih => intro Q E p s hn h; rw [Sem.wp] at h ⊢; obtain ⟨r, s', hr, h⟩ := h; exact ⟨r, s', hr, ih _ (Nat.le_trans hn (wakes_toks hr)) h⟩
theorem wpAny_toks {α : Type} {M : Model} {A : Around} {t : Sem α} {Q : α → Shared → Prop} {E : Value → Shared → Prop} {s : Shared} (h : wpAny M A t Q E s) : wpAny M A t (fun a s' => Q a s' ∧ s.toks ≤ s'.toks) E s :=
  fun Γ p hΓ => wp_toks t (Nat.le_refl _) (h Γ p hΓ)
theorem codeAny_toks {M : Model} {A : Around} {c : Code} {R' : Result → Shared → Prop} {s : Shared} (h : codeAny M A c R' s) : codeAny M A c (fun r s' => R' r s' ∧ s.toks ≤ s'.toks) s := by
  intro Γ p hc hΓ
  obtain ⟨r, s', hr, h⟩ := h Γ p hc hΓ
  exact ⟨r, s', hr, h, runs_toks hr⟩
end Mine
end
section
open PySem PySem.W PySem.Calls PyProof.Rows
set_option Elab.async false
set_option maxRecDepth 100000
namespace Mine
structure Gd (K : Frag) (h : Heap) : Prop where
  X : K.In h
  bk : nsIn K cStatics sharingNotToldKey = some none
  g : ∃ mg, h.Ns mainGlobals mg
  b : ∃ mb, h.Ns builtinsNs mb ∧ ∀ x : Str, x ≠ "__name__" → mb x = bootBuiltins x
  lim : h.NoLimit
theorem Gd.keeps {K : Frag} {h h' : Heap} (G : Gd K h) (k : ∀ a o, h.get? a = some o → h'.get? a = some o) : Gd K h' :=
  ⟨G.X.keeps k, G.bk, let ⟨mg, e⟩ := G.g; ⟨mg, e.keeps k⟩, let ⟨mb, e, f⟩ := G.b; ⟨mb, e.keeps k, f⟩, G.lim.keeps k⟩
noncomputable def Base (K : Frag) (bg : Bt) : Prop := ∃ h₀ : Heap, Gd K h₀ ∧ ∀ a o, h₀.get? a = some o → bg a = some o
theorem Base.le {K : Frag} {bg bg' : Bt} (B : Base K bg) (k : Ble bg bg') : Base K bg' := let ⟨h₀, G, e⟩ := B; ⟨h₀, G, fun a o q => k a o (e a o q)⟩
theorem Base.at {K : Frag} {bg : Bt} {Z : Zt} {env : Env} {m : Loc} {led : Led} {s : Shared} (B : Base K bg) (S : St env bg Z m led s) : Gd K s.heap :=
  let ⟨_, G, e⟩ := B; G.keeps fun a o q => S.bgk a o (e a o q)
structure Cx where
  prog : Program
  w : World
  K : Frag
  A : Around
  env : Env
inductive Post (c : Cx) (bg : Bt) {α β : Type} (rel : Zt → α → β → Prop) (s : Shared) (Z : Zt) (Q : β → Loc → Led → Prop) (a : α) (s' : Shared) : Prop
  | mk (b : β) (m' : Loc) (led' : Led) (Z' : Zt) : Zle Z Z' → s' = { s with heap := s'.heap, toks := s'.toks } → St c.env bg Z' m' led' s' → rel Z' a b → Q b m' led' → Post c bg rel s Z Q a s'
noncomputable abbrev NoE : Value → Shared → Prop := fun _ _ => False
noncomputable def AW (c : Cx) {α β : Type} (rel : Zt → α → β → Prop) (t : Sem α) (m : Loc) (led : Led) (Q : β → Loc → Led → Prop) : Prop :=
  ∀ bg s Z, Base c.K bg → St c.env bg Z m led s → wpAny (model c.prog c.w) c.A t (Post c bg rel s Z Q) NoE s
noncomputable def A1 (c : Cx) {α β : Type} (rel : Zt → α → β → Prop) (t : Value → Sem α) (x : V) (m : Loc) (led : Led) (Q : β → Loc → Led → Prop) : Prop :=
  ∀ bg s Z a, Base c.K bg → St c.env bg Z m led s → R Z a x → wpAny (model c.prog c.w) c.A (t a) (Post c bg rel s Z Q) NoE s
noncomputable def A2 (c : Cx) {α β : Type} (rel : Zt → α → β → Prop) (t : Value → Value → Sem α) (x y : V) (m : Loc) (led : Led) (Q : β → Loc → Led → Prop) : Prop :=
  ∀ bg s Z a b, Base c.K bg → St c.env bg Z m led s → R Z a x → R Z b y → wpAny (model c.prog c.w) c.A (t a b) (Post c bg rel s Z Q) NoE s
noncomputable def RB (_ : Zt) (a b : Bool) : Prop := a = b
noncomputable def RU (_ : Zt) (_ : Unit) (_ : Unit) : Prop := True
inductive FV where
  | next | brk | cont | ret (v : V)
inductive RF (Z : Zt) : Flow → FV → Prop
  | next : RF Z .next .next
  | brk : RF Z .brk .brk
  | cont : RF Z .cont .cont
  | ret {v : Value} {x : V} : R Z v x → RF Z (.ret v) (.ret x)
section
variable {c : Cx} {bg : Bt} {Z Z₁ : Zt} {m m₁ : Loc} {led led₁ : Led} {s s₁ s' : Shared} {α β : Type} {rel : Zt → α → β → Prop} {a : α} {b : β} {Q Q' : β → Loc → Led → Prop}
theorem Post.here {h : Heap} {tk : Nat} (S : St c.env bg Z m led { s with heap := h, toks := tk }) (r : rel Z a b) (q : Q b m led) : Post c bg rel s Z Q a { s with heap := h, toks := tk } :=
  ⟨b, m, led, Z, Zle.refl _, rfl, S, r, q⟩
theorem Post.at {h : Heap} {tk : Nat} (z : Zle Z Z₁) (S : St c.env bg Z₁ m led { s with heap := h, toks := tk }) (r : rel Z₁ a b) (q : Q b m led) : Post c bg rel s Z Q a { s with heap := h, toks := tk } :=
  ⟨b, m, led, Z₁, z, rfl, S, r, q⟩
theorem Post.same (S : St c.env bg Z m led s) (r : rel Z a b) (q : Q b m led) : Post c bg rel s Z Q a s := Post.here (h := s.heap) (tk := s.toks) S r q
theorem Post.up (z : Zle Z Z₁) (e : s₁ = { s with heap := s₁.heap, toks := s₁.toks }) (p : Post c bg rel s₁ Z₁ Q a s') : Post c bg rel s Z Q a s' := by
  obtain ⟨b, m', led', Z', z', e', S, r, q⟩ := p
  exact ⟨b, m', led', Z', z.trans z', by rw [e', e], S, r, q⟩
theorem Post.mono (p : Post c bg rel s Z Q a s') (h : ∀ b m led, Q b m led → Q' b m led) : Post c bg rel s Z Q' a s' := by
  obtain ⟨b, m', led', Z', z', e', S, r, q⟩ := p
  exact ⟨b, m', led', Z', z', e', S, r, h _ _ _ q⟩
theorem AW.mono {t : Sem α} (h : AW c rel t m led Q) (k : ∀ b m led, Q b m led → Q' b m led) : AW c rel t m led Q' :=
  fun bg s Z B S => wpAny_mono (h bg s Z B S) (fun _ _ p => p.mono k) fun _ _ e => e
theorem AW.bind {γ δ : Type} {rel' : Zt → γ → δ → Prop} {Q' : δ → Loc → Led → Prop} {t : Sem α} {f : α → Sem γ}
    (h : AW c rel t m led fun b m₁ led₁ => ∀ bg s Z a, Base c.K bg → St c.env bg Z m₁ led₁ s → rel Z a b → wpAny (model c.prog c.w) c.A (f a) (Post c bg rel' s Z Q') NoE s) : AW c rel' (t >>= f) m led Q' := by
  intro bg s Z B S
  refine wpAny_bind (wpAny_mono (h bg s Z B S) (fun a s₁ p => ?_) fun _ _ e => e)
  obtain ⟨b, m', led', Z', z', e', S, r, q⟩ := p
  exact wpAny_mono (q bg s₁ Z' a B S r) (fun _ _ p => p.up z' e') fun _ _ e => e
theorem AW.less {t : Sem α} (h : AW c rel t m₁ led Q) (l : Less m₁ m) : AW c rel t m led Q := fun bg s Z B S => h bg s Z B (S.less l)
theorem AW.lessLed {t : Sem α} (h : AW c rel t m led₁ Q) (l : ∀ a ao, led₁ a = some ao → led a = some ao) : AW c rel t m led Q := fun bg s Z B S => h bg s Z B (S.lessLed l)
end
section
variable {c : Cx} {m : Loc} {led : Led} {Q : V → Loc → Led → Prop} {x : Str} {pos : Pos} {v : V} {k : Nat}
noncomputable abbrev EV (c : Cx) (e : Expr) (m : Loc) (led : Led) (Q : V → Loc → Led → Prop) : Prop := AW c R (eval e c.env) m led Q
theorem name_local (hl : c.env.kindOf x = some .local) (hm : m.lookup x = some v) (q : Q v m led) (hk : c.env.scope.kind = .function) (hd : (x == ("__debug__" : Str)) = false) : EV c (.Name x pos) m led Q := by
  intro bg s Z B S
  obtain ⟨mr, hn, hr⟩ := S.loc
  obtain ⟨r, e1, e2⟩ := hr x v hm hl
  exact wpAny_Name (wpAny_loadName_local hk hl hn e1 (Post.same S e2 q)) hd
theorem name_cell (hl : c.env.kindOf x = some .cell) (hm : m.lookup x = some v) (q : Q v m led) (hk : c.env.scope.kind = .function) (hc : (c.env.cells.lookup x).isSome = true) (hd : (x == ("__debug__" : Str)) = false) : EV c (.Name x pos) m led Q := by
  intro bg s Z B S
  obtain ⟨a, ha⟩ := Option.isSome_iff_exists.mp hc
  obtain ⟨r, e1, e2⟩ := S.cel x a ha
  obtain ⟨r', rfl, e3⟩ := e2 v hm hl
  exact wpAny_Name (wpAny_loadName_cell hk hl ha e1 (Post.same S e3 q)) hd
theorem name_global {r : Value} (e : nsIn c.K mainGlobals x = some (some r)) (hx : c.env.kindOf x = some .globalImplicit) (hg : c.env.globals = mainGlobals) (q : Q (.obj r) m led) (hk : c.env.scope.kind = .function) (hd : (x == ("__debug__" : Str)) = false) : EV c (.Name x pos) m led Q := by
  intro bg s Z B S
  have G := B.at S
  obtain ⟨mg, hmg⟩ := G.g
  exact Name_function_global hk hx (loadGlobal_global (by rw [hg]; exact hmg) (mg_of G.X hmg e) (Post.same S (.obj r) q)) hd
theorem name_builtin {r : Value} (e : nsIn c.K mainGlobals x = some none) (hv : bootBuiltins x = some r) (hx : c.env.kindOf x = some .globalImplicit) (hg : c.env.globals = mainGlobals) (hb : c.env.builtins = builtinsNs) (q : Q (.obj r) m led) (hk : c.env.scope.kind = .function) (hd : (x == ("__debug__" : Str)) = false) (hn : x ≠ "__name__") : EV c (.Name x pos) m led Q := by
  intro bg s Z B S
  have G := B.at S
  obtain ⟨mg, hmg⟩ := G.g
  obtain ⟨mb, hmb, hmb'⟩ := G.b
  exact Name_function_global hk hx (loadGlobal_builtin (by rw [hg]; exact hmg) (mg_none_of G.X hmg e) (by rw [hb]; exact hmb) ((hmb' x hn).trans hv) (Post.same S (.obj r) q)) hd
theorem name_debug (q : Q (.bool true) m led) : EV c (.Name "__debug__" pos) m led Q := by
  intro bg s Z B S
  show wpAny _ _ (do standAt pos; if (Str.ofString "__debug__" == ("__debug__" : Str)) = true then debugConstant else loadName c.env (Str.ofString "__debug__")) _ _ _
  refine wpAny_bind (wpAny_standAt ?_)
  rw [if_pos (by decide)]
  unfold debugConstant
  exact wpAny_bind (wpAny_rule (wpAny_pure (Post.same S (.bool true) q)))
theorem const_int {i : Int} (q : Q (.int i) m led) : EV c (.Constant (.int i) k pos) m led Q := fun _ _ _ _ S => wpAny_Constant_int ⟨.int i, m, led, _, S.ztk _, rfl, S.tok (.int i) rfl (Nat.lt_succ_self _), .int i _ (ztk_self ..), q⟩
theorem const_str {y : Str} (q : Q (.str y) m led) : EV c (.Constant (.str y) k pos) m led Q := fun _ _ _ _ S => Constant_str ⟨.str y, m, led, _, S.ztk _, rfl, S.tok (.str y) rfl (Nat.lt_succ_self _), .str y _ (ztk_self ..), q⟩
theorem const_none (q : Q .none m led) : EV c (.Constant .none k pos) m led Q := fun _ _ _ _ S => wpAny_pure (a := Value.none) (Post.same S .none q)
theorem const_bool {b : Bool} (q : Q (.bool b) m led) : EV c (.Constant (.bool b) k pos) m led Q := fun _ _ _ _ S => wpAny_pure (a := Value.bool b) (Post.same S (.bool b) q)
noncomputable def AWs (c : Cx) (pos : Pos) (es : List Expr) (m : Loc) (led : Led) (Q : List V → Loc → Led → Prop) : Prop := AW c Rs (spliced (backTo pos (starEach es c.env))) m led Q
noncomputable abbrev ConsK (Q : List V → Loc → Led → Prop) (v : V) (vs : List V) : Loc → Led → Prop := Q (v :: vs)
noncomputable abbrev WsK (c : Cx) (pos : Pos) (es : List Expr) (Q : List V → Loc → Led → Prop) (v : V) (m : Loc) (led : Led) : Prop := AWs c pos es m led (ConsK Q v)
noncomputable abbrev TupK (Q : V → Loc → Led → Prop) (vs : List V) (m : Loc) (led : Led) : Prop := vs.length ≤ sizeLine ∧ Q (.tup vs) m led
noncomputable abbrev LstK (Q : V → Loc → Led → Prop) (vs : List V) (m : Loc) (led : Led) : Prop := vs.length ≤ sizeLine ∧ Q (.lst vs) m led
noncomputable abbrev OwnK (Q : V → Loc → Led → Prop) (vs : List V) (m : Loc) (led : Led) : Prop := vs.length ≤ sizeLine ∧ ∀ a, led a = none → Q (.own a) m (upd led a (.list vs))
noncomputable abbrev BinR (c : Cx) (op : Operator) (Q : V → Loc → Led → Prop) (x y : V) (m : Loc) (led : Led) : Prop := A2 c R (binaryOp op) x y m led Q
noncomputable abbrev BinL (c : Cx) (r : Expr) (op : Operator) (Q : V → Loc → Led → Prop) (x : V) (m : Loc) (led : Led) : Prop := EV c r m led (BinR c op Q x)
noncomputable abbrev CmpR (c : Cx) (op : CmpOp) (Q : V → Loc → Led → Prop) (x y : V) (m : Loc) (led : Led) : Prop := A2 c R (compareOp op) x y m led Q
noncomputable abbrev CmpL (c : Cx) (r : Expr) (op : CmpOp) (Q : V → Loc → Led → Prop) (x : V) (m : Loc) (led : Led) : Prop := EV c r m led (CmpR c op Q x)
noncomputable abbrev UnK (c : Cx) (op : UnaryOp) (Q : V → Loc → Led → Prop) (x : V) (m : Loc) (led : Led) : Prop := A1 c R (unaryOp op) x m led Q
noncomputable abbrev TrK (c : Cx) (Q : Bool → Loc → Led → Prop) (x : V) (m : Loc) (led : Led) : Prop := A1 c RB truthy x m led Q
theorem aws_nil {Q : List V → Loc → Led → Prop} (q : Q [] m led) : AWs c pos [] m led Q := fun _ _ _ _ S => spliced_nil (Post.same S .nil q)
theorem aws_cons {e : Expr} {es : List Expr} {Q : List V → Loc → Led → Prop} (h : EV c e m led (WsK c pos es Q))
    (hs : starEach (e :: es) c.env = (false, eval e c.env) :: starEach es c.env) : AWs c pos (e :: es) m led Q := by
  intro bg s Z B S
  rw [hs]
  refine spliced_cons (wpAny_mono (h bg s Z B S) (fun v s₁ p => ?_) fun _ _ e => e)
  obtain ⟨b, m', led', Z', z', e', S, r, q⟩ := p
  refine wpAny_mono (q bg s₁ Z' B S) (fun vs s₂ p => ?_) fun _ _ e => e
  obtain ⟨b₂, m₂, led₂, Z₂, z₂, e₂, S₂, r₂, q₂⟩ := p
  exact ⟨_, m₂, led₂, Z₂, z'.trans z₂, by rw [e₂, e'], S₂, .cons (r.mono z₂) r₂, q₂⟩
theorem tuple_ {es : List Expr} {j : Nat} (h : AWs c pos es m led (TupK Q)) : EV c (.Tuple es j pos) m led Q := by
  intro bg s Z B S
  refine Tuple_ (wpAny_mono (h bg s Z B S) (fun vs s₁ p => ?_) fun _ _ e => e)
  obtain ⟨b, m', led', Z', z', e', S, r, q⟩ := p
  refine wpAny_newObj_type ?_ (by show vs.toArray.size ≤ sizeLine; rw [List.size_toArray, r.length]; exact q.1)
  refine ⟨.tup b, m', led', _, z'.trans (zup_le _ (S.zlt (Nat.le_refl _))), by dsimp only; rw [e'], ⟨S.allocZ rfl (.inl ⟨_, _, rfl, .inl rfl⟩), S.tk.zup⟩, .tup (zup_self ..) (r.mono (zup_le _ (S.zlt (Nat.le_refl _)))), q.2⟩
theorem list_ {es : List Expr} (h : AWs c pos es m led (LstK Q)) : EV c (.List es pos) m led Q := by
  intro bg s Z B S
  refine List_ (wpAny_mono (h bg s Z B S) (fun vs s₁ p => ?_) fun _ _ e => e)
  obtain ⟨b, m', led', Z', z', e', S, r, q⟩ := p
  refine wpAny_newObj_type ?_ (by show vs.toArray.size ≤ sizeLine; rw [List.size_toArray, r.length]; exact q.1)
  refine ⟨.lst b, m', led', _, z'.trans (zup_le _ (S.zlt (Nat.le_refl _))), by dsimp only; rw [e'], ⟨S.allocZ rfl (.inl ⟨_, _, rfl, .inr rfl⟩), S.tk.zup⟩, .lst (zup_self ..) (r.mono (zup_le _ (S.zlt (Nat.le_refl _)))), q.2⟩
theorem list_own {es : List Expr} (h : AWs c pos es m led (OwnK Q)) : EV c (.List es pos) m led Q := by
  intro bg s Z B S
  refine List_ (wpAny_mono (h bg s Z B S) (fun vs s₁ p => ?_) fun _ _ e => e)
  obtain ⟨b, m', led', Z', z', e', S, r, q⟩ := p
  refine wpAny_newObj_type ?_ (by show vs.toArray.size ≤ sizeLine; rw [List.size_toArray, r.length]; exact q.1)
  exact ⟨.own _, m', _, _, z', by dsimp only; rw [e'], ⟨S.allocL rfl (LR.ofList r), S.tk⟩, .own _, q.2 _ (S.llt (Nat.le_refl _))⟩
theorem binop {l r : Expr} {op : Operator} (h : EV c l m led (BinL c r op Q)) : EV c (.BinOp l op r pos) m led Q := by
  intro bg s Z B S
  refine wpAny_BinOp (wpAny_mono (h bg s Z B S) (fun a s₁ p => ?_) fun _ _ e => e)
  obtain ⟨x, m', led', Z', z', e', S, r, q⟩ := p
  refine wpAny_mono (q bg s₁ Z' B S) (fun b s₂ p => ?_) fun _ _ e => e
  obtain ⟨y, m₂, led₂, Z₂, z₂, e₂, S₂, r₂, q₂⟩ := p
  exact wpAny_mono (q₂ bg s₂ Z₂ a b B S₂ (r.mono z₂) r₂) (fun _ _ p => (p.up z₂ e₂).up z' e') fun _ _ e => e
theorem compare1 {l r : Expr} {op : CmpOp} (h : EV c l m led (CmpL c r op Q)) (hm : behindInMarks op r = false) : EV c (.Compare l [op] [r] pos) m led Q := by
  intro bg s Z B S
  refine wpAny_Compare1 (wpAny_mono (h bg s Z B S) (fun a s₁ p => ?_) fun _ _ e => e) hm
  obtain ⟨x, m', led', Z', z', e', S, r, q⟩ := p
  refine wpAny_mono (q bg s₁ Z' B S) (fun b s₂ p => ?_) fun _ _ e => e
  obtain ⟨y, m₂, led₂, Z₂, z₂, e₂, S₂, r₂, q₂⟩ := p
  exact wpAny_mono (q₂ bg s₂ Z₂ a b B S₂ (r.mono z₂) r₂) (fun _ _ p => (p.up z₂ e₂).up z' e') fun _ _ e => e
theorem unop {e : Expr} {op : UnaryOp} (h : EV c e m led (UnK c op Q)) : EV c (.UnaryOp op e pos) m led Q := by
  intro bg s Z B S
  refine wpAny_UnaryOp (wpAny_mono (h bg s Z B S) (fun a s₁ p => ?_) fun _ _ e => e)
  obtain ⟨x, m', led', Z', z', e', S, r, q⟩ := p
  exact wpAny_mono (q bg s₁ Z' a B S r) (fun _ _ p => p.up z' e') fun _ _ e => e
noncomputable abbrev TR (c : Cx) (e : Expr) (m : Loc) (led : Led) (Q : Bool → Loc → Led → Prop) : Prop := AW c RB (isTrue e c.env (eval e c.env)) m led Q
theorem tr_value {e : Expr} {Q : Bool → Loc → Led → Prop} (h : EV c e m led (TrK c Q)) (he : isTrue e c.env (eval e c.env) = (do let v ← eval e c.env; standAt e.pos; holding [v] (truthy v))) : TR c e m led Q := by
  intro bg s Z B S
  rw [he]
  refine wpAny_bind (wpAny_mono (h bg s Z B S) (fun a s₁ p => wpAny_bind (wpAny_standAt (wpAny_holding ?_))) fun _ _ e => e)
  obtain ⟨x, m', led', Z', z', e', S, r, q⟩ := p
  exact wpAny_mono (q bg s₁ Z' a B S r) (fun _ _ p => p.up z' e') fun _ _ e => e
inductive AsB (Q : Bool → Loc → Led → Prop) (z : V) (m : Loc) (led : Led) : Prop
  | mk (b : Bool) : z = .bool b → Q b m led → AsB Q z m led
theorem tr_compare {l r : Expr} {op : CmpOp} {Q : Bool → Loc → Led → Prop} (h : EV c l m led (CmpL c r op (AsB Q))) (hm : behindInMarks op r = false) : TR c (.Compare l [op] [r] pos) m led Q := by
  intro bg s Z B S
  refine wpAny_isTrue_Compare1 (wpAny_mono (h bg s Z B S) (fun a s₁ p => ?_) fun _ _ e => e) hm
  obtain ⟨x, m', led', Z', z', e', S, r, q⟩ := p
  refine wpAny_mono (q bg s₁ Z' B S) (fun b s₂ p => ?_) fun _ _ e => e
  obtain ⟨y, m₂, led₂, Z₂, z₂, e₂, S₂, r₂, q₂⟩ := p
  refine wpAny_mono (q₂ bg s₂ Z₂ a b B S₂ (r.mono z₂) r₂) (fun v s₃ p => ?_) fun _ _ e => e
  obtain ⟨y, m₃, led₃, Z₃, z₃, e₃, S₃, r₃, b, rfl, q₃⟩ := (p.up z₂ e₂).up z' e'
  cases r₃.inv
  exact wpAny_pure (a := b) ⟨b, m₃, led₃, Z₃, z₃, e₃, S₃, rfl, q₃⟩
theorem tr_not {e : Expr} {Q : Bool → Loc → Led → Prop} (h : TR c e m led fun b => Q (!b)) : TR c (.UnaryOp .Not e pos) m led Q := by
  intro bg s Z B S
  refine wpAny_isTrue_Not (wpAny_mono (h bg s Z B S) (fun a s₁ p => ?_) fun _ _ e => e)
  obtain ⟨x, m', led', Z', z', e', S, r, q⟩ := p
  cases r
  exact ⟨_, m', led', Z', z', e', S, rfl, q⟩
theorem tr_or {e f : Expr} {Q : Bool → Loc → Led → Prop} (h : TR c e m led fun b m₁ led₁ => if b = true then Q true m₁ led₁ else TR c f m₁ led₁ Q) : TR c (.BoolOp .Or [e, f] pos) m led Q := by
  intro bg s Z B S
  refine isTrue_or (wpAny_mono (h bg s Z B S) (fun a s₁ p => ?_) fun _ _ e => e)
  obtain ⟨x, m', led', Z', z', e', S, r, q⟩ := p
  cases r
  cases a with
  | true => simpa using ⟨true, m', led', Z', z', e', S, rfl, q⟩
  | false =>
    simp only [Bool.false_eq_true, if_false] at q ⊢
    refine isTrue_or (wpAny_mono (q bg s₁ Z' B S) (fun a s₂ p => ?_) fun _ _ e => e)
    have p := p.up z' e'
    cases a with
    | true => simpa using p
    | false => simpa using isTrue_or_nil p
theorem ifexp {t e f : Expr} (h : TR c t m led fun b m₁ led₁ => if b = true then EV c e m₁ led₁ Q else EV c f m₁ led₁ Q) : EV c (.IfExp t e f pos) m led Q := by
  intro bg s Z B S
  refine wpAny_IfExp (wpAny_mono (h bg s Z B S) (fun a s₁ p => ?_) fun _ _ e => e)
  obtain ⟨x, m', led', Z', z', e', S, r, q⟩ := p
  cases r
  cases a with
  | true =>
    simp only [if_true] at q ⊢
    exact wpAny_mono (q bg s₁ Z' B S) (fun _ _ p => p.up z' e') fun _ _ e => e
  | false =>
    simp only [Bool.false_eq_true, if_false] at q ⊢
    exact wpAny_mono (q bg s₁ Z' B S) (fun _ _ p => p.up z' e') fun _ _ e => e
end
end Mine
end
section
open PySem PySem.W PySem.Calls PyProof.Rows
set_option Elab.async false
set_option maxRecDepth 100000
namespace Mine
theorem keep_ext {h h' : Heap} (e : Heap.ExtBut h.objs.size h h') : ∀ a o, h.get? a = some o → h'.get? a = some o := fun a o q => e a o (Nat.ne_of_lt (Heap.lt_size q)) q
section
variable {c : Cx} {m : Loc} {led : Led} {x : Str} {pos : Pos} {v : V}
noncomputable abbrev AT (c : Cx) (t : Expr) (v : V) (m : Loc) (led : Led) (Q : Loc → Led → Prop) : Prop := A1 c RU (assign t c.env) v m led fun _ => Q
noncomputable abbrev AN (c : Cx) (x : Str) (v : V) (m : Loc) (led : Led) (Q : Loc → Led → Prop) : Prop := A1 c RU (storeName c.env x) v m led fun _ => Q
theorem an_local {Q : Loc → Led → Prop} (hl : c.env.kindOf x = some .local) (hk : c.env.scope.kind = .function) (q : Q ((x, v) :: m) led) : AN c x v m led Q := by
  intro bg s Z a B S r
  obtain ⟨mr, hn, _⟩ := S.loc
  exact wpAny_storeName_local hl hn (fun h' hn' hs => Post.here (b := ()) ⟨S.store hn r hn' hs hl, S.tk.mono (Nat.le_succ _)⟩ True.intro q) (by rw [hk]; rfl)
theorem an_cell {Q : Loc → Led → Prop} (hl : c.env.kindOf x = some .cell) (hc : (c.env.cells.lookup x).isSome = true) (hk : c.env.scope.kind = .function) (q : Q ((x, v) :: m) led) : AN c x v m led Q := by
  intro bg s Z a B S r
  obtain ⟨ca, ha⟩ := Option.isSome_iff_exists.mp hc
  obtain ⟨r₀, e1, _⟩ := S.cel x ca ha
  exact wpAny_storeName_cell hk hl ha e1 fun h' hc' hs => Post.here (b := ()) (tk := s.toks) ⟨S.storeCell ha r hc' hs hl, S.tk⟩ True.intro q
theorem at_name {Q : Loc → Led → Prop} (h : AN c x v m led Q) : AT c (.Name x pos) v m led Q := fun bg s Z a B S r => assign_Name (h bg s Z a B S r)
noncomputable def AIO (c : Cx) : List Expr → List V → Loc → Led → (Loc → Led → Prop) → Prop
  | t :: ts, v :: vs, m, led, Q => AT c t v m led fun m led => AIO c ts vs m led Q
  | _, _, m, led, Q => Q m led
theorem aio_sound {Q : Loc → Led → Prop} : ∀ {ts : List Expr} {vs : List V} {m : Loc} {led : Led}, AIO c ts vs m led Q → ∀ bg s Z as, Base c.K bg → St c.env bg Z m led s → Rs Z as vs → ts.length = vs.length →
    wpAny (model c.prog c.w) c.A (assignInOrder (ts.map fun t => assign t c.env) as) (Post c bg RU s Z fun _ => Q) NoE s
  | [], vs, m, led, h, bg, s, Z, as, B, S, r, hl => assignInOrder_nil (Post.same (b := ()) S True.intro (by cases vs <;> exact h))
  | t :: ts, [], m, led, h, bg, s, Z, as, B, S, r, hl => by cases hl
  | t :: ts, v :: vs, m, led, h, bg, s, Z, as, B, S, r, hl => by
    cases r with
    | cons r1 r2 =>
      refine assignInOrder_cons (wpAny_mono (h bg s Z _ B S r1) (fun _ s₁ p => ?_) fun _ _ e => e)
      obtain ⟨_, m', led', Z', z', e', S', _, q⟩ := p
      exact wpAny_mono (aio_sound q bg s₁ Z' _ B S' (r2.mono z') (by simpa using hl)) (fun _ _ p => p.up z' e') fun _ _ e => e
theorem at_tuple {Q : Loc → Led → Prop} {es : List Expr} {k : Nat} {vs : List V} (hh : c.A.handled = none) (he : assignEach es c.env = es.map fun t => (false, assign t c.env)) (hl : es.length = vs.length)
    (h : AIO c es vs m led Q) : AT c (.Tuple es k pos) (.tup vs) m led Q := by
  intro bg s Z a B S r
  cases r.inv with
  | mk _ _ _ e rs =>
    refine assign_Tuple_tuple hh ⟨_, S.zk _ _ e, rfl, _, rfl⟩ (by rw [he]; simp [hl, rs.length]) (by rw [he]; simp [List.findIdx?_map]) fun h' hs => ?_
    rw [he]
    have := aio_sound h bg { s with heap := h' } Z _ B ⟨S.keep (keep_ext hs), S.tk⟩ rs hl
    simp only [List.map_map] at this ⊢
    exact wpAny_mono this (fun _ _ p => p.up (Zle.refl _) rfl) fun _ _ e => e
noncomputable abbrev EX (c : Cx) (st : Stmt) (m : Loc) (led : Led) (Q : FV → Loc → Led → Prop) : Prop := AW c RF (exec st c.env) m led Q
noncomputable abbrev XS (c : Cx) (ss : List Stmt) (m : Loc) (led : Led) (Q : FV → Loc → Led → Prop) : Prop := AW c RF (execs ss c.env) m led Q
theorem xs_nil {Q : FV → Loc → Led → Prop} (q : Q .next m led) : XS c [] m led Q := fun _ _ _ _ S => wpAny_execs_nil (Post.same S .next q)
noncomputable def Then (c : Cx) (ss : List Stmt) (Q : FV → Loc → Led → Prop) (f : FV) (m : Loc) (led : Led) : Prop := match f with
  | .next => XS c ss m led Q
  | f => Q f m led
theorem xs_cons {st : Stmt} {ss : List Stmt} {Q : FV → Loc → Led → Prop} (h : EX c st m led (Then c ss Q)) : XS c (st :: ss) m led Q := by
  intro bg s Z B S
  refine wpAny_execs_cons (wpAny_mono (h bg s Z B S) (fun f s₁ p => ?_) fun _ _ e => e)
  obtain ⟨b, m', led', Z', z', e', S, r, q⟩ := p
  cases r with
  | next => exact wpAny_mono (q bg s₁ Z' B S) (fun _ _ p => p.up z' e') fun _ _ e => e
  | brk => exact ⟨_, m', led', Z', z', e', S, .brk, q⟩
  | cont => exact ⟨_, m', led', Z', z', e', S, .cont, q⟩
  | ret r => exact ⟨_, m', led', Z', z', e', S, .ret r, q⟩
noncomputable abbrev RetV (Q : FV → Loc → Led → Prop) (v : V) : Loc → Led → Prop := Q (.ret v)
noncomputable abbrev AsgK (c : Cx) (x : Str) (Q : FV → Loc → Led → Prop) (v : V) (m : Loc) (led : Led) : Prop := AN c x v m led (Q .next)
noncomputable abbrev AstK (c : Cx) (es : List Expr) (k : Nat) (p1 : Pos) (Q : FV → Loc → Led → Prop) (v : V) (m : Loc) (led : Led) : Prop := AT c (.Tuple es k p1) v m led (Q .next)
theorem ex_return {e : Expr} {Q : FV → Loc → Led → Prop} (h : EV c e m led (RetV Q)) : EX c (.Return (some e) pos) m led Q := by
  intro bg s Z B S
  refine wpAny_Return_some (wpAny_mono (h bg s Z B S) (fun v s₁ p => ?_) fun _ _ e => e)
  obtain ⟨b, m', led', Z', z', e', S, r, q⟩ := p
  exact ⟨_, m', led', Z', z', e', S, .ret r, q⟩
theorem ex_break {Q : FV → Loc → Led → Prop} (q : Q .brk m led) : EX c (.Break pos) m led Q := fun bg s Z B S => by
  show wpAny _ _ (do standAt pos; pure Flow.brk) _ _ s
  exact wpAny_bind (wpAny_standAt (wpAny_pure (Post.same S .brk q)))
theorem ex_if {t : Expr} {b1 b2 : List Stmt} {Q : FV → Loc → Led → Prop} (h : TR c t m led fun b m₁ led₁ => if b = true then XS c b1 m₁ led₁ Q else XS c b2 m₁ led₁ Q) : EX c (.If t b1 b2 pos) m led Q := by
  intro bg s Z B S
  refine wpAny_If (wpAny_mono (h bg s Z B S) (fun a s₁ p => ?_) fun _ _ e => e)
  obtain ⟨x, m', led', Z', z', e', S, r, q⟩ := p
  cases r
  cases a with
  | true =>
    simp only [if_true] at q ⊢
    exact wpAny_mono (q bg s₁ Z' B S) (fun _ _ p => p.up z' e') fun _ _ e => e
  | false =>
    simp only [Bool.false_eq_true, if_false] at q ⊢
    exact wpAny_mono (q bg s₁ Z' B S) (fun _ _ p => p.up z' e') fun _ _ e => e
theorem ex_expr {e : Expr} {Q : FV → Loc → Led → Prop} (h : EV c e m led fun v m₁ led₁ => v = .none ∧ Q .next m₁ led₁) (hi : interactive c.env = false) (hs : swapsWith e none pos.line c.env = pure false) : EX c (.Expr e pos) m led Q := by
  intro bg s Z B S
  refine wpAny_Expr (wpAny_mono (h bg s Z B S) (fun v s₁ p => ?_) fun _ _ e => e) hi hs
  obtain ⟨b, m', led', Z', z', e', S, r, rfl, q⟩ := p
  cases r.inv
  exact ⟨_, m', led', Z', z', e', S, .next, q⟩
theorem ex_assign {e : Expr} {p1 : Pos} {Q : FV → Loc → Led → Prop} (h : EV c e m led (AsgK c x Q)) (hs : swapsWith e (some (.Name x p1)) pos.line c.env = pure false) : EX c (.Assign [.Name x p1] e pos) m led Q := by
  intro bg s Z B S
  refine wpAny_Assign_Name (wpAny_mono (h bg s Z B S) (fun v s₁ p => ?_) fun _ _ e => e) hs
  obtain ⟨b, m', led', Z', z', e', S, r, q⟩ := p
  refine wpAny_mono (q bg s₁ Z' v B S r) (fun _ _ p => ?_) fun _ _ e => e
  obtain ⟨b, m₂, led₂, Z₂, z₂, e₂, S₂, r₂, q₂⟩ := p.up z' e'
  exact ⟨_, m₂, led₂, Z₂, z₂, e₂, S₂, .next, q₂⟩
theorem ex_assign_tuple {e : Expr} {es : List Expr} {k : Nat} {p1 : Pos} {Q : FV → Loc → Led → Prop} (h : EV c e m led (AstK c es k p1 Q))
    (hs : swapsWithSole [.Tuple es k p1] e pos.line c.env = pure false) (hw : swappedStores [.Tuple es k p1] e c.env = pure none) : EX c (.Assign [.Tuple es k p1] e pos) m led Q := by
  intro bg s Z B S
  refine Assign_Tuple (wpAny_mono (h bg s Z B S) (fun v s₁ p => ?_) fun _ _ e => e) hs hw
  obtain ⟨b, m', led', Z', z', e', S, r, q⟩ := p
  refine wpAny_mono (q bg s₁ Z' v B S r) (fun _ _ p => ?_) fun _ _ e => e
  obtain ⟨b, m₂, led₂, Z₂, z₂, e₂, S₂, r₂, q₂⟩ := p.up z' e'
  exact ⟨_, m₂, led₂, Z₂, z₂, e₂, S₂, .next, q₂⟩
inductive TwoOk (c : Cx) (x y : Str) (Q : FV → Loc → Led → Prop) (v : V) (m₁ : Loc) (led₁ : Led) : Prop
  | mk (a b : V) : v = .tup [a, b] → (AN c y b m₁ led₁ fun m₂ led₂ => AN c x a m₂ led₂ (Q .next)) → TwoOk c x y Q v m₁ led₁
theorem ex_assign_two {e : Expr} {y : Str} {es : List Expr} {k : Nat} {p1 : Pos} {Q : FV → Loc → Led → Prop} (hh : c.A.handled = none)
    (h : EV c e m led (TwoOk c x y Q))
    (hs : swapsWithSole [.Tuple es k p1] e pos.line c.env = pure false) (hw : swappedStores [.Tuple es k p1] e c.env = pure (some [x, y])) : EX c (.Assign [.Tuple es k p1] e pos) m led Q := by
  intro bg s Z B S
  refine Assign_Tuple_swapped (wpAny_mono (h bg s Z B S) (fun v s₁ p => ?_) fun _ _ e => e) hs hw
  obtain ⟨_, m', led', Z', z', e', S, r, a, b, rfl, q⟩ := p
  cases r.inv with
  | mk _ _ _ ez rs =>
    cases rs with
    | cons r1 rs =>
      cases rs with
      | cons r2 rs =>
        cases rs
        have ht : IsTup s₁.heap _ _ := ⟨_, S.zk _ _ ez, rfl, _, rfl⟩
        refine unpackItems_tuple (items := List.toArray [_, _]) hh ht fun h' hs => ?_
        show wpAny _ _ (assignInOrder [bindName c.env y, bindName c.env x] [_, _]) _ _ _
        have S' : St c.env bg Z' m' led' { s₁ with heap := h' } := ⟨S.keep (keep_ext hs), S.tk⟩
        refine assignInOrder_cons (wpAny_bindName (wpAny_mono (q bg { s₁ with heap := h' } Z' _ B S' r2) (fun _ s₂ p => ?_) fun _ _ e => e))
        obtain ⟨_, m₂, led₂, Z₂, z₂, e₂, S₂, _, q₂⟩ := p
        refine assignInOrder_cons (wpAny_bindName (wpAny_mono (q₂ bg s₂ Z₂ _ B S₂ (r1.mono z₂)) (fun _ s₃ p => assignInOrder_nil ?_) fun _ _ e => e))
        obtain ⟨_, m₃, led₃, Z₃, z₃, e₃, S₃, _, q₃⟩ := p
        exact ⟨_, m₃, led₃, Z₃, z'.trans (z₂.trans z₃), by rw [e₃, e₂, e'], S₃, .next, q₃⟩
theorem ln_local {Q : V → Loc → Led → Prop} (hl : c.env.kindOf x = some .local) (hm : m.lookup x = some v) (hk : c.env.scope.kind = .function) (q : Q v m led) : AW c R (loadName c.env x) m led Q := by
  intro bg s Z B S
  obtain ⟨mr, hn, hr⟩ := S.loc
  obtain ⟨r, e1, e2⟩ := hr x v hm hl
  exact wpAny_loadName_local hk hl hn e1 (Post.same S e2 q)
theorem ex_aug {e : Expr} {op : Operator} {p1 : Pos} {Q : FV → Loc → Led → Prop} (hn : AW c R (loadName c.env x) m led fun a m₁ led₁ => EV c e m₁ led₁ fun b m₂ led₂ => A2 c R (inplaceOp op) a b m₂ led₂ fun r m₃ led₃ => AN c x r m₃ led₃ (Q .next)) : EX c (.AugAssign (.Name x p1) op e pos) m led Q := by
  intro bg s Z B S
  refine wpAny_AugAssign_Name (wpAny_mono (hn bg s Z B S) (fun v s₁ p => ?_) fun _ _ e => e)
  obtain ⟨a, m', led', Z', z', e', S, r, q⟩ := p
  refine wpAny_mono (q bg s₁ Z' B S) (fun b s₂ p => ?_) fun _ _ e => e
  obtain ⟨y, m₂, led₂, Z₂, z₂, e₂, S₂, r₂, q₂⟩ := p
  refine wpAny_mono (q₂ bg s₂ Z₂ v b B S₂ (r.mono z₂) r₂) (fun w s₃ p => ?_) fun _ _ e => e
  obtain ⟨y, m₃, led₃, Z₃, z₃, e₃, S₃, r₃, q₃⟩ := p
  refine wpAny_mono (q₃ bg s₃ Z₃ w B S₃ r₃) (fun _ s₄ p => ?_) fun _ _ e => e
  obtain ⟨_, m₄, led₄, Z₄, z₄, e₄, S₄, _, q₄⟩ := p
  exact ⟨_, m₄, led₄, Z₄, z'.trans (z₂.trans (z₃.trans z₄)), by rw [e₄, e₃, e₂, e'], S₄, .next, q₄⟩
end
end Mine
end
section
open PySem PySem.W PySem.Calls PyProof.Rows
set_option Elab.async false
set_option maxRecDepth 100000
namespace Mine
open Classical in
noncomputable def wide (env : Env) (led : Led) (h : Heap) : Bt := fun a => if (led a).isSome = true ∨ a = env.locals ∨ (∃ x, env.cells.lookup x = some a) then none else h.get? a
section
variable {env : Env} {bg bg' : Bt} {Z : Zt} {m : Loc} {led : Led} {h h' : Heap} {K : Frag}
theorem wide_get {a : Addr} {o : Obj} (e : h.get? a = some o) (h1 : led a = none) (h2 : a ≠ env.locals) (h3 : ∀ x, env.cells.lookup x ≠ some a) : wide env led h a = some o := by
  unfold wide
  rw [if_neg, e]
  rintro (q | q | ⟨x, q⟩)
  · rw [h1] at q; cases q
  · exact h2 q
  · exact h3 x q
theorem wide_of {a : Addr} {o : Obj} (e : wide env led h a = some o) : h.get? a = some o ∧ led a = none ∧ a ≠ env.locals ∧ ∀ x, env.cells.lookup x ≠ some a := by
  unfold wide at e
  split at e
  · cases e
  · rename_i q
    simp only [not_or, not_exists] at q
    refine ⟨e, ?_, q.2.1, q.2.2⟩
    cases w : led a with
    | none => rfl
    | some _ => exact absurd (by rw [w]; rfl) q.1
theorem Sh.le_wide (S : Sh env bg Z m led h) : Ble bg (wide env led h) := fun a o e => by
  refine wide_get (S.bgk a o e) ?_ ?_ ?_
  · cases w : led a with
    | none => rfl
    | some ao => rw [(S.dled a ao w).1] at e; cases e
  · intro q; rw [q, S.dloc.1] at e; cases e
  · intro x q; rw [(S.dcel x a q).1] at e; cases e
theorem Sh.wide (S : Sh env bg Z m led h) : Sh env (wide env led h) Z m led h where
  bgk a o e := (wide_of e).1
  zk := S.zk
  loc := S.loc
  cel := S.cel
  lk := S.lk
  dled a ao e := by
    obtain ⟨_, h2, h3⟩ := S.dled a ao e
    refine ⟨?_, h2, h3⟩
    cases w : Mine.wide env led h a with
    | none => rfl
    | some o => rw [(wide_of w).2.1] at e; cases e
  dloc := by
    refine ⟨?_, S.dloc.2⟩
    cases w : Mine.wide env led h env.locals with
    | none => rfl
    | some o => exact absurd rfl (wide_of w).2.2.1
  dcel x a e := by
    refine ⟨?_, (S.dcel x a e).2⟩
    cases w : Mine.wide env led h a with
    | none => rfl
    | some o => exact absurd e ((wide_of w).2.2.2 x)
  icel := S.icel
  zc := S.zc
theorem Sh.narrow (S : Sh env bg' Z m led h) (l : Ble bg bg') : Sh env bg Z m led h :=
  have n : ∀ a, bg' a = none → bg a = none := fun a e => by
    cases w : bg a with
    | none => rfl
    | some o => rw [l a o w] at e; cases e
  { bgk := fun a o e => S.bgk a o (l a o e)
    zk := S.zk
    loc := S.loc
    cel := S.cel
    lk := S.lk
    dled := fun a ao e => ⟨n a (S.dled a ao e).1, (S.dled a ao e).2⟩
    dloc := ⟨n _ S.dloc.1, S.dloc.2⟩
    dcel := fun x a e => ⟨n a (S.dcel x a e).1, (S.dcel x a e).2⟩
    icel := S.icel
    zc := S.zc }
theorem Sh.keepBut (S : Sh env bg Z m led h) {I : Addr} (b : bg I = none) (z : Z.ob I = none) (l : led I = none) (n : I ≠ env.locals) (c : ∀ x, env.cells.lookup x ≠ some I)
    (k : ∀ a o, a ≠ I → h.get? a = some o → h'.get? a = some o) : Sh env bg Z m led h' where
  bgk a o e := k a o (fun q => by rw [q, b] at e; cases e) (S.bgk a o e)
  zk a o e := k a o (fun q => by rw [q, z] at e; cases e) (S.zk a o e)
  loc := let ⟨mr, hn, hr⟩ := S.loc; ⟨mr, hn.at' fun o e => k _ o (Ne.symm n) e, hr⟩
  cel x a e := let ⟨r, ⟨o, ho, hd⟩, hr⟩ := S.cel x a e; ⟨r, ⟨o, k a o (fun q => c x (q ▸ e)) ho, hd⟩, hr⟩
  lk a ao e := let ⟨o, ho, hr⟩ := S.lk a ao e; ⟨o, k a o (fun q => by rw [q, l] at e; cases e) ho, hr⟩
  dled := S.dled
  dloc := S.dloc
  dcel := S.dcel
  icel := S.icel
  zc := S.zc
end
noncomputable def ownedIters : List String := ["enumerate", "zip", "dict_itemiterator", "dict_reverseitemiterator", "odict_iterator", "itertools.zip_longest", "itertools.pairwise"]
inductive ItN (I : Addr) (Z : Zt) (s : Shared) (d : V) (J : Zt → Heap → Prop) (r : Option Value) (s' : Shared) : Prop
  | mk (v : Value) (Z' : Zt) : r = some v → s' = { s with heap := s'.heap, toks := s'.toks } → Zx Z s.toks Z' s'.toks → R Z' v d → J Z' s'.heap → (∀ b o, b ≠ I → s.heap.get? b = some o → s'.heap.get? b = some o) → ItN I Z s d J r s'
inductive ItE (I : Addr) (s : Shared) (r : Option Value) (s' : Shared) : Prop
  | mk : r = none → s' = { s with heap := s'.heap, toks := s'.toks } → (∀ b o, b ≠ I → s.heap.get? b = some o → s'.heap.get? b = some o) → ItE I s r s'
inductive ItC (I : Addr) (h : Heap) : Prop
  | mk (o : Obj) (n : String) : h.get? I = some o → o.cls = .type n → ownedIters.contains n = false → n ≠ "tuple" → n ≠ "list" → n ≠ "range" → ItC I h
structure It (prog : Program) (w : World) (A : Around) (I : Addr) (items : List V) (ok : Led → Prop) (J : Nat → Zt → Heap → Prop) : Prop where
  item : ∀ i d (s : Shared) Z led, TokOk Z s.toks → items[i]? = some d → (∀ a o, Z.ob a = some o → s.heap.get? a = some o) → (∀ a ao, led a = some ao → ∃ o, s.heap.get? a = some o ∧ LR Z o ao) → ok led → J i Z s.heap →
    wpAny (model prog w) A (pyNext (.ref I)) (ItN I Z s d (J (i + 1))) NoE s
  fin : ∀ (s : Shared) Z led, (∀ a o, Z.ob a = some o → s.heap.get? a = some o) → (∀ a ao, led a = some ao → ∃ o, s.heap.get? a = some o ∧ LR Z o ao) → ok led → J items.length Z s.heap →
    wpAny (model prog w) A (pyNext (.ref I)) (ItE I s) NoE s
  self : ∀ i Z (s : Shared), J i Z s.heap → wpAny (model prog w) A (pyIter (.ref I)) (fun it s' => it = .ref I ∧ s' = s) NoE s
  cls : ∀ i Z h, J i Z h → ItC I h
  frame : ∀ i Z Z' h h', J i Z h → Zle Z Z' → (∀ o, h.get? I = some o → h'.get? I = some o) → J i Z' h'
inductive SrcP (prog : Program) (w : World) (Z : Zt) (s : Shared) (items : List V) (ok : Led → Prop) (it : Value) (s' : Shared) : Prop
  | mk (I : Addr) (J : Nat → Zt → Heap → Prop) : it = .ref I → (∀ A' : Around, A'.handled = none → It prog w A' I items ok J) → J 0 Z s'.heap → s' = { s with heap := s'.heap, toks := s'.toks } → (∀ b o, s.heap.get? b = some o → s'.heap.get? b = some o) → s.heap.objs.size ≤ I → SrcP prog w Z s items ok it s'
noncomputable def Src (prog : Program) (w : World) (A : Around) (x : V) (items : List V) (ok : Led → Prop) : Prop :=
  ∀ (s : Shared) Z led a, (∀ a o, Z.ob a = some o → s.heap.get? a = some o) → (∀ a ao, led a = some ao → ∃ o, s.heap.get? a = some o ∧ LR Z o ao) → ok led → R Z a x →
    wpAny (model prog w) A (pyIter a) (SrcP prog w Z s items ok) NoE s
section
variable {prog : Program} {w : World} {A : Around}
theorem src_list {l : List V} : Src prog w A (.lst l) l (fun _ => True) := by
  intro s Z led a zk lk _ r
  cases r.inv with
  | mk a vs n e rs =>
    have hl : s.heap.IsList a vs.toArray := ⟨_, zk _ _ e, rfl, n, rfl⟩
    have hne : a ≠ s.heap.objs.size := Nat.ne_of_lt (Heap.lt_size (zk _ _ e))
    refine wpAny_pyIter_list hl ⟨s.heap.objs.size, fun i Z h => h.IsListIter s.heap.objs.size a i ∧ Z.ob a = some { cls := .type "list", data := .seq vs.toArray n } ∧ Rs Z vs l, rfl, fun A' hA => ?_, ⟨⟨_, Heap.get?_push_size _ rfl, rfl, rfl⟩, e, rs⟩, rfl, fun b o q => Heap.get?_push_of_some _ q, Nat.le_refl _⟩
    refine ⟨?_, ?_, ?_, ?_, ?_⟩
    · rintro i d s₁ Z led htk hi zk lk _ ⟨hit, ez, rz⟩
      obtain ⟨v, hv, rv⟩ : ∃ v, vs[i]? = some v ∧ R Z v d := rz.get hi
      refine wpAny_pyNext_list_item hit ⟨_, zk _ _ ez, rfl, n, rfl⟩ (x := v) (by simpa using hv) fun h' hit' hs' => ⟨v, Z, rfl, rfl, .same, rv, ⟨hit', ez, rz⟩, fun b o hb q => hs'.extBut b o hb q⟩
    · rintro s₁ Z led zk lk _ ⟨hit, ez, rz⟩
      exact wpAny_pyNext_list_end hA hit ⟨_, zk _ _ ez, rfl, n, rfl⟩ (by have := rz.length; simp [this]) fun h' he' => ⟨rfl, rfl, fun b o hb q => he' b o hb q⟩
    · rintro i Z s₁ ⟨hit, _⟩
      exact wpAny_pyIter_listiter hit ⟨rfl, rfl⟩
    · rintro i Z h ⟨⟨o, ho, hc, _⟩, _⟩
      exact ⟨o, _, ho, hc, by decide, by decide, by decide, by decide⟩
    · rintro i Z Z' h h' ⟨hit, ez, rz⟩ le k
      exact ⟨hit.at k, le.ob _ _ ez, rz.mono le⟩
theorem src_own {a : Addr} {l : List V} : Src prog w A (.own a) l (fun led => led a = some (.list l)) := by
  intro s Z led b zk lk e r
  cases r
  obtain ⟨o, ho, vs, n, rfl, rs⟩ := lk a _ e
  have hl : s.heap.IsList a vs.toArray := ⟨_, ho, rfl, n, rfl⟩
  refine wpAny_pyIter_list hl ⟨s.heap.objs.size, fun i Z h => h.IsListIter s.heap.objs.size a i, rfl, fun A' hA => ?_, ⟨_, Heap.get?_push_size _ rfl, rfl, rfl⟩, rfl, fun b o q => Heap.get?_push_of_some _ q, Nat.le_refl _⟩
  refine ⟨?_, ?_, ?_, ?_, ?_⟩
  · intro i d s₁ Z led htk hi zk lk e hit
    obtain ⟨o, ho, vs, n, rfl, rs⟩ := lk a _ e
    obtain ⟨v, hv, rv⟩ : ∃ v, vs[i]? = some v ∧ R Z v d := rs.get hi
    exact wpAny_pyNext_list_item hit ⟨_, ho, rfl, n, rfl⟩ (x := v) (by simpa using hv) fun h' hit' hs' => ⟨v, Z, rfl, rfl, .same, rv, hit', fun b o hb q => hs'.extBut b o hb q⟩
  · intro s₁ Z led zk lk e hit
    obtain ⟨o, ho, vs, n, rfl, rs⟩ := lk a _ e
    exact wpAny_pyNext_list_end hA hit ⟨_, ho, rfl, n, rfl⟩ (by have := rs.length; simp [this]) fun h' he' => ⟨rfl, rfl, fun b o hb q => he' b o hb q⟩
  · intro i Z s₁ hit
    exact wpAny_pyIter_listiter hit ⟨rfl, rfl⟩
  · rintro i Z h ⟨o, ho, hc, _⟩
    exact ⟨o, _, ho, hc, by decide, by decide, by decide, by decide⟩
  · intro i Z Z' h h' hit _ k
    exact hit.at k
noncomputable def rints (a : Int) (n : Nat) : List V := (List.range n).map fun i => V.int (a + (i : Nat))
theorem src_range {a b : Int} {n : Nat} (hn : (n : Int) = b - a ∨ (n = 0 ∧ b ≤ a)) (h1 : -(2 ^ 60) < a) (h2 : a < 2 ^ 60) (h3 : -(2 ^ 60) < b) (h4 : b < 2 ^ 60) : Src prog w A (.rng a b) (rints a n) (fun _ => True) := by
  have hsz : Builtin.Range.rangeSize a b 1 = (n : Int) := by
    unfold Builtin.Range.rangeSize
    split <;> simp_all <;> omega
  have hsm : Builtin.Range.small a b 1 = true := by
    unfold Builtin.Range.small
    rw [hsz]
    simp only [Builtin.Range.rangeFitsLong, Bool.and_eq_true, decide_eq_true_eq, Bool.or_eq_true]
    refine ⟨⟨⟨⟨?_, ?_⟩, ?_⟩, ?_⟩, ?_⟩ <;> first | omega | (right; simp; omega) | (constructor <;> omega)
  intro s Z led v zk lk _ r
  cases r.inv with
  | mk r t u v e =>
    refine wpAny_pyIter_range (zk _ _ e) hsm ⟨s.heap.objs.size, fun i Z h => IsRangeIter h s.heap.objs.size (a + (i : Nat)) ((n : Int) - (i : Nat)) 1, rfl, fun A' hA => ?_, ?_, rfl, fun b o q => Heap.get?_push_of_some _ q, Nat.le_refl _⟩
    · refine ⟨?_, ?_, ?_, ?_, ?_⟩
      · intro i d s₁ Z led htk hi zk lk _ hit
        simp only [rints, List.getElem?_map, Option.map_eq_some_iff] at hi
        obtain ⟨k, hk, rfl⟩ := hi
        obtain ⟨hk1, rfl⟩ := List.getElem?_eq_some_iff.mp hk
        simp at hk1
        refine wpAny_pyNext_range_item hit (by omega) fun h' hit' hs' => ⟨_, _, rfl, rfl, .new (.int (a + (i : Nat))), by simp only [List.getElem_range]; exact .int _ _ (ztk_self ..), ?_, fun b o hb q => hs'.extBut b o hb q⟩
        have e1 : a + ((i + 1 : Nat) : Int) = a + (i : Nat) + 1 := by omega
        have e2 : (n : Int) - ((i + 1 : Nat) : Int) = (n : Int) - (i : Nat) - 1 := by omega
        rw [e1, e2]; exact hit'
      · intro s₁ Z led zk lk _ hit
        have hl : (rints a n).length = n := by simp [rints]
        rw [hl] at hit
        exact wpAny_pyNext_range_end hA hit (by omega) fun h' he' => ⟨rfl, rfl, fun b o hb q => he' b o hb q⟩
      · intro i Z s₁ hit
        exact wpAny_pyIter_rangeiter hit ⟨rfl, rfl⟩
      · intro i Z h hit
        exact ⟨_, _, hit, rfl, by decide, by decide, by decide, by decide⟩
      · intro i Z Z' h h' hit _ k
        exact k _ hit
    · rw [hsz]
      have : a + ((0 : Nat) : Int) = a := by omega
      show IsRangeIter _ _ (a + ((0 : Nat) : Int)) ((n : Int) - ((0 : Nat) : Int)) 1
      rw [this]
      have : (n : Int) - ((0 : Nat) : Int) = n := by omega
      rw [this]
      exact Heap.get?_push_size _ rfl
end
theorem letOwned_pure {M : Model} {A : Around} {target : Expr} {I : Addr} {v : Value} {o : Obj} {n : String} {s : Shared} {Q : Unit → Shared → Prop} {E : Value → Shared → Prop} (ho : s.heap.get? I = some o) (hc : o.cls = .type n) (hn : ownedIters.contains n = false) (q : Q () s) :
    wpAny M A (letOwnedTupleGo target (.ref I) v) Q E s := by
  have go : wpAny M A (do
      let (.ref r, .ref a) := (Value.ref I, v) | return
      let o ← load r
      match o.cls, o.data with
      | .type n, .fields vs =>
        if ["enumerate", "zip", "dict_itemiterator", "dict_reverseitemiterator", "odict_iterator", "itertools.zip_longest", "itertools.pairwise"].contains n && vs[0]? == some (rawInt a) then
          rule "for.unpacks-the-owned-tuple"
          updateField r 0 .none
      | _, _ => pure ()) Q E s := by
    cases v with
    | ref a =>
      refine wpAny_bind (wpAny_load ho ?_)
      rw [hc]
      have hn' : ["enumerate", "zip", "dict_itemiterator", "dict_reverseitemiterator", "odict_iterator", "itertools.zip_longest", "itertools.pairwise"].contains n = false := hn
      split
      · rename_i q1 q2
        cases q1
        rw [hn']
        simp only [Bool.false_and, Bool.false_eq_true, if_false]
        exact wpAny_pure q
      · exact wpAny_pure q
    | _ => exact wpAny_pure q
  unfold letOwnedTupleGo
  split <;> first | exact go | exact wpAny_pure q
noncomputable def Turn (Inv : Nat → Loc → Led → Prop) (j : Nat) (Q : FV → Loc → Led → Prop) (f : FV) (m : Loc) (led : Led) : Prop := match f with
  | .next => Inv j m led
  | .cont => Inv j m led
  | .brk => Q .next m led
  | .ret v => Q (.ret v) m led
theorem Base.wide {K : Frag} {bg : Bt} {Z : Zt} {env : Env} {m : Loc} {led : Led} {s : Shared} (B : Base K bg) (S : St env bg Z m led s) : Base K (wide env led s.heap) := B.le S.le_wide
theorem St.wide {bg : Bt} {Z : Zt} {env : Env} {m : Loc} {led : Led} {s : Shared} (S : St env bg Z m led s) : St env (Mine.wide env led s.heap) Z m led s := ⟨S.toSh.wide, S.tk⟩
theorem St.narrow {bg bg' : Bt} {Z : Zt} {env : Env} {m : Loc} {led : Led} {s : Shared} (S : St env bg' Z m led s) (l : Ble bg bg') : St env bg Z m led s := ⟨S.toSh.narrow l, S.tk⟩
section
variable {c : Cx} {m : Loc} {led : Led} {pos : Pos}
inductive ForOk (c : Cx) (target : Expr) (body : List Stmt) (Q : FV → Loc → Led → Prop) (x : V) (m₁ : Loc) (led₁ : Led) : Prop
  | mk (items : List V) (ok : Led → Prop) : Src c.prog c.w c.A x items ok → (Inv : Nat → Loc → Led → Prop) → Inv 0 m₁ led₁ → (∀ i m led, Inv i m led → ok led) →
      (∀ i d m led, items[i]? = some d → Inv i m led → AT c target d m led fun m led => XS c body m led (Turn Inv (i + 1) Q)) → (∀ m led, Inv items.length m led → Q .next m led) → ForOk c target body Q x m₁ led₁
inductive ForI (c : Cx) (bg : Bt) (s : Shared) (Z : Zt) (I : Addr) (J : Nat → Zt → Heap → Prop) (Inv : Nat → Loc → Led → Prop) (len n : Nat) (s' : Shared) : Prop
  | mk (i : Nat) (m' : Loc) (led' : Led) (Z' : Zt) : s' = { s with heap := s'.heap, toks := s'.toks } → Zle Z Z' → St c.env bg Z' m' led' s' → J i Z' s'.heap → led' I = none → Inv i m' led' → i ≤ len → n = len + 1 - i → ForI c bg s Z I J Inv len n s'
theorem ex_for {target iter : Expr} {body : List Stmt} {Q : FV → Loc → Led → Prop} (hA : c.A.handled = none)
    (h : EV c iter m led (ForOk c target body Q))
    (hs : ∀ x, foldedSetIterable iter c.env x = pure x) : EX c (.For target iter body [] pos) m led Q := by
  intro bg s Z B S
  refine wpAny_For (wpAny_mono (h bg s Z B S) (fun x s₁ p => ?_) fun _ _ e => e) hs
  obtain ⟨xv, m₁, led₁, Z₁, z₁, e₁, S₁, r₁, items, ok, src, Inv, h0, hok, turn, done⟩ := p
  refine wpAny_mono (wpAny_toks (src s₁ Z₁ led₁ x S₁.zk S₁.lk (hok _ _ _ h0) r₁)) (fun it s₂ p => ?_) fun _ _ e => e.elim
  obtain ⟨⟨I, J, rfl, IT, hJ, e₂, k₂, hI⟩, tk₂⟩ := p
  replace IT := IT c.A hA
  have S₂ : St c.env bg Z₁ m₁ led₁ s₂ := ⟨S₁.keep k₂, S₁.tk.mono tk₂⟩
  have hL : I ≠ c.env.locals := by obtain ⟨mr, hn, _⟩ := S₁.loc; exact Nat.ne_of_gt (Nat.lt_of_lt_of_le hn.lt hI)
  have hC : ∀ y, c.env.cells.lookup y ≠ some I := fun y q => by obtain ⟨r, hc, _⟩ := S₁.cel y I q; exact absurd (Nat.lt_of_lt_of_le hc.lt hI) (Nat.lt_irrefl _)
  have hB := S₁.blt hI
  refine codeAny_forLoop_any
    (ForI c bg s Z I J Inv items.length)
    ?_ (items.length + 1) ⟨0, m₁, led₁, Z₁, by rw [e₂, e₁], z₁, S₂, hJ, S₁.llt hI, h0, Nat.zero_le _, rfl⟩
  rintro n s₃ ⟨i, m', led', Z', e₃, z', S₃, hJ₃, hlI, inv, hi, rfl⟩
  have zI : ∀ {Z i h}, J i Z h → (∀ a o, Z.ob a = some o → h.get? a = some o) → (∀ a o, Z.ob a = some o → DataObj o) → Z.ob I = none := fun {Z i h} j zk zc => by
    cases q : Z.ob I with
    | none => rfl
    | some o =>
      obtain ⟨o', n, ho, hc, _, n1, n2, n3⟩ := IT.cls _ _ _ j
      rw [zk I o q] at ho
      cases ho
      rcases zc I o q with ⟨_, _, _, x | x⟩ | ⟨_, _, x⟩ <;> rw [hc] at x <;> cases x <;> contradiction
  by_cases hlt : i < items.length
  · have hd : items[i]? = some items[i] := List.getElem?_eq_getElem hlt
    refine wpAny_mono (wpAny_toks (IT.item i _ s₃ Z' led' S₃.tk hd S₃.zk S₃.lk (hok _ _ _ inv) hJ₃)) (fun r s₄ p => ?_) fun _ _ e => e.elim
    obtain ⟨⟨v, Z₄, rfl, e₄, zx, rv, hJ₄, k₄⟩, -⟩ := p
    have S₄ : St c.env bg Z₄ m' led' s₄ := ⟨(S₃.keepBut hB (zI hJ₃ S₃.zk S₃.zc) hlI hL hC k₄).zx zx S₃.tk, zx.tk S₃.tk⟩
    have z' := z'.trans (zx.le S₃.tk)
    obtain ⟨oI, nI, hoI, hcI, hownI, _⟩ := IT.cls _ _ _ hJ₄
    refine letOwned_pure hoI hcI hownI ?_
    refine wpAny_mono (turn i _ m' led' hd inv (wide c.env led' s₄.heap) s₄ Z₄ v (B.wide S₄) S₄.wide rv) (fun _ s₅ p => ?_) fun _ _ e => e.elim
    obtain ⟨_, m₅, led₅, Z₅, z₅, e₅, S₅, _, q₅⟩ := p
    refine wpAny_mono (q₅ (wide c.env led' s₄.heap) s₅ Z₅ (B.wide S₄) S₅) (fun f s₆ p => ?_) fun _ _ e => e.elim
    obtain ⟨fv, m₆, led₆, Z₆, z₆, e₆, S₆, rf, q₆⟩ := p
    have eq : s₆ = { s with heap := s₆.heap, toks := s₆.toks } := by rw [e₆, e₅, e₄, e₃]
    have N := S₆.narrow S₄.le_wide
    have wI := wide_get (env := c.env) (led := led') hoI hlI hL hC
    have again : Inv (i + 1) m₆ led₆ → ∃ k, k < items.length + 1 - i ∧ ForI c bg s Z I J Inv items.length k s₆ := fun inv' => by
      refine ⟨items.length + 1 - (i + 1), by omega, i + 1, m₆, led₆, Z₆, eq, z'.trans (z₅.trans z₆), N, IT.frame _ _ _ _ _ hJ₄ (z₅.trans z₆) (fun o e => ?_), ?_, inv', hlt, rfl⟩
      · rw [hoI] at e; cases e
        exact S₆.bgk _ _ wI
      · cases q : led₆ I with
        | none => rfl
        | some ao => rw [(S₆.dled I ao q).1] at wI; cases wI
    cases rf with
    | next => exact again q₆
    | cont => exact again q₆
    | brk => exact ⟨.next, m₆, led₆, Z₆, z'.trans (z₅.trans z₆), eq, N, .next, q₆⟩
    | ret rv' => exact ⟨_, m₆, led₆, Z₆, z'.trans (z₅.trans z₆), eq, N, .ret rv', q₆⟩
  · have hlen : i = items.length := Nat.le_antisymm hi (Nat.not_lt.mp hlt)
    subst hlen
    refine wpAny_mono (wpAny_toks (IT.fin s₃ Z' led' S₃.zk S₃.lk (hok _ _ _ inv) hJ₃)) (fun r s₄ p => ?_) fun _ _ e => e.elim
    obtain ⟨⟨rfl, e₄, k₄⟩, tk₄⟩ := p
    have S₄ : St c.env bg Z' m' led' s₄ := ⟨S₃.keepBut hB (zI hJ₃ S₃.zk S₃.zc) hlI hL hC k₄, S₃.tk.mono tk₄⟩
    refine wpAny_execs_nil ?_
    exact ⟨.next, m', led', Z', z', by rw [e₄, e₃], S₄, .next, done _ _ inv⟩
end
end Mine
end
section
open PySem PySem.W PySem.Calls PyProof.Rows
set_option Elab.async false
set_option maxRecDepth 100000
namespace Mine
section
variable {prog : Program} {w : World} {A : Around} {R' : Result → Shared → Prop} {s : Shared}
theorem cloop {elt target iter : Expr} {ifs : List Expr} {scope : Scope} {pos : Pos} {it acc : Value} {env : Env} (I : Nat → Shared → Prop)
    (turn : ∀ n s, I n s → wpAny (model prog w) A (pyNext it) (fun r s₁ => match r with
      | none => R' (.ok .next) s₁
      | some v => wpAny (model prog w) A (letOwnedTupleGo target it v) (fun _ s₁' => wpAny (model prog w) A (assign target env v) (fun _ s₂ =>
          wpAny (model prog w) A (forIn ifs true fun c r => if r = true then do let ok ← isTrue c env (eval c env); pure (ForInStep.yield ok) else pure (ForInStep.yield r)) (fun ok s₃ =>
            if ok = true then wpAny (model prog w) A (eval elt env) (fun x s₄ =>
              wpAny (model prog w) A (call (.builtin "list.append") [acc, x]) (fun _ s₅ => ∃ m, m < n ∧ I m s₅) NoE s₄) NoE s₃
            else ∃ m, m < n ∧ I m s₃) NoE s₂) NoE s₁') NoE s₁) NoE s)
    (n : Nat) (h : I n s) : codeAny (model prog w) A (.compLoop (.ListComp elt [⟨target, iter, ifs, 0⟩] scope pos) 0 it acc env) R' s := by
  refine codeAny_loop rfl I (fun n s hI => ?_) n h
  show wpAny _ A ((compTurn (.ListComp elt [⟨target, iter, ifs, 0⟩] scope pos) 0 it acc env).onRaise (fun x => do noteFrame x env; theTreesLotGoes x)) _ _ s
  refine wpAny_noted ?_
  rw [compTurn_list]
  refine wpAny_bind (wpAny_standAt (wpAny_bind (wpAny_mono (turn n s hI) (fun r s₁ h₁ => ?_) fun _ _ h' => h'.elim)))
  cases r with
  | none => exact wpAny_pure h₁
  | some v =>
    refine wpAny_bind (wpAny_mono h₁ (fun _ s₂ h₂ => wpAny_bind (wpAny_mono h₂ (fun _ s₂ h₂ => wpAny_bind (wpAny_mono h₂ (fun ok s₃ h₃ => ?_) fun _ _ h' => h'.elim)) fun _ _ h' => h'.elim)) fun _ _ h' => h'.elim)
    cases ok with
    | false => exact wpAny_pure ⟨rfl, h₃⟩
    | true =>
      exact wpAny_bind (wpAny_bind (wpAny_mono h₃ (fun x s₄ h₄ => wpAny_bind (wpAny_mono h₄ (fun _ s₅ h₅ => wpAny_pure (wpAny_pure ⟨rfl, h₅⟩)) fun _ _ h' => h'.elim)) fun _ _ h' => h'.elim))
end
noncomputable def CI (c : Cx) (ifs : List Expr) (m : Loc) (led : Led) (Q : Bool → Loc → Led → Prop) : Prop :=
  AW c RB (forIn ifs true fun t r => if r = true then do let ok ← isTrue t c.env (eval t c.env); pure (ForInStep.yield ok) else pure (ForInStep.yield r)) m led Q
section
variable {c : Cx} {m : Loc} {led : Led} {Q : Bool → Loc → Led → Prop}
theorem ci_nil (q : Q true m led) : CI c [] m led Q := fun _ _ _ _ S => wpAny_tests_nil (Post.same S rfl q)
theorem ci_one {t : Expr} (h : TR c t m led Q) : CI c [t] m led Q := fun bg s Z B S => wpAny_tests_one (h bg s Z B S)
end
noncomputable def Ext (led led' : Led) : Prop := ∀ a ao, led a = some ao → led' a = some ao
noncomputable def cxC (c : Cx) (scope : Scope) (cl : List (Str × Addr)) (C : Addr) : Cx := { c with env := compEnvC scope cl C c.env }
structure Clo (c : Cx) (scope : Scope) (cl : List (Str × Addr)) (own : Option Str) (mc m : Loc) : Prop where
  clos : closureFor scope c.env = pure cl
  sub : ∀ x a, cl.lookup x = some a → c.env.cells.lookup x = some a
  cells : ∀ n, cellsFrom n scope.names cl = (own.map fun y => (y, n)).toList ++ cl
  push : ∀ h, pushCells h scope.names = (match own with | none => h | some _ => h.push { cls := .type "cell", data := .cell none })
  kind : scope.kind = .function
  names : ∀ x ∈ scope.names, x.2 = .local → scope.names.lookup x.1 = some .local
  fresh : ∀ y, own = some y → cl.lookup y = none
  loc : ∀ x v, mc.lookup x = some v → m.lookup x = some v ∧ (relabel scope c.env).names.lookup x = some .cell ∧ c.env.kindOf x = some .cell ∧ own ≠ some x
section
variable {c : Cx} {m mc : Loc} {led : Led} {pos : Pos} {scope : Scope} {cl : List (Str × Addr)} {own : Option Str} {bg : Bt} {Z : Zt} {s : Shared}
theorem comp_frame (K : Clo c scope cl own mc m) {Q : Env → Shared → Prop} (S : Sh c.env bg Z m led s.heap)
    (h : ∀ C cl' h', Sh (compEnvC scope cl' C c.env) (wide (compEnvC scope cl' C c.env) led h') Z mc led h' → Sh c.env bg Z m led h' → (∀ b o, s.heap.get? b = some o → h'.get? b = some o) → s.heap.get? C = none → (∃ mr, h'.Ns C mr) → s.heap.objs.size ≤ C →
      cl' = (own.map fun y => (y, C + 1)).toList ++ cl → Q { scope := scope, locals := C, globals := c.env.globals, cells := cl', qual := c.env.qual, func := none, code := c.env.code, frame := c.env.frame, builtins := c.env.builtins } { s with heap := h' }) :
    wpAny (model c.prog c.w) c.A (newFunctionEnv scope c.env.globals cl [] c.env.qual none .none (some c.env)) Q NoE s := by
  simp only [newFunctionEnv, Option.isSome_some, if_true]
  refine wpAny_bind (wpAny_alloc ?_)
  refine wpAny_bind (wpAny_layCells _ (fun name kind cells => by cases hkc : kind == NameKind.cell <;> simp [hkc]) _ _ _ _ ?_)
  dsimp only
  rw [List.forIn_nil]
  refine wpAny_bind (wpAny_pure (wpAny_pure ?_))
  rw [Heap.size_push, K.cells, K.push]
  have hC : s.heap.get? s.heap.objs.size = none := by
    cases q : s.heap.get? s.heap.objs.size with
    | none => rfl
    | some o => exact absurd (Heap.lt_size q) (Nat.lt_irrefl _)
  have k1 : ∀ b o, s.heap.get? b = some o → (s.heap.push { cls := .type "dict", data := .dict #[] }).get? b = some o := fun b o e => Heap.get?_push_of_some _ e
  have hN : (s.heap.push { cls := .type "dict", data := .dict #[] }).Ns s.heap.objs.size fun _ => none := Heap.Ns.new _ _
  have key : ∀ (H : Heap), (∀ b o, (s.heap.push { cls := .type "dict", data := .dict #[] }).get? b = some o → H.get? b = some o) → (∀ y, own = some y → H.IsCell (s.heap.objs.size + 1) none) →
      Q { scope := scope, locals := s.heap.objs.size, globals := c.env.globals, cells := (own.map fun y => (y, s.heap.objs.size + 1)).toList ++ cl, qual := c.env.qual, func := none, code := c.env.code, frame := c.env.frame, builtins := c.env.builtins } { s with heap := H } := by
    intro H k2 hown
    have k3 : ∀ b o, s.heap.get? b = some o → H.get? b = some o := fun b o e => k2 b o (k1 b o e)
    have S' := S.keep k3
    have look : ∀ x a, ((own.map fun y => (y, s.heap.objs.size + 1)).toList ++ cl).lookup x = some a → (own = some x ∧ a = s.heap.objs.size + 1) ∨ (own ≠ some x ∧ cl.lookup x = some a) := by
      intro x a e
      cases own with
      | none => exact .inr ⟨by simp, by simpa using e⟩
      | some y =>
        simp only [Option.map_some, Option.toList_some, List.singleton_append, List.lookup_cons] at e
        by_cases q : x = y
        · subst q; simp at e; exact .inl ⟨rfl, e.symm⟩
        · have : (x == y) = false := by simpa using q
          rw [this] at e
          exact .inr ⟨by simpa using Ne.symm q, e⟩
    have low : ∀ x a, cl.lookup x = some a → a < s.heap.objs.size := fun x a e => by
      obtain ⟨r, hc, _⟩ := S.cel x a (K.sub x a e)
      exact hc.lt
    refine h s.heap.objs.size _ H ?_ S' k3 hC ⟨_, hN.keeps k2⟩ (Nat.le_refl _) rfl
    refine {
      bgk := fun a o e => (wide_of e).1
      zk := S'.zk
      loc := ⟨_, hN.keeps k2, fun x v e l => ?_⟩
      cel := fun x a e => ?_
      lk := S'.lk
      dled := fun a ao e => ?_
      dloc := ?_
      dcel := fun x a e => ?_
      icel := fun x y a e f => ?_
      zc := S'.zc }
    · obtain ⟨_, l2, _⟩ := K.loc x v e
      have l' : (relabel scope c.env).names.lookup x = some .local := l
      rw [l2] at l'; cases l'
    · rcases look x a e with ⟨q, rfl⟩ | ⟨q, e'⟩
      · refine ⟨none, hown x q, fun v f l => ?_⟩
        obtain ⟨_, _, _, l4⟩ := K.loc x v f
        exact absurd q l4
      · obtain ⟨r, hc, hr⟩ := S'.cel x a (K.sub x a e')
        exact ⟨r, hc, fun v f l => hr v (K.loc x v f).1 (K.loc x v f).2.2.1⟩
    · obtain ⟨o, ho, _⟩ := S.lk a ao e
      have la := Heap.lt_size ho
      refine ⟨?_, (S.dled a ao e).2.1, Nat.ne_of_lt la, fun x q => ?_⟩
      · cases w : wide (compEnvC scope ((own.map fun y => (y, s.heap.objs.size + 1)).toList ++ cl) s.heap.objs.size c.env) led H a with
        | none => rfl
        | some o => rw [(wide_of w).2.1] at e; cases e
      · rcases look x a q with ⟨_, rfl⟩ | ⟨_, e'⟩
        · exact absurd la (Nat.not_lt.mpr (Nat.le_succ _))
        · exact (S.dled a ao e).2.2.2 x (K.sub x a e')
    · refine ⟨?_, S.zlt (Nat.le_refl _), fun x q => ?_⟩
      · cases w : wide (compEnvC scope ((own.map fun y => (y, s.heap.objs.size + 1)).toList ++ cl) s.heap.objs.size c.env) led H (compEnvC scope ((own.map fun y => (y, s.heap.objs.size + 1)).toList ++ cl) s.heap.objs.size c.env).locals with
        | none => rfl
        | some o => exact absurd rfl (wide_of w).2.2.1
      · rcases look x _ q with ⟨_, z⟩ | ⟨_, e'⟩
        · exact absurd z (Nat.ne_of_lt (Nat.lt_succ_self _))
        · exact absurd (low x _ e') (Nat.lt_irrefl _)
    · refine ⟨?_, ?_⟩
      · cases w : wide (compEnvC scope ((own.map fun y => (y, s.heap.objs.size + 1)).toList ++ cl) s.heap.objs.size c.env) led H a with
        | none => rfl
        | some o => exact absurd e ((wide_of w).2.2.2 x)
      · rcases look x a e with ⟨_, rfl⟩ | ⟨_, e'⟩
        · exact S.zlt (Nat.le_succ _)
        · exact (S.dcel x a (K.sub x a e')).2
    · rcases look x a e with ⟨q, rfl⟩ | ⟨q, e'⟩ <;> rcases look y _ f with ⟨q2, z⟩ | ⟨q2, f'⟩
      · rw [q] at q2; cases q2; rfl
      · exact absurd (low y _ f') (Nat.not_lt.mpr (Nat.le_succ _))
      · subst z; exact absurd (low x _ e') (Nat.not_lt.mpr (Nat.le_succ _))
      · exact S.icel x y a (K.sub x a e') (K.sub y a f')
  cases own with
  | none => exact key _ (fun _ _ e => e) (fun _ q => by cases q)
  | some y =>
    refine key _ (fun _ _ e => Heap.get?_push_of_some _ e) (fun _ _ => ?_)
    have := Heap.get?_push_size (s.heap.push { cls := .type "dict", data := .dict #[] }) (o := { cls := .type "cell", data := .cell none }) rfl
    rw [Heap.size_push] at this
    exact ⟨_, this, rfl⟩
end
theorem upd_upd (led : Led) (a : Addr) (x y : AO) : upd (upd led a x) a y = upd led a y := by
  funext b; unfold upd; split <;> rfl
theorem del_upd {led : Led} {a : Addr} {x : AO} (h : led a = none) : del (upd led a x) a = led := by
  funext b; unfold del upd
  split
  · rename_i q; subst q; exact h.symm
  · rfl
theorem ext_upd {led : Led} {a : Addr} {x : AO} (h : led a = none) : Ext led (upd led a x) := by
  intro b ao e
  unfold upd
  split
  · rename_i q; subst q; rw [h] at e; cases e
  · exact e
section
variable {c : Cx} {m mc : Loc} {led : Led} {pos : Pos} {scope : Scope} {cl : List (Str × Addr)} {own : Option Str} {bg : Bt} {Z : Zt} {s : Shared}
theorem Less.refl (m : Loc) : Less m m := fun _ _ e => e
theorem Less.cons {m' m : Loc} {x : Str} {v : V} (l : Less m' m) (h : m'.lookup x = none) : Less m' ((x, v) :: m) := fun y w e => by
  rw [List.lookup_cons]
  by_cases q : y = x
  · subst q; rw [h] at e; cases e
  · have : (y == x) = false := by simpa using q
    rw [this]; exact l y w e
theorem Sh.zNone {env : Env} {bg : Bt} {Z : Zt} {m : Loc} {led : Led} {h : Heap} (S : Sh env bg Z m led h) {a : Addr} {o : Obj} (ho : h.get? a = some o) (hd : (∀ xs n, o.data ≠ .seq xs n) ∧ ∀ vs, o.data ≠ .fields vs) : Z.ob a = none := by
  cases q : Z.ob a with
  | none => rfl
  | some o' =>
    have e9 := S.zk a o' q
    rw [ho] at e9; cases e9
    rcases S.zc a o q with ⟨xs, n, e, _⟩ | ⟨vs, e, _⟩
    · exact absurd e (hd.1 xs n)
    · exact absurd e (hd.2 vs)
noncomputable def Each (c : Cx) (target : Expr) (ifs : List Expr) (elt : Expr) (mc : Loc) (led : Led) (d : V) (r : Option V) : Prop :=
  AT c target d mc led fun m₂ led₂ => CI c ifs m₂ led₂ fun b m₃ led₃ => if b = true then EV c elt m₃ led₃ fun y m₄ led₄ => Less mc m₄ ∧ led₄ = led ∧ r = some y else Less mc m₃ ∧ led₃ = led ∧ r = none
inductive CompI (env : Env) (bg₀ : Bt) (s : Shared) (Z : Zt) (mc : Loc) (L : Nat → Led) (J : Nat → Zt → Heap → Prop) (len n : Nat) (s' : Shared) : Prop
  | mk (i : Nat) (Z' : Zt) (h' : Heap) (tk : Nat) : TokOk Z' tk → s' = { s with heap := h', toks := tk } → Zle Z Z' → Sh env bg₀ Z' mc (L i) h' → J i Z' h' → i ≤ len → n = len + 1 - i → CompI env bg₀ s Z mc L J len n s'
theorem comp_block {elt target iter : Expr} {ifs : List Expr} (K : Clo c scope cl own mc m) (full : ∀ x a v, cl.lookup x = some a → m.lookup x = some v → c.env.kindOf x = some .cell → mc.lookup x = some v) (hB₀ : Base c.K bg)
    {I : Addr} {items : List V} {ok : Led → Prop} {J : Nat → Zt → Heap → Prop} (IT : It c.prog c.w c.A I items ok J)
    (g : V → Option V) (hok : ok led) (hok' : ∀ led', Ext led led' → ok led') (hlen : items.length ≤ sizeLine)
    (each : ∀ C cl' (i : Nat) (d : V) led', items[i]? = some d → Ext led led' → cl' = (own.map fun y => (y, C + 1)).toList ++ cl → Each (cxC c scope cl' C) target ifs elt mc led' d (g d))
    (S : St c.env bg Z m led s) (hJ : J 0 Z s.heap) (hB : bg I = none) (hl : led I = none) (hL : I ≠ c.env.locals) (hC : ∀ x, c.env.cells.lookup x ≠ some I)
    {RR : Value → Addr → Result → Shared → Prop}
    (fin : ∀ D C Z' h' tk, TokOk Z' tk → Zle Z Z' → Sh c.env bg Z' m (upd led D (.list (items.filterMap g))) h' → led D = none → (∃ mr, h'.Ns C mr) → bg C = none → Z'.ob C = none → led C = none → C ≠ D → C ≠ c.env.locals → (∀ x, c.env.cells.lookup x ≠ some C) → RR (.ref D) C (.ok .next) { s with heap := h', toks := tk }) :
    wpAny (model c.prog c.w) c.A (newList []) (fun acc s₃ => wpAny (model c.prog c.w) c.A (newFunctionEnv scope c.env.globals cl [] c.env.qual none .none (some c.env)) (fun cenv s₄ =>
        codeAny (model c.prog c.w) c.A (.compStart (.ListComp elt [⟨target, iter, ifs, 0⟩] scope pos) 0 (.ref I) acc { cenv with scope := relabel scope c.env }) (RR acc cenv.locals) s₄) NoE s₃) NoE s := by
  have zI : ∀ {Z i h}, J i Z h → (∀ a o, Z.ob a = some o → h.get? a = some o) → (∀ a o, Z.ob a = some o → DataObj o) → Z.ob I = none := fun {Z i h} j zk zc => by
    cases q : Z.ob I with
    | none => rfl
    | some o =>
      obtain ⟨o', n, ho, hc, _, n1, n2, n3⟩ := IT.cls _ _ _ j
      rw [zk I o q] at ho
      cases ho
      rcases zc I o q with ⟨_, _, _, x | x⟩ | ⟨_, _, x⟩ <;> rw [hc] at x <;> cases x <;> contradiction
  have hZ : Z.ob I = none := zI hJ S.zk S.zc
  obtain ⟨oI, nI, hoI, hcI, hownI, n1, n2, n3⟩ := IT.cls _ _ _ hJ
  have hIlt := Heap.lt_size hoI
  refine wpAny_newObj_type ?_ (by size_fits)
  generalize hD : s.heap.objs.size = D at *
  have S₁ := S.allocL (o := { cls := .type "list", data := .seq ([] : List Value).toArray }) rfl (LR.ofList .nil)
  rw [hD] at S₁
  have hlD : led D = none := S.llt (Nat.le_of_eq hD)
  refine comp_frame K S₁ fun C cl' h' SC S₂ k₂ hCn hCns hCle hcl => ?_
  dsimp only at hCn hCle k₂
  rw [Heap.size_push, hD] at hCle
  have hDC : D < C := Nat.lt_of_lt_of_le (Nat.lt_succ_self _) hCle
  have hIC : I ≠ C := Nat.ne_of_lt (Nat.lt_trans hIlt hDC)
  have kk : ∀ b o, s.heap.get? b = some o → h'.get? b = some o := fun b o e => k₂ b o (Heap.get?_push_of_some _ e)
  have hJ' : J 0 Z h' := IT.frame _ _ _ _ _ hJ (Zle.refl _) fun o e => kk I o e
  have hDI : D ≠ I := Nat.ne_of_gt hIlt
  have hcell' : ∀ x a, cl'.lookup x = some a → (cl.lookup x = some a ∧ own ≠ some x) ∨ C < a := by
    intro x a e
    rw [hcl] at e
    cases own with
    | none => exact .inl ⟨by simpa using e, by simp⟩
    | some y =>
      simp only [Option.map_some, Option.toList_some, List.singleton_append, List.lookup_cons] at e
      by_cases q : x = y
      · subst q; simp at e; subst e; exact .inr (Nat.lt_succ_self _)
      · have : (x == y) = false := by simpa using q
        rw [this] at e
        exact .inl ⟨e, by simpa using Ne.symm q⟩
  have hIcell : ∀ x, cl'.lookup x ≠ some I := fun x q => by
    rcases hcell' x I q with z | z
    · exact hC x (K.sub x I z.1)
    · exact absurd (Nat.lt_trans (Nat.lt_trans hIlt hDC) z) (Nat.lt_irrefl _)
  have hLlt : c.env.locals < D := by obtain ⟨mr, hn, _⟩ := S.loc; exact hD ▸ hn.lt
  have hCL : C ≠ c.env.locals := Nat.ne_of_gt (Nat.lt_trans hLlt hDC)
  have hcl_lt : ∀ x a, c.env.cells.lookup x = some a → a < D := fun x a q => by obtain ⟨r, hc, _⟩ := S.cel x a q; exact hD ▸ hc.lt
  have hCcell : ∀ x, c.env.cells.lookup x ≠ some C := fun x q => absurd (Nat.lt_trans (hcl_lt x C q) hDC) (Nat.lt_irrefl _)
  have hCsz : s.heap.objs.size ≤ C := by rw [hD]; exact Nat.le_of_lt hDC
  have hCbg : bg C = none := S.blt hCsz
  have hCled : led C = none := S.llt hCsz
  have hcne : (cxC c scope cl' C).env.locals = C := rfl
  have hcce : (cxC c scope cl' C).env.cells = cl' := rfl
  let bg₀ : Bt := fun a => if a = I then none else wide (cxC c scope cl' C).env (upd led D (.list [])) h' a
  have b0 : ∀ {a o}, h'.get? a = some o → a ≠ I → led a = none → a ≠ D → a ≠ C → (∀ x, cl'.lookup x ≠ some a) → bg₀ a = some o := fun {a o} e n1 n2 n3 n4 n5 => by
    show (if a = I then none else _) = _
    rw [if_neg n1]
    exact wide_get e (by simp [upd, n3, n2]) n4 n5
  have bgle : Ble bg bg₀ := fun a o e => by
    have hgo := S.bgk a o e
    refine b0 (kk a o hgo) (fun q => by rw [q, hB] at e; cases e) ?_ ?_ ?_ ?_
    · cases w : led a with
      | none => rfl
      | some ao => rw [(S.dled a ao w).1] at e; cases e
    · exact hD ▸ Nat.ne_of_lt (Heap.lt_size hgo)
    · exact Nat.ne_of_lt (Nat.lt_trans (hD ▸ Heap.lt_size hgo) hDC)
    · intro x q
      rcases hcell' x a q with z | z
      · rw [(S.dcel x a (K.sub x a z.1)).1] at e; cases e
      · exact absurd (Nat.lt_trans (Nat.lt_trans (hD ▸ Heap.lt_size hgo) hDC) z) (Nat.lt_irrefl _)
  have B₀ : Base c.K bg₀ := hB₀.le bgle
  have SC₀ : Sh (cxC c scope cl' C).env bg₀ Z mc (upd led D (.list [])) h' := SC.narrow fun a o e => by
    have e : (if a = I then none else wide (cxC c scope cl' C).env (upd led D (.list [])) h' a) = some o := e
    split at e
    · cases e
    · exact e
  have b0I : bg₀ I = none := by show (if I = I then none else _) = _; rw [if_pos rfl]
  have lI : ∀ ao, upd led D ao I = none := fun ao => by simp [upd, Ne.symm hDI, hl]
  have extD : ∀ ao, Ext led (upd led D ao) := fun ao => ext_upd hlD
  have back : ∀ Z' h'' out, Zle Z Z' → Sh (cxC c scope cl' C).env bg₀ Z' mc (upd led D (.list out)) h'' → Sh c.env bg Z' m (upd led D (.list out)) h'' := by
    intro Z' h'' out zl SS
    obtain ⟨mr, hn, hr⟩ := S₂.loc
    obtain ⟨oL, esL, epL, hoL, hdL, hkL, hfL⟩ := id hn
    have hLkeep : h''.get? c.env.locals = some oL := by
      refine SS.bgk _ _ (b0 hoL (Ne.symm hL) ?_ (Nat.ne_of_lt hLlt) (Ne.symm hCL) fun x q => ?_)
      · cases w : led c.env.locals with
        | none => rfl
        | some ao => exact absurd rfl (S.dled _ ao w).2.2.1
      · rcases hcell' x _ q with z | z
        · exact S.dloc.2.2 x (K.sub x _ z.1)
        · exact absurd (Nat.lt_trans (Nat.lt_trans hLlt hDC) z) (Nat.lt_irrefl _)
    have celk : ∀ x a, c.env.cells.lookup x = some a → ∃ r, h''.IsCell a r ∧ ∀ v, m.lookup x = some v → c.env.kindOf x = some .cell → ∃ r', r = some r' ∧ R Z' r' v := by
      intro x a e
      obtain ⟨r, hc, hr⟩ := S₂.cel x a e
      by_cases q : ∃ y, cl'.lookup y = some a
      · obtain ⟨y, q⟩ := q
        rcases hcell' y a q with z | z
        · obtain rfl : y = x := S.icel y x a (K.sub y a z.1) e
          obtain ⟨r', hc', hr'⟩ := SS.cel y a q
          refine ⟨r', hc', fun v hv hk => ?_⟩
          have hv' := full y a v z.1 hv hk
          exact hr' v hv' (K.loc y v hv').2.1
        · exact absurd (Nat.lt_trans (Nat.lt_trans (hcl_lt x a e) hDC) z) (Nat.lt_irrefl _)
      · obtain ⟨o, ho, hd⟩ := hc
        refine ⟨r, ⟨o, SS.bgk _ _ (b0 ho (fun z => hC x (z ▸ e)) ?_ (Nat.ne_of_lt (hcl_lt x a e)) (Nat.ne_of_lt (Nat.lt_trans (hcl_lt x a e) hDC)) fun y z => q ⟨y, z⟩), hd⟩, fun v hv hk => ?_⟩
        · cases w : led a with
          | none => rfl
          | some ao => exact absurd e ((S.dled a ao w).2.2.2 x)
        · obtain ⟨r', e1, e2⟩ := hr v hv hk
          exact ⟨r', e1, e2.mono zl⟩
    exact {
      bgk := fun a o e => SS.bgk a o (bgle a o e)
      zk := SS.zk
      loc := ⟨mr, ⟨oL, esL, epL, hLkeep, hdL, hkL, hfL⟩, fun x v e k => let ⟨r, e1, e2⟩ := hr x v e k; ⟨r, e1, e2.mono zl⟩⟩
      cel := celk
      lk := SS.lk
      dled := fun a ao e => by
        obtain ⟨_, h2, _⟩ := SS.dled a ao e
        have e' : ∃ ao', upd led D (.list []) a = some ao' := by
          unfold upd at e ⊢
          split
          · exact ⟨_, rfl⟩
          · rename_i q; rw [if_neg q] at e; exact ⟨_, e⟩
        obtain ⟨ao', e'⟩ := e'
        obtain ⟨h1, _, h3⟩ := S₂.dled a ao' e'
        exact ⟨h1, h2, h3⟩
      dloc := ⟨S.dloc.1, SS.zNone hLkeep ⟨fun _ _ q => (by rw [hdL] at q; cases q), fun _ q => (by rw [hdL] at q; cases q)⟩, S.dloc.2.2⟩
      dcel := fun x a e => ⟨(S.dcel x a e).1, by
        obtain ⟨r, ⟨o, ho, hd⟩, _⟩ := celk x a e
        exact SS.zNone ho ⟨fun _ _ q => (by rw [hd] at q; cases q), fun _ q => (by rw [hd] at q; cases q)⟩⟩
      icel := S.icel
      zc := SS.zc }
  have loop : ∀ tk₀, TokOk Z tk₀ → codeAny (model c.prog c.w) c.A (.compLoop (.ListComp elt [⟨target, iter, ifs, 0⟩] scope pos) 0 (.ref I) (.ref D) (cxC c scope cl' C).env) (RR (.ref D) C) { s with heap := h', toks := tk₀ } := by
    intro tk₀ htk₀
    refine cloop (CompI (cxC c scope cl' C).env bg₀ s Z mc (fun i => upd led D (.list ((items.take i).filterMap g))) J items.length) ?_ (items.length + 1) ?_
    · rintro n s₃ ⟨i, Z', H, tk, htk, rfl, zl, SS, hJ₃, hi, rfl⟩
      by_cases hlt : i < items.length
      · have hd : items[i]? = some items[i] := List.getElem?_eq_getElem hlt
        refine wpAny_mono (wpAny_toks (IT.item i _ _ Z' _ htk hd SS.zk SS.lk (hok' _ (extD _)) hJ₃)) (fun r s₄ p => ?_) fun _ _ e => e.elim
        obtain ⟨⟨v, Z₄, rfl, e₄, zx, rv, hJ₄, k₄⟩, -⟩ := p
        have S₄ := ((SS.keepBut b0I (zI hJ₃ SS.zk SS.zc) (lI _) hIC hIcell k₄).zx zx htk).st (s' := s₄) rfl (zx.tk htk)
        have zl := zl.trans (zx.le htk)
        obtain ⟨oI, nI, hoI, hcI, hownI, _⟩ := IT.cls _ _ _ hJ₄
        refine letOwned_pure hoI hcI hownI ?_
        refine wpAny_mono (each C cl' i _ _ hd (extD _) hcl (wide (cxC c scope cl' C).env _ s₄.heap) s₄ Z₄ v (B₀.wide S₄) S₄.wide rv) (fun _ s₅ p => ?_) fun _ _ e => e.elim
        obtain ⟨_, m₅, led₅, Z₅, z₅, e₅, S₅, _, q₅⟩ := p
        refine wpAny_mono (q₅ _ s₅ Z₅ (B₀.wide S₄) S₅) (fun f s₆ p => ?_) fun _ _ e => e.elim
        obtain ⟨b, m₆, led₆, Z₆, z₆, e₆, S₆, rf, q₆⟩ := p
        cases rf
        have wI := wide_get (env := (cxC c scope cl' C).env) (led := upd led D (.list ((items.take i).filterMap g))) hoI (lI _) hIC hIcell
        have tk1 : items.take (i + 1) = items.take i ++ [items[i]] := by rw [List.take_add_one, hd]; rfl
        cases f with
        | false =>
          simp only [Bool.false_eq_true, if_false] at q₆ ⊢
          obtain ⟨ls, rfl, hg⟩ := q₆
          refine ⟨items.length + 1 - (i + 1), by omega, i + 1, Z₆, s₆.heap, s₆.toks, S₆.tk, by rw [e₆, e₅, e₄], zl.trans (z₅.trans z₆), ?_, IT.frame _ _ _ _ _ hJ₄ (z₅.trans z₆) (fun o e => ?_), hlt, rfl⟩
          · have e0 : (items.take (i + 1)).filterMap g = (items.take i).filterMap g := by rw [tk1, List.filterMap_append]; simp [hg]
            rw [e0]
            exact (S₆.toSh.less ls).narrow S₄.le_wide
          · rw [hoI] at e; cases e
            exact S₆.bgk _ _ wI
        | true =>
          simp only [if_true] at q₆ ⊢
          refine wpAny_mono (q₆ _ s₆ Z₆ (B₀.wide S₄) S₆) (fun y s₇ p => ?_) fun _ _ e => e.elim
          obtain ⟨yv, m₇, led₇, Z₇, z₇, e₇, S₇, ry, ls, rfl, hg⟩ := p
          obtain ⟨o, ho, vs, nn, rfl, rs⟩ := S₇.lk D (.list ((items.take i).filterMap g)) (by simp [upd])
          refine append_at ho (fun h₈ hs₈ ho₈ => ?_) ?_
          · have S₈ := S₇.change (a := D) (ao := .list ((items.take i).filterMap g)) (by simp [upd]) ho₈ hs₈ (ao' := .list ((items.take i).filterMap g ++ [yv])) (by rw [List.push_toArray]; exact LR.ofList (rs.append (.cons ry .nil)))
            rw [upd_upd] at S₈
            refine ⟨items.length + 1 - (i + 1), by omega, i + 1, Z₇, h₈, s₇.toks, S₇.tk, by rw [e₇, e₆, e₅, e₄], zl.trans (z₅.trans (z₆.trans z₇)), ?_, IT.frame _ _ _ _ _ hJ₄ (z₅.trans (z₆.trans z₇)) (fun o e => ?_), hlt, rfl⟩
            · have e0 : (items.take (i + 1)).filterMap g = (items.take i).filterMap g ++ [yv] := by rw [tk1, List.filterMap_append]; simp [hg]
              rw [e0]
              exact (S₈.less ls).narrow S₄.le_wide
            · rw [hoI] at e; cases e
              exact S₈.bgk _ _ wI
          · rw [List.size_toArray, rs.length]
            refine Nat.le_trans (List.length_filterMap_le _ _) (Nat.le_trans ?_ hlen)
            rw [List.length_take]; omega
      · have hlen' : i = items.length := Nat.le_antisymm hi (Nat.not_lt.mp hlt)
        subst hlen'
        rw [List.take_length] at SS
        refine wpAny_mono (wpAny_toks (IT.fin _ Z' _ SS.zk SS.lk (hok' _ (extD _)) hJ₃)) (fun r s₄ p => ?_) fun _ _ e => e.elim
        obtain ⟨⟨rfl, e₄, k₄⟩, tk₄⟩ := p
        have S₄ := SS.keepBut b0I (zI hJ₃ SS.zk SS.zc) (lI _) hIC hIcell k₄
        rw [e₄]
        obtain ⟨mrC, hnC, _⟩ := S₄.loc
        exact fin D C Z' s₄.heap s₄.toks (htk.mono tk₄) zl (back Z' s₄.heap _ zl S₄) hlD ⟨mrC, hnC⟩ hCbg S₄.dloc.2.1 hCled (Nat.ne_of_gt hDC) hCL hCcell
    · exact ⟨0, Z, h', tk₀, htk₀, rfl, Zle.refl _, by simpa using SC₀, hJ', Nat.zero_le _, rfl⟩
  exact codeAny_compStart_list (loop _ S.tk) (wpAny_mono (IT.self 0 Z _ hJ') (fun it s' e => by obtain ⟨rfl, rfl⟩ := e; exact loop _ S.tk) fun _ _ e => e.elim)
inductive CompOk (c : Cx) (scope : Scope) (cl : List (Str × Addr)) (target : Expr) (ifs : List Expr) (elt : Expr) (x : V) (m : Loc) (led : Led) (Q : V → Prop) : Prop
  | mk (items : List V) (ok : Led → Prop) (own : Option Str) (mc : Loc) (g : V → Option V) : Src c.prog c.w c.A x items ok → ok led → (∀ led', Ext led led' → ok led') → items.length ≤ sizeLine → Clo c scope cl own mc m →
    (∀ x a v, cl.lookup x = some a → m.lookup x = some v → c.env.kindOf x = some .cell → mc.lookup x = some v) →
    (∀ C cl' (i : Nat) (d : V) led', items[i]? = some d → Ext led led' → cl' = (own.map fun y => (y, C + 1)).toList ++ cl → Each (cxC c scope cl' C) target ifs elt mc led' d (g d)) →
    Q (.lst (items.filterMap g)) → CompOk c scope cl target ifs elt x m led Q
theorem comp_run {elt target iter : Expr} {ifs : List Expr} {Q : V → Loc → Led → Prop} {use : Option (Value → Sem Unit)} {P : Value → Shared → Prop} (hA : c.A.handled = none) (hclos : closureFor scope c.env = pure cl) (hkind : scope.kind = .function) (hnames : ∀ x ∈ scope.names, x.2 = .local → scope.names.lookup x.1 = some .local)
    (hs : ∀ x, foldedSetIterable iter c.env x = pure x) (S : St c.env bg Z m led s) (B : Base c.K bg)
    (h : EV c iter m led fun x m₁ led₁ => CompOk c scope cl target ifs elt x m₁ led₁ fun r => Q r m₁ led₁)
    (post : ∀ D C Z' m₁ led₁ l (s' : Shared), s' = { s with heap := s'.heap, toks := s'.toks } → Zle Z Z' → St c.env bg Z' m₁ (upd led₁ D (.list l)) s' → led₁ D = none → (∃ mr, s'.heap.Ns C mr) → bg C = none → Z'.ob C = none → led₁ C = none → C ≠ D → C ≠ c.env.locals → (∀ x, c.env.cells.lookup x ≠ some C) →
      Q (.lst l) m₁ led₁ → compPost (model c.prog c.w) c.A NoE use P (.ref D) C (.ok .next) s') :
    wpAny (model c.prog c.w) c.A (comprehension (.ListComp elt [⟨target, iter, ifs, 0⟩] scope pos) scope c.env (firstIterPos [⟨target, iter, ifs, 0⟩] pos) (newList []) false (eval iter c.env) use) P NoE s := by
  refine wpAny_comprehension_free rfl hs hclos hkind hnames ?_
  refine wpAny_mono (h bg s Z B S) (fun x s₁ p => ?_) fun _ _ e => e
  obtain ⟨xv, m₁, led₁, Z₁, z₁, e₁, S₁, r₁, items, ok, own, mc, g, src, hok, hok', hlen, K, full, each, q⟩ := p
  refine wpAny_mono (wpAny_toks (src s₁ Z₁ led₁ x S₁.zk S₁.lk hok r₁)) (fun it s₂ p => ?_) fun _ _ e => e
  obtain ⟨⟨I, J, rfl, IT, hJ, e₂, k₂, hI⟩, tk₂⟩ := p
  have hL : I ≠ c.env.locals := by obtain ⟨mr, hn, _⟩ := S₁.loc; exact Nat.ne_of_gt (Nat.lt_of_lt_of_le hn.lt hI)
  have hC : ∀ y, c.env.cells.lookup y ≠ some I := fun y q => by obtain ⟨r, hc, _⟩ := S₁.cel y I q; exact absurd (Nat.lt_of_lt_of_le hc.lt hI) (Nat.lt_irrefl _)
  refine comp_block K full B (IT c.A hA) g hok hok' hlen each ((S₁.keep k₂).st rfl (S₁.tk.mono tk₂)) hJ (S₁.blt hI) (S₁.llt hI) hL hC fun D C Z' h' tk htk zl S' hD hCn hCb hCz hCl hCD hCL hCc => ?_
  exact post D C Z' m₁ led₁ _ { s₂ with heap := h', toks := tk } (by dsimp only; rw [e₂, e₁]) (z₁.trans zl) ⟨S', htk⟩ hD hCn hCb hCz hCl hCD hCL hCc q
noncomputable abbrev EvcK (c : Cx) (scope : Scope) (cl : List (Str × Addr)) (target : Expr) (ifs : List Expr) (elt : Expr) (Q : V → Loc → Led → Prop) (xv : V) (m : Loc) (led : Led) : Prop := CompOk c scope cl target ifs elt xv m led fun r => Q r m led
theorem ev_comp {elt target iter : Expr} {ifs : List Expr} {Q : V → Loc → Led → Prop} (hA : c.A.handled = none) (hclos : closureFor scope c.env = pure cl) (hkind : scope.kind = .function) (hnames : ∀ x ∈ scope.names, x.2 = .local → scope.names.lookup x.1 = some .local)
    (h : EV c iter m led (EvcK c scope cl target ifs elt Q))
    (hs : ∀ x, foldedSetIterable iter c.env x = pure x) : EV c (.ListComp elt [⟨target, iter, ifs, 0⟩] scope pos) m led Q := by
  intro bg s Z B S
  rw [eval_ListComp]
  refine comp_run (use := none) hA hclos hkind hnames hs S B h fun D C Z' m₁ led₁ l s' e zl S' hD hCn hCb hCz hCl hCD hCL hCc q => ?_
  obtain ⟨mr, hn⟩ := hCn
  refine ⟨mr, hn, fun h'' hsb => ?_⟩
  have lC : upd led₁ D (.list l) C = none := by simp [upd, hCD, hCl]
  obtain ⟨Z'', zz, ztk, S'', r⟩ := (S'.keepBut hCb hCz lC hCL hCc hsb.extBut).freeze (a := D) (l := l) (by simp [upd])
  rw [del_upd hD] at S''
  exact ⟨_, m₁, led₁, Z'', zl.trans zz, by rw [e], ⟨S'', ztk _ S'.tk⟩, r, q⟩
noncomputable abbrev CasK (c : Cx) (scope : Scope) (cl : List (Str × Addr)) (target : Expr) (ifs : List Expr) (elt : Expr) (x : Str) (Q : FV → Loc → Led → Prop) (xv : V) (m : Loc) (led : Led) : Prop := CompOk c scope cl target ifs elt xv m led fun r => AN c x r m led (Q .next)
theorem ex_assign_comp {elt target iter : Expr} {x : Str} {p1 ipos : Pos} {ifs : List Expr} {Q : FV → Loc → Led → Prop} (hA : c.A.handled = none) (hclos : closureFor scope c.env = pure cl) (hkind : scope.kind = .function) (hnames : ∀ x ∈ scope.names, x.2 = .local → scope.names.lookup x.1 = some .local)
    (h : EV c iter m led (CasK c scope cl target ifs elt x Q))
    (hs : ∀ x, foldedSetIterable iter c.env x = pure x) (hw : swapsWith (.ListComp elt [⟨target, iter, ifs, 0⟩] scope ipos) (some (.Name x p1)) pos.line c.env = pure true) :
    EX c (.Assign [.Name x p1] (.ListComp elt [⟨target, iter, ifs, 0⟩] scope ipos) pos) m led Q := by
  intro bg s Z B S
  rw [exec_Assign_Name_used x p1 _ pos hw]
  refine wpAny_bind (wpAny_standAt ?_)
  show wpAny _ _ ((comprehension (.ListComp elt [⟨target, iter, ifs, 0⟩] scope ipos) scope c.env (firstIterPos [⟨target, iter, ifs, 0⟩] ipos) (newList []) false (eval iter c.env) (some (assign (.Name x p1) c.env)) >>= fun _ => pure ()) >>= fun _ => pure Flow.next) _ _ s
  refine wpAny_bind (wpAny_bind ?_)
  refine comp_run (use := some (assign (.Name x p1) c.env)) (Q := fun r m₁ led₁ => AN c x r m₁ led₁ (Q .next)) hA hclos hkind hnames hs S B h fun D C Z' m₁ led₁ l s' e zl S' hD hCn hCb hCz hCl hCD hCL hCc q => ?_
  obtain ⟨mr, hn⟩ := hCn
  have lC : upd led₁ D (.list l) C = none := by simp [upd, hCD, hCl]
  obtain ⟨Z'', zz, ztk, S'', r⟩ := S'.freeze (a := D) (l := l) (by simp [upd])
  rw [del_upd hD] at S''
  have S'' : St c.env bg Z'' m₁ led₁ s' := ⟨S'', ztk _ S'.tk⟩
  obtain ⟨oC, es, ep, hoC, hdC, hkC, hfC⟩ := id hn
  show wpAny _ _ (assign (.Name x p1) c.env (.ref D)) _ _ s'
  refine wpAny_mono (at_name (pos := p1) q (wide c.env led₁ s'.heap) s' Z'' (.ref D) (B.wide S'') S''.wide r) (fun _ s₃ p => ?_) fun _ _ e => e
  obtain ⟨_, m₃, led₃, Z₃, z₃, e₃, S₃, _, q₃⟩ := p
  have kC := S₃.bgk C oC (wide_get hoC hCl hCL hCc)
  refine ⟨mr, ⟨oC, es, ep, kC, hdC, hkC, hfC⟩, fun h'' hsb => wpAny_pure (wpAny_pure ?_)⟩
  have cz : Z₃.ob C = none := S₃.zNone kC ⟨fun _ _ q => (by rw [hdC] at q; cases q), fun _ q => (by rw [hdC] at q; cases q)⟩
  have cl3 : led₃ C = none := by
    cases w : led₃ C with
    | none => rfl
    | some ao => have := (S₃.dled C ao w).1; rw [wide_get hoC hCl hCL hCc] at this; cases this
  have N := S₃.narrow S''.le_wide
  exact ⟨.next, m₃, led₃, Z₃, zl.trans (zz.trans z₃), by dsimp only; rw [e₃, e], ⟨N.keepBut hCb cz cl3 hCL hCc hsb.extBut, N.tk⟩, .next, q₃⟩
end
section
variable {c : Cx} {mc : Loc} {led : Led}
noncomputable abbrev DoneK (mc : Loc) (led : Led) (r : Option V) (y : V) (m₄ : Loc) (led₄ : Led) : Prop := Less mc m₄ ∧ led₄ = led ∧ r = some y
noncomputable abbrev EltK (c : Cx) (elt : Expr) (mc : Loc) (led : Led) (r : Option V) (m₂ : Loc) (led₂ : Led) : Prop := EV c elt m₂ led₂ (DoneK mc led r)
theorem each_nil {target elt : Expr} {d : V} {r : Option V} (h : AT c target d mc led (EltK c elt mc led r)) : Each c target [] elt mc led d r := by
  intro bg s Z a B S ra
  refine wpAny_mono (h bg s Z a B S ra) (fun _ s' p => ?_) fun _ _ e => e
  obtain ⟨b, m', led', Z', z', e', S', r', q⟩ := p
  exact ⟨b, m', led', Z', z', e', S', r', ci_nil (by rw [if_pos rfl]; exact q)⟩
end
end Mine
end
section
open PySem PySem.W PySem.Calls PyProof.Rows
set_option Elab.async false
set_option maxRecDepth 100000
namespace Mine
structure OkA (A : Around) (n : Nat) : Prop where
  hh : A.handled = none
  hd : A.depth + n < 900
  hu : A.units + 100 * n < 5000
theorem OkA.room {A : Around} {n : Nat} (o : OkA A n) : A.depth < recursionLimit := by have := o.hd; unfold recursionLimit; omega
theorem OkA.le {A : Around} {n k : Nat} (o : OkA A n) (h : k ≤ n) : OkA A k := ⟨o.hh, by have := o.hd; omega, by have := o.hu; omega⟩
theorem OkA.deeper {A : Around} {n : Nat} (o : OkA A (n + 1)) (env : Env) : OkA (A.deeper env) n := ⟨o.hh, by have := o.hd; show A.depth + 1 + n < 900; omega, by have := o.hu; show A.units + 3 + 100 * n < 5000; omega⟩
theorem OkA.in1 {A : Around} {n : Nat} (o : OkA A (n + 1)) : OkA A.in1 n := ⟨o.hh, by have := o.hd; show A.depth + n < 900; omega, by have := o.hu; show A.units + 1 + 100 * n < 5000; omega⟩
inductive PostC (env : Env) (bg : Bt) (s : Shared) (Z : Zt) (m : Loc) (Q : V → Led → Prop) (v : Value) (s' : Shared) : Prop
  | mk (r : V) (led' : Led) (Z' : Zt) : Zle Z Z' → s' = { s with heap := s'.heap, toks := s'.toks } → St env bg Z' m led' s' → R Z' v r → Q r led' → PostC env bg s Z m Q v s'
inductive Ks (Z : Zt) : List (Str × Value) → List (Str × V) → Prop
  | nil : Ks Z [] []
  | cons {x : Str} {v : Value} {d : V} {ks : List (Str × Value)} {ds : List (Str × V)} : R Z v d → Ks Z ks ds → Ks Z ((x, v) :: ks) ((x, d) :: ds)
theorem Ks.mono {Z Z' : Zt} (h : Zle Z Z') {ks : List (Str × Value)} {ds : List (Str × V)} (k : Ks Z ks ds) : Ks Z' ks ds := by
  induction k with
  | nil => exact .nil
  | cons a _ ih => exact .cons (a.mono h) ih
noncomputable def RC (P : Value → Shared → Prop) (r : Result) (s' : Shared) : Prop := match r with
  | .ok (.ret v) => P v s'
  | .ok _ => False
  | .error e => NoE e s'
theorem RC.mono {P P' : Value → Shared → Prop} (h : ∀ v s, P v s → P' v s) : ∀ r s, RC P r s → RC P' r s
  | .ok (.ret v), s, p => h v s p
  | .ok .next, _, p => p
  | .ok .brk, _, p => p
  | .ok .cont, _, p => p
  | .error _, _, p => p
noncomputable def FS (prog : Program) (w : World) (K : Frag) (n : Nat) (f : Value) (args : List V) (kw : List (Str × V)) (led : Led) (Q : V → Led → Prop) : Prop :=
  ∀ (A : Around) (env : Env) bg (s : Shared) Z m as ks, OkA A n → Base K bg → St env bg Z m led s → Rs Z as args → Ks Z ks kw → codeAny (model prog w) A (.call f ⟨as, ks⟩) (RC (PostC env bg s Z m Q)) s
theorem FS.mono {prog : Program} {w : World} {K : Frag} {n : Nat} {f : Value} {args : List V} {kw : List (Str × V)} {led : Led} {Q Q' : V → Led → Prop} (h : FS prog w K n f args kw led Q) (k : ∀ r led, Q r led → Q' r led) : FS prog w K n f args kw led Q' :=
  fun A env bg s Z m as ks o B S ra rk => codeAny_mono (h A env bg s Z m as ks o B S ra rk) (RC.mono fun _ _ ⟨r, l, Z', a, b, c, d, q⟩ => ⟨r, l, Z', a, b, c, d, k _ _ q⟩)
theorem FS.up {prog : Program} {w : World} {K : Frag} {n k : Nat} {f : Value} {args : List V} {kw : List (Str × V)} {led : Led} {Q : V → Led → Prop} (h : FS prog w K n f args kw led Q) (le : n ≤ k) : FS prog w K k f args kw led Q :=
  fun A env bg s Z m as ks o => h A env bg s Z m as ks (o.le le)
section
variable {env env' : Env} {bg bg' : Bt} {Z Z' : Zt} {m m' : Loc} {led led' : Led} {h h' : Heap}
theorem Sh.back (S : Sh env bg Z m led h) (S' : Sh env' bg' Z' m' led' h') (k : ∀ a o, h.get? a = some o → led a = none → bg' a = some o) (zl : Zle Z Z') : Sh env bg Z' m led' h' := by
  obtain ⟨mr, hn, hr⟩ := S.loc
  obtain ⟨oL, es, ep, hoL, hdL, hkL, hfL⟩ := id hn
  have kL := S'.bgk _ _ (k _ _ hoL (by
    cases w : led env.locals with
    | none => rfl
    | some ao => exact absurd rfl (S.dled _ ao w).2.2.1))
  have celk : ∀ x a, env.cells.lookup x = some a → ∃ o r, h.get? a = some o ∧ o.data = .cell r ∧ bg' a = some o ∧ h'.get? a = some o := fun x a e => by
    obtain ⟨r, ⟨o, ho, hd⟩, _⟩ := S.cel x a e
    have := k a o ho (by
      cases w : led a with
      | none => rfl
      | some ao => exact absurd e ((S.dled a ao w).2.2.2 x))
    exact ⟨o, r, ho, hd, this, S'.bgk _ _ this⟩
  have bl : Ble bg bg' := fun a o e => k a o (S.bgk a o e) (by
    cases w : led a with
    | none => rfl
    | some ao => rw [(S.dled a ao w).1] at e; cases e)
  exact {
    bgk := fun a o e => S'.bgk a o (bl a o e)
    zk := S'.zk
    loc := ⟨mr, ⟨oL, es, ep, kL, hdL, hkL, hfL⟩, fun x v e l => let ⟨r, e1, e2⟩ := hr x v e l; ⟨r, e1, e2.mono zl⟩⟩
    cel := fun x a e => by
      obtain ⟨r, ⟨o, ho, hd⟩, hr⟩ := S.cel x a e
      obtain ⟨o', r', ho', hd', _, hk'⟩ := celk x a e
      rw [ho] at ho'; cases ho'
      exact ⟨r, ⟨o, hk', hd⟩, fun v e l => let ⟨r', e1, e2⟩ := hr v e l; ⟨r', e1, e2.mono zl⟩⟩
    lk := S'.lk
    dled := fun a ao e => by
      obtain ⟨h1, h2, _⟩ := S'.dled a ao e
      refine ⟨?_, h2, ?_, fun x q => ?_⟩
      · cases w : bg a with
        | none => rfl
        | some o => rw [bl a o w] at h1; cases h1
      · intro q
        rw [q] at h1
        rw [k _ _ hoL (by
          cases w : led env.locals with
          | none => rfl
          | some ao => exact absurd rfl (S.dled _ ao w).2.2.1)] at h1
        cases h1
      · obtain ⟨o, r, _, _, hb, _⟩ := celk x a q
        rw [hb] at h1; cases h1
    dloc := ⟨S.dloc.1, S'.zNone kL ⟨fun _ _ q => (by rw [hdL] at q; cases q), fun _ q => (by rw [hdL] at q; cases q)⟩, S.dloc.2.2⟩
    dcel := fun x a e => ⟨(S.dcel x a e).1, by
      obtain ⟨o, r, _, hd, _, hk⟩ := celk x a e
      exact S'.zNone hk ⟨fun _ _ q => (by rw [hd] at q; cases q), fun _ q => (by rw [hd] at q; cases q)⟩⟩
    icel := S.icel
    zc := S'.zc }
end
inductive Bs (Z : Zt) : List (Str × Value) → Loc → Prop
  | nil : Bs Z [] []
  | cons {x : Str} {v : Value} {d : V} {bs : List (Str × Value)} {m : Loc} : R Z v d → Bs Z bs m → Bs Z ((x, v) :: bs) ((x, d) :: m)
theorem Bs.names {Z : Zt} {bs : List (Str × Value)} {m : Loc} (h : Bs Z bs m) : bs.map (·.1) = m.map (·.1) := by
  induction h with
  | nil => rfl
  | cons _ _ ih => simp [ih]
theorem bindL_other {ko : Str → Option NameKind} {x : Str} : ∀ {bs : List (Str × Value)} {m : Str → Option Value}, x ∉ bs.map (·.1) → bindL ko bs m x = m x
  | [], _, _ => rfl
  | (n, v) :: r, m, h => by
    simp only [List.map_cons, List.mem_cons, not_or] at h
    unfold bindL
    rw [bindL_other h.2]
    split
    · simp [h.1]
    · rfl
theorem bindC_other {ko : Str → Option NameKind} {x : Str} : ∀ {bs : List (Str × Value)} {m : Str → Option Value}, x ∉ bs.map (·.1) → bindC ko bs m x = m x
  | [], _, _ => rfl
  | (n, v) :: r, m, h => by
    simp only [List.map_cons, List.mem_cons, not_or] at h
    unfold bindC
    rw [bindC_other h.2]
    split
    · rfl
    · simp [h.1]
theorem Bs.local {Z : Zt} {ko : Str → Option NameKind} {x : Str} {d : V} {bs : List (Str × Value)} {m : Loc} (h : Bs Z bs m) (hnd : (m.map (·.1)).Nodup) (e : m.lookup x = some d) (hl : ko x = some .local) : ∀ m₀, ∃ v, bindL ko bs m₀ x = some v ∧ R Z v d := by
  induction h with
  | nil => cases e
  | @cons y v d' bs m r hb ih =>
    intro m₀
    rw [List.lookup_cons] at e
    simp only [List.map_cons, List.nodup_cons] at hnd
    unfold bindL
    by_cases q : x = y
    · subst q
      simp at e; subst e
      rw [bindL_other (by rw [hb.names]; exact hnd.1), if_pos hl]
      exact ⟨v, by simp, r⟩
    · have : (x == y) = false := by simpa using q
      rw [this] at e
      exact ih hnd.2 e _
theorem Bs.cell {Z : Zt} {ko : Str → Option NameKind} {x : Str} {d : V} {bs : List (Str × Value)} {m : Loc} (h : Bs Z bs m) (hnd : (m.map (·.1)).Nodup) (e : m.lookup x = some d) (hl : ko x = some .cell) : ∀ m₀, ∃ v, bindC ko bs m₀ x = some v ∧ R Z v d := by
  induction h with
  | nil => cases e
  | @cons y v d' bs m r hb ih =>
    intro m₀
    rw [List.lookup_cons] at e
    simp only [List.map_cons, List.nodup_cons] at hnd
    unfold bindC
    by_cases q : x = y
    · subst q
      simp at e; subst e
      rw [bindC_other (by rw [hb.names]; exact hnd.1), if_neg (by rw [hl]; decide)]
      exact ⟨v, by simp, r⟩
    · have : (x == y) = false := by simpa using q
      rw [this] at e
      exact ih hnd.2 e _
noncomputable abbrev fenv (qual : Str) (scope : Scope) (cdv : Value) (f L : Addr) : Env := newEnv scope L mainGlobals (cellsFrom (L + 1) scope.names []) (qual ++ ".<locals>.") (some f) cdv none builtinsNs
noncomputable def RetQ (Q : V → Led → Prop) (f : FV) (_ : Loc) (led : Led) : Prop := match f with
  | .ret v => Q v led
  | .next => Q .none led
  | _ => False
section
variable {prog : Program} {w : World} {K : Frag} {n : Nat} {f : Addr} {args : List V} {kw : List (Str × V)} {led : Led} {Q : V → Led → Prop}
theorem fs_def {name qual : Str} {params : Arguments} {body : List Stmt} {scope : Scope} {dV kV doc pm cdv ct oc : Value} {an od : Option Addr} {osl : Array (Option Value)} {m₀ : Loc}
    (ho : K.lookup f = some ⟨oc, od, .func (fnOf name qual params body scope dV kV doc pm an cdv ct), osl⟩) (hcd : codeIn K cdv qual = true)
    (hbind : ∀ (s : Shared) Z as ks, K.In s.heap → Rs Z as args → Ks Z ks kw → ∃ binds, BindsTo s (fnOf name qual params body scope dV kV doc pm an cdv ct) ⟨as, ks⟩ binds ∧ Bs Z binds m₀)
    (hnd : (m₀.map (·.1)).Nodup) (hcells : ((cellsFrom 0 scope.names []).map (·.1)).Nodup)
    (hkind : ∀ L, ∀ x ∈ m₀, scope.names.lookup x.1 = some .local ∨ (scope.names.lookup x.1 = some .cell ∧ ((cellsFrom L scope.names []).lookup x.1).isSome = true))
    (hco : scope.isCoroutine = false) (hgen : scope.isGenerator = false) (hk : scope.kind = .function)
    (hbody : ∀ A L, OkA A n → XS ⟨prog, w, K, A, fenv qual scope cdv f L⟩ body m₀ led (RetQ Q)) : FS prog w K (n + 1) (.ref f) args kw led Q := by
  intro A env bg s Z m as ks oA B S ra rk
  have G := B.at S
  obtain ⟨binds, hbi, hbs⟩ := hbind s Z as ks G.X ra rk
  refine (codeAny_call_function oA.room (G.X _ _ ho) rfl hco hgen rfl (codeRec_of G.X hcd) (hbi _ _ _ _ ?_))
  refine wpAny_mono (wpAny_toks (wpAny_newFunctionEnv_cells (Q := fun env s' => env = newEnv scope s.heap.objs.size mainGlobals (cellsFrom (s.heap.objs.size + 1) scope.names []) (qual ++ ".<locals>.") (some f) cdv none builtinsNs ∧ InCallC s env.locals (bindL env.kindOf binds fun _ => none) env.cells (bindC env.kindOf binds fun _ => none) s') hk (fun x hx => ?_) fun env' he s' x => ⟨he, x⟩)) (fun env' s' p => ?_) fun _ _ e => e
  · have : x.1 ∈ m₀.map (·.1) := hbs.names ▸ List.mem_map_of_mem hx
    obtain ⟨y, hy, e⟩ := List.mem_map.mp this
    have := hkind (s.heap.objs.size + 1) y hy
    rwa [e] at this
  · obtain ⟨⟨he, x⟩, tk₁⟩ := p
    subst he
    refine ⟨G.lim.keeps x.toInCall.keep, codeAny_func ?_⟩
    obtain ⟨h₁, tk, e₁, _⟩ := x.done
    have kk := x.toInCall.keep
    let bgC : Bt := fun a => if (led a).isSome = true then none else s.heap.get? a
    have bgC_of : ∀ {a o}, bgC a = some o → s.heap.get? a = some o ∧ led a = none := fun {a o} e => by
      have e : (if (led a).isSome = true then none else s.heap.get? a) = some o := e
      split at e
      · cases e
      · rename_i q
        refine ⟨e, ?_⟩
        cases w : led a with
        | none => rfl
        | some ao => rw [w] at q; exact absurd rfl q
    have bgC_get : ∀ a o, s.heap.get? a = some o → led a = none → bgC a = some o := fun a o e l => by
      show (if (led a).isSome = true then none else _) = _
      rw [l]; exact e
    have hL : ∀ {a o}, s.heap.get? a = some o → a ≠ s.heap.objs.size := fun e => Nat.ne_of_lt (Heap.lt_size e)
    have names : (newEnv scope s.heap.objs.size mainGlobals (cellsFrom (s.heap.objs.size + 1) scope.names []) (qual ++ ".<locals>.") (some f) cdv none builtinsNs) = fenv qual scope cdv f s.heap.objs.size := rfl
    have hndC : ((cellsFrom (s.heap.objs.size + 1) scope.names []).map (·.1)).Nodup := cellsFrom_names scope.names 0 (s.heap.objs.size + 1) [] [] rfl ▸ hcells
    have cellAt : ∀ y a, (fenv qual scope cdv f s.heap.objs.size).cells.lookup y = some a → s'.heap.IsCell a (bindC (fenv qual scope cdv f s.heap.objs.size).kindOf binds (fun _ => none) y) ∧ s.heap.objs.size < a := fun y a e =>
      ⟨x.cell y a e, x.above y a (mem_of_lookup e)⟩
    have SC₀ : Sh (fenv qual scope cdv f s.heap.objs.size) bgC Z m₀ led s'.heap := {
      bgk := fun a o e => kk a o (bgC_of e).1
      zk := fun a o e => kk a o (S.zk a o e)
      loc := ⟨_, x.toInCall.ns, fun y v e l => hbs.local hnd e l _⟩
      cel := fun y a e => ⟨_, (cellAt y a e).1, fun v ev l => hbs.cell hnd ev l _⟩
      lk := fun a ao e => let ⟨o, h1, h2⟩ := S.lk a ao e; ⟨o, kk a o h1, h2⟩
      dled := fun a ao e => by
        obtain ⟨o, h1, _⟩ := S.lk a ao e
        refine ⟨?_, (S.dled a ao e).2.1, hL h1, fun y q => ?_⟩
        · show (if (led a).isSome = true then none else _) = _
          rw [e]; rfl
        · exact absurd (Nat.lt_trans (cellAt y a q).2 (Heap.lt_size h1)) (Nat.lt_irrefl _)
      dloc := by
        refine ⟨?_, S.zlt (Nat.le_refl _), fun y q => absurd (cellAt y _ q).2 (Nat.lt_irrefl _)⟩
        cases w : bgC (fenv qual scope cdv f s.heap.objs.size).locals with
        | none => rfl
        | some o => exact absurd rfl (hL (bgC_of w).1)
      dcel := fun y a e => by
        refine ⟨?_, S.zlt (Nat.le_of_lt (cellAt y a e).2)⟩
        cases w : bgC a with
        | none => rfl
        | some o => exact absurd (Nat.lt_trans (cellAt y a e).2 (Heap.lt_size (bgC_of w).1)) (Nat.lt_irrefl _)
      icel := fun y z a e1 e2 => name_of_addr x.apart (mem_of_lookup e1) (mem_of_lookup e2)
      zc := S.zc }
    have SC : St (fenv qual scope cdv f s.heap.objs.size) bgC Z m₀ led s' := ⟨SC₀, S.tk.mono tk₁⟩
    have BC : Base K bgC := let ⟨h₀, G₀, e⟩ := B; ⟨h₀, G₀, fun a o q => bgC_get a o (S.bgk a o (e a o q)) (by
      cases w : led a with
      | none => rfl
      | some ao => have := (S.dled a ao w).1; rw [e a o q] at this; cases this)⟩
    refine wpAny_mono (hbody _ s.heap.objs.size (oA.deeper _) bgC s' Z BC SC) (fun fl s₂ p => ?_) fun _ _ e => e.elim
    obtain ⟨fv, m₂, led₂, Z₂, z₂, e₂, S₂, rf, q⟩ := p
    have out : ∀ {v r}, R Z₂ v r → Q r led₂ → PostC env bg s Z m Q v s₂ := fun {v r} rv qv => ⟨r, led₂, Z₂, z₂, by rw [e₂, e₁], ⟨S.back S₂.toSh bgC_get z₂, S₂.tk⟩, rv, qv⟩
    cases rf with
    | next => exact out .none q
    | brk => exact q.elim
    | cont => exact q.elim
    | ret rv => exact out rv q
end
section
variable {K : Frag} {fd : FuncData} {x y z : V} {k1 k2 k3 : Str}
theorem fb_1 (h : ∀ a, bindArgs fd ⟨[a], []⟩ = pure [(k1, a)]) : ∀ (s : Shared) Z as ks, K.In s.heap → Rs Z as [x] → Ks Z ks [] → ∃ binds, BindsTo s fd ⟨as, ks⟩ binds ∧ Bs Z binds [(k1, x)] := fun s Z as ks X ra rk => by
  cases rk; cases ra.one with | mk a r => exact ⟨_, .of_eq (h _), .cons r .nil⟩
theorem fb_2 (h : ∀ a b, bindArgs fd ⟨[a, b], []⟩ = pure [(k1, a), (k2, b)]) : ∀ (s : Shared) Z as ks, K.In s.heap → Rs Z as [x, y] → Ks Z ks [] → ∃ binds, BindsTo s fd ⟨as, ks⟩ binds ∧ Bs Z binds [(k1, x), (k2, y)] := fun s Z as ks X ra rk => by
  cases rk; cases ra.two with | mk a b r1 r2 => exact ⟨_, .of_eq (h _ _), .cons r1 (.cons r2 .nil)⟩
theorem fb_3 (h : ∀ a b c, bindArgs fd ⟨[a, b, c], []⟩ = pure [(k1, a), (k2, b), (k3, c)]) : ∀ (s : Shared) Z as ks, K.In s.heap → Rs Z as [x, y, z] → Ks Z ks [] → ∃ binds, BindsTo s fd ⟨as, ks⟩ binds ∧ Bs Z binds [(k1, x), (k2, y), (k3, z)] := fun s Z as ks X ra rk => by
  cases rk; cases ra.three with | mk a b c r1 r2 r3 => exact ⟨_, .of_eq (h _ _ _), .cons r1 (.cons r2 (.cons r3 .nil))⟩
noncomputable def nodupB : List Str → Bool
  | [] => true
  | a :: l => !l.contains a && nodupB l
theorem nd_of : ∀ {l : List Str}, nodupB l = true → l.Nodup
  | [], _ => .nil
  | a :: l, h => by
    have h := Bool.and_eq_true_iff.mp h
    exact List.nodup_cons.mpr (And.intro (fun m => by have h1 := h.1; rw [List.contains_iff_mem.mpr m] at h1; exact Bool.noConfusion h1) (nd_of h.2))
noncomputable def kinB (sc : Scope) (L : Addr) (m : Loc) : Bool := m.all fun x => match sc.names.lookup x.1 with
  | some .local => true
  | some .cell => ((cellsFrom L sc.names []).lookup x.1).isSome
  | _ => false
theorem kin_of {sc : Scope} {m : Loc} (h : ∀ L, kinB sc L m = true) : ∀ L, ∀ x ∈ m, sc.names.lookup x.1 = some .local ∨ (sc.names.lookup x.1 = some .cell ∧ ((cellsFrom L sc.names []).lookup x.1).isSome = true) := fun L x hx => by
  have := List.all_eq_true.mp (h L) x hx
  split at this
  · rename_i e; exact .inl e
  · rename_i e; exact .inr ⟨e, this⟩
  · cases this
end
end Mine
end
section
open PySem PySem.W PySem.Calls PyProof.Rows
set_option Elab.async false
set_option maxRecDepth 100000
namespace Mine
noncomputable def Keep (K : Frag) (f : Value) : Prop := ∀ (M : Model) h, K.In h → ∃ k, (k = Keeper.frame ∨ k = Keeper.machine ∨ k = Keeper.boundFrame) ∧ Looks M h (keeperOf f) k
theorem keep_K {K : Frag} {f : Value} (h : keepIn K f = true) : Keep K f := fun _ h' X => keeps_K h h' X
theorem keep_builtin {K : Frag} {id : String} : Keep K (.builtin id) := fun _ _ _ => ⟨.machine, .inr (.inl rfl), Looks.of_pure rfl⟩
theorem keep_type {K : Frag} {T : String} : Keep K (.type T) := fun _ _ _ => ⟨.machine, .inr (.inl rfl), Looks.of_pure rfl⟩
section
variable {c : Cx} {m : Loc} {led : Led} {Q : V → Loc → Led → Prop} {pos : Pos} {f : Value}
inductive PostA (c : Cx) (bg : Bt) (s : Shared) (Z : Zt) (Q : List V → List (Str × V) → Loc → Led → Prop) (a : Args) (s' : Shared) : Prop
  | mk (vs : List V) (ks : List (Str × V)) (m' : Loc) (led' : Led) (Z' : Zt) : Zle Z Z' → s' = { s with heap := s'.heap, toks := s'.toks } → St c.env bg Z' m' led' s' → Rs Z' a.pos vs → Ks Z' a.kw ks → Q vs ks m' led' → PostA c bg s Z Q a s'
noncomputable def AAr (c : Cx) (pos : Pos) (f : Value) (args : List Expr) (kws : List Keyword) (m : Loc) (led : Led) (Q : List V → List (Str × V) → Loc → Led → Prop) : Prop :=
  ∀ bg s Z, Base c.K bg → St c.env bg Z m led s → wpAny (model c.prog c.w) c.A (evalArgs f true (backTo pos (starEach args c.env)) (backToKw pos (keywordEach kws c.env)))
    (PostA c bg s Z Q) NoE s
noncomputable abbrev ArgK (Q : List V → List (Str × V) → Loc → Led → Prop) (vs : List V) : Loc → Led → Prop := Q vs []
noncomputable abbrev KwR (x : Str) (Q : List V → List (Str × V) → Loc → Led → Prop) (vs : List V) (v : V) : Loc → Led → Prop := Q vs [(x, v)]
noncomputable abbrev KwK (c : Cx) (e1 : Expr) (x : Str) (Q : List V → List (Str × V) → Loc → Led → Prop) (vs : List V) (m : Loc) (led : Led) : Prop := EV c e1 m led (KwR x Q vs)
theorem aar_nil {Q : List V → List (Str × V) → Loc → Led → Prop} (q : Q [] [] m led) : AAr c pos f [] [] m led Q := fun bg s Z B S =>
  evalArgs_nil3 ⟨[], [], m, led, Z, Zle.refl _, rfl, S, .nil, .nil, q⟩
theorem aar_pos {e : Expr} {es : List Expr} {Q : List V → List (Str × V) → Loc → Led → Prop} (h : AWs c pos (e :: es) m led (ArgK Q)) (he : starEach (e :: es) c.env = (false, eval e c.env) :: starEach es c.env) : AAr c pos f (e :: es) [] m led Q := by
  intro bg s Z B S
  have h := h bg s Z B S
  rw [he] at h ⊢
  refine evalArgs_plain (wpAny_mono h (fun vs s' p => ?_) fun _ _ e => e)
  obtain ⟨b, m', led', Z', z', e', S', r, q⟩ := p
  exact ⟨b, [], m', led', Z', z', e', S', r, .nil, q⟩
theorem aar_kw1 {e e1 : Expr} {es : List Expr} {x : Str} {p1 : Pos} {Q : List V → List (Str × V) → Loc → Led → Prop} (h : AWs c pos (e :: es) m led (KwK c e1 x Q))
    (he : starEach (e :: es) c.env = (false, eval e c.env) :: starEach es c.env) : AAr c pos f (e :: es) [⟨some x, e1, p1⟩] m led Q := by
  intro bg s Z B S
  have h := h bg s Z B S
  rw [he] at h ⊢
  refine evalArgs_kw rfl (wpAny_mono h (fun vs s' p => ?_) fun _ _ e => e)
  obtain ⟨b, m', led', Z', z', e', S', r, q⟩ := p
  show wpAny _ _ (evalAll [do let v ← eval e1 c.env; standAt pos; pure v]) _ _ s'
  refine wpAny_evalAll_cons (wpAny_bind (wpAny_mono (q bg s' Z' B S') (fun v s₂ p => ?_) fun _ _ e => e))
  obtain ⟨b₂, m₂, led₂, Z₂, z₂, e₂, S₂, r₂, q₂⟩ := p
  exact wpAny_bind (wpAny_standAt (wpAny_pure (wpAny_evalAll_nil ⟨b, [(x, b₂)], m₂, led₂, Z₂, z'.trans z₂, by rw [e₂, e'], S₂, r.mono z₂, .cons r₂ .nil, q₂⟩)))
noncomputable def CA (c : Cx) (f : Value) (vs : List V) (ks : List (Str × V)) (m : Loc) (led : Led) (Q : V → Loc → Led → Prop) : Prop :=
  ∀ bg s Z as kv, Base c.K bg → St c.env bg Z m led s → Rs Z as vs → Ks Z kv ks → wpAny (model c.prog c.w) c.A (call f as kv) (Post c bg R s Z Q) NoE s
theorem ca_1 {x : V} (h : ∀ bg s Z a, Base c.K bg → St c.env bg Z m led s → R Z a x → wpAny (model c.prog c.w) c.A (call f [a] []) (Post c bg R s Z Q) NoE s) : CA c f [x] [] m led Q := fun bg s Z as kv B S ra rk => by
  cases rk; cases ra.one with | mk a r => exact h bg s Z _ B S r
theorem ca_2 {x y : V} (h : ∀ bg s Z a b, Base c.K bg → St c.env bg Z m led s → R Z a x → R Z b y → wpAny (model c.prog c.w) c.A (call f [a, b] []) (Post c bg R s Z Q) NoE s) : CA c f [x, y] [] m led Q := fun bg s Z as kv B S ra rk => by
  cases rk; cases ra.two with | mk a b r1 r2 => exact h bg s Z _ _ B S r1 r2
theorem ca_3 {x y z : V} (h : ∀ bg s Z a b d, Base c.K bg → St c.env bg Z m led s → R Z a x → R Z b y → R Z d z → wpAny (model c.prog c.w) c.A (call f [a, b, d] []) (Post c bg R s Z Q) NoE s) : CA c f [x, y, z] [] m led Q := fun bg s Z as kv B S ra rk => by
  cases rk; cases ra.three with | mk a b d r1 r2 r3 => exact h bg s Z _ _ _ B S r1 r2 r3
noncomputable abbrev OutK (Q : V → Loc → Led → Prop) (m : Loc) (r : V) (led : Led) : Prop := Q r m led
noncomputable abbrev CallK (c : Cx) (f : Value) (Q : V → Loc → Led → Prop) (vs : List V) (ks : List (Str × V)) (m : Loc) (led : Led) : Prop := CA c f vs ks m led Q
noncomputable abbrev MethK (c : Cx) (f : Value) (x : V) (Q : V → Loc → Led → Prop) (vs : List V) (ks : List (Str × V)) (m : Loc) (led : Led) : Prop := CA c f (x :: vs) ks m led Q
theorem ca_of {n : Nat} {vs : List V} {ks : List (Str × V)} (h : FS c.prog c.w c.K n f vs ks led (OutK Q m)) (o : OkA c.A n) : CA c f vs ks m led Q := by
  intro bg s Z as kv B S r k
  exact wpAny_call (codeAny_mono (h c.A c.env bg s Z m as kv o B S r k) (RC.mono fun v s' ⟨r, led', Z', z', e', S', rv, q⟩ => ⟨r, m, led', Z', z', e', S', rv, q⟩))
theorem callWith_ {first : List Value} {args : List Expr} {kws : List Keyword} {P : Value → Shared → Prop} {s : Shared} (K : Keep c.K f) (hplain : ((backTo pos (starEach args c.env)).any (·.1) || (backToKw pos (keywordEach kws c.env)).any (·.1.isNone)) = false)
    (h : wpAny (model c.prog c.w) c.A (evalArgs f true (backTo pos (starEach args c.env)) (backToKw pos (keywordEach kws c.env))) (fun a s₁ => c.K.In s₁.heap ∧ wpAny (model c.prog c.w) c.A (call f (first ++ a.pos) a.kw) P NoE s₁) NoE s) :
    wpAny (model c.prog c.w) c.A (callWith pos f first (backTo pos (starEach args c.env)) (backToKw pos (keywordEach kws c.env))) P NoE s :=
  callWith_of (P := c.K.In) hplain (fun h X => K _ h X) h
inductive CallOk (c : Cx) (pos : Pos) (args : List Expr) (kws : List Keyword) (Q : V → Loc → Led → Prop) (fv : V) (m₁ : Loc) (led₁ : Led) : Prop
  | mk (f : Value) : fv = .obj f → Keep c.K f → AAr c pos f args kws m₁ led₁ (CallK c f Q) → CallOk c pos args kws Q fv m₁ led₁
theorem ev_call {func : Expr} {args : List Expr} {kws : List Keyword} (h : EV c func m led (CallOk c pos args kws Q))
    (he : eval (.Call func args kws pos) c.env = (do callWith pos (← eval func c.env) [] (backTo pos (starEach args c.env)) (backToKw pos (keywordEach kws c.env))))
    (hplain : ((backTo pos (starEach args c.env)).any (·.1) || (backToKw pos (keywordEach kws c.env)).any (·.1.isNone)) = false) : EV c (.Call func args kws pos) m led Q := by
  intro bg s Z B S
  rw [he]
  refine wpAny_bind (wpAny_mono (h bg s Z B S) (fun fv s₁ p => ?_) fun _ _ e => e)
  obtain ⟨_, m', led', Z', z', e', S', r, f, rfl, K, q⟩ := p
  cases r
  refine callWith_ K hplain (wpAny_mono (q bg s₁ Z' B S') (fun a s₂ p => ?_) fun _ _ e => e)
  obtain ⟨vs, ks, m₂, led₂, Z₂, z₂, e₂, S₂, r₂, k₂, q₂⟩ := p
  exact ⟨(B.at S₂).X, wpAny_mono (q₂ bg s₂ Z₂ _ _ B S₂ (by simpa using r₂) k₂) (fun _ _ p => (p.up z₂ e₂).up z' e') fun _ _ e => e⟩
noncomputable def GM (c : Cx) (x : V) (name : Str) (led : Led) (f : Value) : Prop :=
  ∀ (pl : Sem Bool) bg m (s : Shared) Z a, Base c.K bg → St c.env bg Z m led s → R Z a x → wpAny (model c.prog c.w) c.A (getMethod a name pl) (fun fx s' => fx = (f, [a]) ∧ s' = s) NoE s
inductive MethOk (c : Cx) (pos : Pos) (name : Str) (args : List Expr) (kws : List Keyword) (Q : V → Loc → Led → Prop) (x : V) (m₁ : Loc) (led₁ : Led) : Prop
  | mk (f : Value) : GM c x name led₁ f → Keep c.K f → AAr c pos f args kws m₁ led₁ (MethK c f x Q) → MethOk c pos name args kws Q x m₁ led₁
theorem ev_meth {o : Expr} {name : Str} {apos : Pos} {args : List Expr} {kws : List Keyword} {pl : Sem Bool} (h : EV c o m led (MethOk c pos name args kws Q))
    (he : eval (.Call (.Attribute o name apos) args kws pos) c.env = (do
      let ov ← eval o c.env
      standAt apos.atName
      let (f, first) ← holding [ov] (getMethod ov name pl)
      callWith pos f first (backTo pos (starEach args c.env)) (backToKw pos (keywordEach kws c.env))))
    (hplain : ((backTo pos (starEach args c.env)).any (·.1) || (backToKw pos (keywordEach kws c.env)).any (·.1.isNone)) = false) : EV c (.Call (.Attribute o name apos) args kws pos) m led Q := by
  intro bg s Z B S
  refine methodCall_KW (pl := pl) (wpAny_mono (h bg s Z B S) (fun ov s₁ p => ?_) fun _ _ e => e) he
  obtain ⟨x, m', led', Z', z', e', S', r, f, g, K, q⟩ := p
  refine wpAny_mono (g pl bg m' s₁ Z' ov B S' r) (fun fx s₂ p => ?_) fun _ _ e => e
  obtain ⟨rfl, rfl⟩ := p
  refine callWith_ K hplain (wpAny_mono (q bg s₂ Z' B S') (fun a s₃ p => ?_) fun _ _ e => e)
  obtain ⟨vs, ks, m₂, led₂, Z₂, z₂, e₂, S₂, r₂, k₂, q₂⟩ := p
  exact ⟨(B.at S₂).X, wpAny_mono (q₂ bg s₃ Z₂ _ _ B S₂ (.cons (r.mono z₂) r₂) k₂) (fun _ _ p => (p.up z₂ e₂).up z' e') fun _ _ e => e⟩
theorem Es.keys {Z : Zt} {es : List DictEntry} {l : List (Str × V)} (h : Es Z es l) (name : Str) : (l.lookup name = none → getL name es = some none) ∧ ∀ d, l.lookup name = some d → ∃ v, getL name es = some (some v) ∧ R Z v d := by
  have fnd : ∀ {es l}, Es Z es l → (l.lookup name = none → es.find? (·.key.isStr name) = none ∧ es.any (·.refKey) = false) ∧ ∀ d, l.lookup name = some d → ∃ e, es.find? (·.key.isStr name) = some e ∧ R Z e.val d := by
    intro es l h
    induction h with
    | nil => exact ⟨fun _ => ⟨rfl, rfl⟩, fun _ e => by cases e⟩
    | @cons hs k t v d es ds r _ ih =>
      by_cases q : name = k
      · subst q
        refine ⟨fun e => by simp at e, fun d' e => ?_⟩
        simp at e; subst e
        exact ⟨⟨hs, .str name t, v⟩, by simp [Value.isStr], r⟩
      · have q1 : (name == k) = false := by simpa using q
        have q2 : (k == name) = false := by simpa using Ne.symm q
        refine ⟨fun e => ?_, fun d' e => ?_⟩
        · rw [List.lookup_cons, q1] at e
          obtain ⟨a, b⟩ := ih.1 e
          refine ⟨by simp only [List.find?_cons, Value.isStr, q2]; exact a, ?_⟩
          simp only [List.any_cons, b, Bool.or_false]
          rfl
        · rw [List.lookup_cons, q1] at e
          obtain ⟨en, a, b⟩ := ih.2 d' e
          exact ⟨en, by simp only [List.find?_cons, Value.isStr, q2]; exact a, b⟩
  obtain ⟨h1, h2⟩ := fnd h
  refine ⟨fun e => ?_, fun d e => ?_⟩
  · obtain ⟨a, b⟩ := h1 e
    simp [getL, a, b]
  · obtain ⟨en, a, b⟩ := h2 d e
    exact ⟨en.val, by simp [getL, a], b⟩
theorem inst_at {Z : Zt} {m : Loc} {env : Env} {bg : Bt} {h : Heap} (S : Sh env bg Z m led h) {x C dx : Addr} {l : List (Str × V)} (hx : led x = some (.inst C dx)) (hd : led dx = some (.dict l)) :
    ∃ es n, InstAt h x (instObj C dx) C (some (dictOf es n)) ∧ Es Z es l ∧ h.get? dx = some (dictOf es n) := by
  obtain ⟨o, ho, rfl⟩ := S.lk x _ hx
  obtain ⟨o, ho', es, n, rfl, re⟩ := S.lk dx _ hd
  exact ⟨es, n, ⟨ho, rfl, rfl, ho'⟩, re, ho'⟩
theorem gm_inst {x C dx : Addr} {l : List (Str × V)} {name : Str} {g : Addr} (hx : led x = some (.inst C dx)) (hd : led dx = some (.dict l)) (hn : l.lookup name = none)
    (hga : findIn c.K (.ref C) "__getattribute__" = some (some (.builtin "object.__getattribute__"))) (hk : findIn c.K (.ref C) "__getattr__" = some none)
    (hf : findIn c.K (.ref C) name = some (some (.ref g))) (ht : typeIn c.K (.ref g) = some (.type "function")) : GM c (.own x) name led (.ref g) := by
  intro pl bg m s Z a B S r
  cases r
  obtain ⟨es, n, I, re, _⟩ := inst_at S.toSh hx hd
  exact method_fn (B.at S).X I hga hk hf ht (by show (lookIn name (dictOf es n)).map _ = _; rw [lookIn_dict, (re.keys name).1 hn]; rfl) ⟨rfl, rfl⟩
theorem gm_str {y : Str} {name : Str} {id : String} (slot : Slot "str" name id) (hty : typeOf (.builtin id) = pure (.type "method_descriptor")) : GM c (.str y) name led (.builtin id) := by
  intro pl bg m s Z a B S r
  cases r
  exact getMethod_builtin (T := "str") rfl PySem.F.plainAttrs_str slot hty (fun _ e => by cases e) ⟨rfl, rfl⟩
theorem gm_bytes {y : Array UInt8} {name : Str} {id : String} (slot : Slot "bytes" name id) (hty : typeOf (.builtin id) = pure (.type "method_descriptor")) : GM c (.bytes y) name led (.builtin id) := by
  intro pl bg m s Z a B S r
  cases r
  exact getMethod_builtin (T := "bytes") rfl PySem.W.FB.plainAttrs_bytes slot hty (fun _ e => by cases e) ⟨rfl, rfl⟩
theorem gm_own {a : Addr} {l : List V} {name : Str} {id : String} (h : led a = some (.list l)) (slot : Slot "list" name id) (hty : typeOf (.builtin id) = pure (.type "method_descriptor")) : GM c (.own a) name led (.builtin id) := by
  intro pl bg m s Z b B S r
  cases r
  obtain ⟨o, ho, vs, n, rfl, rs⟩ := S.lk a _ h
  exact getMethod_builtin (T := "list") ⟨_, ho, rfl⟩ PySem.F.plainAttrs_list slot hty (fun _ e => by cases e; exact ⟨_, ho, rfl⟩) ⟨rfl, rfl⟩
inductive AttrOk (c : Cx) (name : Str) (Q : V → Loc → Led → Prop) (xv : V) (m₁ : Loc) (led₁ : Led) : Prop
  | mk (x C dx : Addr) (l : List (Str × V)) (v : V) : xv = .own x → led₁ x = some (.inst C dx) → led₁ dx = some (.dict l) → l.lookup name = some v →
      findIn c.K (.ref C) "__getattribute__" = some (some (.builtin "object.__getattribute__")) → (clsIn c.K C).any (·.hasDict) = true → findIn c.K (.ref C) name = some none → (∀ b, v ≠ .obj b) → Q v m₁ led₁ → AttrOk c name Q xv m₁ led₁
theorem ev_attr {o : Expr} {name : Str} (h : EV c o m led (AttrOk c name Q))
    (he : eval (.Attribute o name pos) c.env = (do let a ← eval o c.env; standAt pos.atName; let r ← holding [a] (getAttr a name true); letTemporaryGo o a r; pure r)) (hn : ∃ id p, o = .Name id p) : EV c (.Attribute o name pos) m led Q := by
  intro bg s Z B S
  rw [he]
  refine wpAny_bind (wpAny_mono (h bg s Z B S) (fun a s₁ p => ?_) fun _ _ e => e)
  obtain ⟨_, m', led', Z', z', e', S', r, x, C, dx, l, v, rfl, hx, hd, hl, hga, hh, hcl, hv, q⟩ := p
  cases r
  obtain ⟨es, n, I, re, _⟩ := inst_at S'.toSh hx hd
  obtain ⟨w, hw, rw'⟩ := (re.keys name).2 v hl
  have hhand : handedIn w = true := by
    cases rw' <;> first | rfl | exact absurd rfl (hv _)
  refine wpAny_bind (wpAny_standAt (wpAny_bind (wpAny_holding ?_)))
  have fo : findObj c.K C (some (dictOf es n)) name = some (.value w) := findObj_own hh hcl (by rfl) hw
  refine get_value (B.at S').X I hga fo hhand ?_
  obtain ⟨id, p, rfl⟩ := hn
  exact wpAny_bind (wpAny_pure (wpAny_pure ⟨v, m', led', Z', z', by dsimp only; rw [e'], ⟨S'.toSh, S'.tk.mono (Nat.le_succ _)⟩, rw', q⟩))
end
end Mine
end
section
open PySem PySem.W PySem.Calls PyProof.Rows
set_option Elab.async false
set_option maxRecDepth 100000
set_option linter.unusedVariables false
namespace Mine
theorem under_make {A : Around} {n : Nat} (o : OkA A (n + 1)) (C : Addr) (rest : List Value) (kw : List (Str × Value)) : OkA (A.under (.builtin "type.__call__" ⟨.ref C :: rest, kw⟩)) n := by
  have h1 : (A.under (.builtin "type.__call__" ⟨.ref C :: rest, kw⟩)).depth = A.depth + 1 := rfl
  have h2 : (A.under (.builtin "type.__call__" ⟨.ref C :: rest, kw⟩)).units = A.units + 1 := rfl
  exact ⟨o.hh, by have := o.hd; omega, by have := o.hu; omega⟩
section
variable {prog : Program} {w : World} {K : Frag} {n : Nat} {args : List V} {kw : List (Str × V)} {led : Led} {Q : V → Led → Prop} {C fI : Addr}
theorem fs_make (hm : makesIn K C = true) (hi : findIn K (.ref C) "__init__" = some (some (.ref fI))) (hf : typeIn K (.ref fI) = some (.type "function"))
    (h : ∀ x dx, led x = none → led dx = none → x ≠ dx → FS prog w K n (.ref fI) (.own x :: args) kw (upd (upd led dx (.dict [])) x (.inst C dx)) fun r led' => r = .none ∧ Q (.own x) led') :
    FS prog w K (n + 1) (.ref C) args kw led Q := by
  intro A env bg s Z m as ks oA B S ra rk
  have X := (B.at S).X
  have S1 := S.allocL (o := emptyDict) rfl (ao := .dict []) ⟨[], _, rfl, .nil⟩
  have S2 := S1.allocL (o := instObj C s.heap.objs.size) rfl (ao := .inst C s.heap.objs.size) rfl
  rw [Heap.size_push] at S2
  obtain ⟨hh, g, d, t, os⟩ := s
  refine make_core (makes_of X hm) (looks_findIn X hi) (fun self => bind_fn X self hf) (.inl rfl) ?_
  refine codeAny_mono (h (hh.objs.size + 1) hh.objs.size (S.llt (Nat.le_succ _)) (S.llt (Nat.le_refl _)) (Nat.ne_of_gt (Nat.lt_succ_self _)) _ env bg ⟨_, g, d, t, os⟩ Z m _ _ ?_ B ⟨S2, S.tk⟩ (.cons (.own _) ra) rk) fun r s' p => ?_
  · exact under_make oA _ _ _
  · rcases r with e | (v | _ | _ | _) <;> first | exact p | skip
    obtain ⟨r, led', Z', z', e', S', rv, rfl, q⟩ := p
    cases rv.inv
    exact ⟨rfl, _, led', Z', z', by rw [e'], S', .own _, q⟩
end
section
variable {c : Cx} {m : Loc} {led : Led} {pos : Pos} {x C dx f : Addr} {v : V} {l : List (Str × V)}
inductive AtOk (c : Cx) (name : Str) (v : V) (Q : Loc → Led → Prop) (xv : V) (m₁ : Loc) (led₁ : Led) : Prop
  | mk (x C dx : Addr) : xv = .own x → led₁ x = some (.inst C dx) → led₁ dx = some (.dict []) →
      findIn c.K (.ref C) "__setattr__" = some (some (.builtin "object.__setattr__")) → plainOver c.K C = true → takerIn c.K C name = some none → (clsIn c.K C).any (·.hasDict) = true → Q m₁ (upd led₁ dx (.dict [(name, v)])) → AtOk c name v Q xv m₁ led₁
theorem at_attr {o : Expr} {name : Str} {Q : Loc → Led → Prop} (h : EV c o m led (AtOk c name v Q)) :
    AT c (.Attribute o name pos) v m led Q := by
  intro bg s Z a B S r
  rw [assign_Attribute]
  refine wpAny_bind (wpAny_holding (wpAny_mono (h bg s Z B S) (fun ov s₁ p => ?_) fun _ _ e => e))
  obtain ⟨_, m', led', Z', z', e', S', r', x, C, dx, rfl, hx, hd, hs, hp, ht, hh, q⟩ := p
  cases r'
  obtain ⟨o, ho, rfl⟩ := S'.lk x _ hx
  obtain ⟨o, ho', es, n, rfl, re⟩ := S'.lk dx _ hd
  cases re
  have X := (B.at S').X
  have I : InstAt s₁.heap x (instObj C dx) C (some (dictOf [] n)) := ⟨ho, rfl, rfl, ho'⟩
  refine wpAny_bind (wpAny_standAt (wpAny_bind (wpAny_holding (set_plain X I hs ?_))))
  refine osa_open (s := { s₁ with toks := s₁.toks + 1 }) X I hp ht fun b => ?_
  obtain ⟨cd, hc, hd'⟩ := any_some hh
  refine wpAny_bind (wpAny_pure (wpAny_bind (wpAny_bind (wpAny_loadPart ho (wpAny_bind ((looks_clsIn X hc) _ _ _ _ (fun _ _ e => e) ?_))))))
  rw [hd']
  refine wpAny_pure (a := some dx) (wpAny_bind (wpAny_pure (wpAny_bind ?_)))
  unfold nsSet
  refine wpAny_bind (wpAny_bind (wpAny_askSetting (wpAny_pure (wpAny_bind (wpAny_mkText (wpAny_bind (wpAny_loadPart ho' ?_)))))))
  dsimp only
  rw [aRefKeyMayBeTheName_at, show (!(#[] : Array DictEntry).any (·.key.isStr name) && (#[] : Array DictEntry).any (·.refKey)) = false by rw [show (#[] : Array DictEntry).any (·.refKey) = false by simp, Bool.and_false]]
  refine wpAny_updatePart ho' ?_
  have ef : ∀ h k t, Obj.putName name h (.str name k) t (dictOf [] n) = dictOf [⟨h, .str name k, t⟩] (n + 1) := fun h k t => by rw [putName_dict]; rfl
  have D' := Heap.get?_update_self (h := s₁.heap) (a := dx) (Obj.putName name (PyData.keyHash c.w.params name) (.str name (s₁.toks + 1)) a) ho' (by rw [ef]; rfl)
  rw [ef] at D'
  have SB := Heap.SameBut.update s₁.heap dx (Obj.putName name (PyData.keyHash c.w.params name) (.str name (s₁.toks + 1)) a)
  refine wpAny_bind (wpAny_lookBehind D' (pastItsLine_dict (by rw [List.size_toArray, sizeLine_eq]; simp)) ?_)
  refine wpAny_pure (wpAny_release ?_)
  exact ⟨(), m', _, Z', z', by dsimp only; rw [e'], ⟨S'.change (ao' := .dict [(name, v)]) hd D' SB ⟨_, _, rfl, .cons (r.mono z') .nil⟩, S'.tk.mono (Nat.le_add_right _ 2)⟩, True.intro, q⟩
theorem ex_assign_attr {o e : Expr} {name : Str} {p1 : Pos} {Q : FV → Loc → Led → Prop} (h : EV c e m led fun v m₁ led₁ => AT c (.Attribute o name p1) v m₁ led₁ (Q .next))
    (hs : swapsWith e (some (.Attribute o name p1)) pos.line c.env = pure false) : EX c (.Assign [.Attribute o name p1] e pos) m led Q := by
  intro bg s Z B S
  rw [plainObj_exec_Assign_Attribute o name p1 e pos hs]
  refine wpAny_bind (wpAny_standAt (wpAny_bind (wpAny_mono (h bg s Z B S) (fun v s₁ p => ?_) fun _ _ e => e)))
  obtain ⟨b, m', led', Z', z', e', S', r, q⟩ := p
  refine wpAny_bind (wpAny_mono (q bg s₁ Z' v B S' r) (fun _ _ p => wpAny_pure ?_) fun _ _ e => e)
  obtain ⟨b, m₂, led₂, Z₂, z₂, e₂, S₂, r₂, q₂⟩ := p.up z' e'
  exact ⟨_, m₂, led₂, Z₂, z₂, e₂, S₂, .next, q₂⟩
noncomputable def IsI (led : Led) (x C : Addr) : Prop := ∃ dx l, led x = some (.inst C dx) ∧ led dx = some (.dict l)
theorem IsI.at {bg : Bt} {Z : Zt} {h : Heap} {env : Env} (S : Sh env bg Z m led h) (i : IsI led x C) : ∃ ox od, InstAt h x ox C od := by
  obtain ⟨dx, l, hx, hd⟩ := i
  obtain ⟨es, n, I, _⟩ := inst_at S hx hd
  exact ⟨_, _, I⟩
inductive BoolR (Q : V → Loc → Led → Prop) (r : V) (m : Loc) (led : Led) : Prop
  | mk (b : Bool) : r = .bool b → Q (.bool b) m led → BoolR Q r m led
inductive StrR (Q : V → Loc → Led → Prop) (r : V) (m : Loc) (led : Led) : Prop
  | mk (y : Str) : r = .str y → Q (.str y) m led → StrR Q r m led
inductive BytR (Q : V → Loc → Led → Prop) (r : V) (m : Loc) (led : Led) : Prop
  | mk (y : Array UInt8) : r = .bytes y → Q (.bytes y) m led → BytR Q r m led
inductive LenR (Q : Bool → Loc → Led → Prop) (r : V) (m : Loc) (led : Led) : Prop
  | mk (k : Nat) : r = .int k → k < 2 ^ 62 → Q (k != 0) m led → LenR Q r m led
theorem op_in {Q : V → Loc → Led → Prop} (i : IsI led x C) (hs : findIn c.K (.ref C) "__contains__" = some (some (.ref f))) (hf : isFn c.K (.ref f) = true)
    (h : CA c (.ref f) [.own x, v] [] m led (BoolR Q)) : A2 c R (compareOp .In) v (.own x) m led Q := by
  intro bg s Z a b B S ra rb
  cases rb.inv
  obtain ⟨ox, od, I⟩ := i.at S.toSh
  have X := (B.at S).X
  refine wpAny_bind (m := contains (.ref x) a) ?_
  unfold contains
  refine wpAny_holding (wpAny_bind (wpAny_bind (I.type.here ((looks_findIn X hs).here ?_))))
  rw [if_neg (by simp)]
  refine wpAny_bind (unlessNone_K X I hs hf ?_)
  refine wpAny_mono (h bg s Z _ _ B S (.cons (.own _) (.cons ra .nil)) .nil) (fun r s' p => ?_) fun _ _ e => e
  obtain ⟨_, m', led', Z', z', e', S', r', b, rfl, q⟩ := p
  cases r'.inv
  exact wpAny_pure (wpAny_pure ⟨_, m', led', Z', z', e', S', .bool _, q⟩)
theorem key_own {bg : Bt} {Z : Zt} {s : Shared} {k : Value} {name : Str} {Q : Value → Shared → Prop} {M : Model} {A : Around} {ox : Obj} {od : Option Obj} {K : Frag} (X : K.In s.heap) (I : InstAt s.heap x ox C od) (hq : noSeq K C = true) (q : Q k s) : wpAny M A (sequenceKey (.ref x) k name) Q NoE s := by
  unfold sequenceKey
  refine wpAny_bind (I.type.here (wpAny_bind ((anyM_none X hq).here ?_)))
  rw [if_pos (show (!false) = true from rfl)]
  exact wpAny_pure q
inductive SetOk (c : Cx) (n : Str) (vs : List V) (Q : V → Loc → Led → Prop) (xv k : V) (m₃ : Loc) (led₃ : Led) : Prop
  | mk (x C f : Addr) : xv = .own x → IsI led₃ x C → findIn c.K (.ref C) n = some (some (.ref f)) → isFn c.K (.ref f) = true → noSeq c.K C = true → CA c (.ref f) (.own x :: k :: vs) [] m₃ led₃ Q → SetOk c n vs Q xv k m₃ led₃
theorem ex_setitem {o i e : Expr} {p1 : Pos} {Q : FV → Loc → Led → Prop}
    (h : EV c e m led fun v m₁ led₁ => EV c o m₁ led₁ fun xv m₂ led₂ => EV c i m₂ led₂ (SetOk c "__setitem__" [v] (fun _ => Q .next) xv))
    (hs : swapsWith e (some (.Subscript o i p1)) pos.line c.env = pure false) : EX c (.Assign [.Subscript o i p1] e pos) m led Q := by
  intro bg s Z B S
  refine wpAny_Assign_Subscript (wpAny_mono (h bg s Z B S) (fun v s₁ p => ?_) fun _ _ e => e) hs
  obtain ⟨vv, m₁, led₁, Z₁, z₁, e₁, S₁, r₁, q⟩ := p
  refine wpAny_mono (q bg s₁ Z₁ B S₁) (fun ov s₂ p => ?_) fun _ _ e => e
  obtain ⟨xv, m₂, led₂, Z₂, z₂, e₂, S₂, r₂, q⟩ := p
  refine wpAny_mono (q bg s₂ Z₂ B S₂) (fun iv s₃ p => ?_) fun _ _ e => e
  obtain ⟨k, m₃, led₃, Z₃, z₃, e₃, S₃, r₃, x, C, f, rfl, ii, hs, hf, hn, q9⟩ := p
  cases r₂.inv
  obtain ⟨ox, od, I⟩ := ii.at S₃.toSh
  have X := (B.at S₃).X
  unfold setItem
  refine wpAny_holding (wpAny_bind (key_own (bg := bg) (Z := Z) X I hn ?_))
  refine wpAny_bind (special_fn X I hs (beq_iff_eq.mp hf) ?_)
  refine wpAny_mono (q9 bg s₃ Z₃ _ _ B S₃ (.cons (.own _) (.cons r₃ (.cons ((r₁.mono z₂).mono z₃) .nil))) .nil) (fun r s' p => wpAny_pure ?_) fun _ _ e => e
  obtain ⟨_, m₄, led₄, Z₄, z₄, e₄, S₄, _, q₄⟩ := p
  exact ⟨_, m₄, led₄, Z₄, z₁.trans (z₂.trans (z₃.trans z₄)), by rw [e₄, e₃, e₂, e₁], S₄, .next, q₄⟩
theorem ex_delitem {o i : Expr} {p1 : Pos} {Q : FV → Loc → Led → Prop}
    (h : EV c o m led fun xv m₂ led₂ => EV c i m₂ led₂ (SetOk c "__delitem__" [] (fun _ => Q .next) xv)) : EX c (.Delete [.Subscript o i p1] pos) m led Q := by
  intro bg s Z B S
  refine wpAny_Delete (wpAny_deleteEach_cons (wpAny_delete_Subscript (wpAny_mono (h bg s Z B S) (fun ov s₂ p => ?_) fun _ _ e => e)))
  obtain ⟨xv, m₂, led₂, Z₂, z₂, e₂, S₂, r₂, q⟩ := p
  refine wpAny_mono (q bg s₂ Z₂ B S₂) (fun iv s₃ p => ?_) fun _ _ e => e
  obtain ⟨k, m₃, led₃, Z₃, z₃, e₃, S₃, r₃, x, C, f, rfl, ii, hs, hf, hn, q9⟩ := p
  cases r₂.inv
  obtain ⟨ox, od, I⟩ := ii.at S₃.toSh
  have X := (B.at S₃).X
  unfold delItem
  refine wpAny_holding (wpAny_bind (key_own (bg := bg) (Z := Z) X I hn ?_))
  refine wpAny_bind (special_fn X I hs (beq_iff_eq.mp hf) ?_)
  refine wpAny_mono (q9 bg s₃ Z₃ _ _ B S₃ (.cons (.own _) (.cons r₃ .nil)) .nil) (fun r s' p => wpAny_pure (wpAny_deleteEach_nil ?_)) fun _ _ e => e
  obtain ⟨_, m₄, led₄, Z₄, z₄, e₄, S₄, _, q₄⟩ := p
  exact ⟨_, m₄, led₄, Z₄, z₂.trans (z₃.trans z₄), by rw [e₄, e₃, e₂], S₄, .next, q₄⟩
theorem truth_own {Q : Bool → Loc → Led → Prop} (i : IsI led x C) (hb : findIn c.K (.ref C) "__bool__" = some none) (hs : findIn c.K (.ref C) "__len__" = some (some (.ref f))) (hf : isFn c.K (.ref f) = true)
    (h : CA { c with A := c.A.in1 } (.ref f) [.own x] [] m led (LenR Q)) : A1 c RB truthy (.own x) m led Q := by
  intro bg s Z a B S ra
  cases ra.inv
  obtain ⟨ox, od, I⟩ := i.at S.toSh
  have X := (B.at S).X
  unfold truthy
  refine wpAny_bind (m := callSpecial? (.ref x) (Str.ofString "__bool__")) (wpAny_bind (wpAny_bind (I.type.here ((looks_findIn X hb).here (wpAny_pure ?_)))))
  refine wpAny_bind (wpAny_bind (I.type.here ((looks_findIn X hs).here ?_)))
  show wpAny _ _ (runValue (.builtin "len" ⟨[.ref x], []⟩) >>= _) _ _ _
  refine wpAny_bind (wpAny_runValue (codeAny_builtin entry_len ?_))
  rw [Around.under_plainId plain_len]
  unfold Builtin.«len»
  refine wpAny_bind (m := oneArg "len" _) (wpAny_pure ?_)
  refine wpAny_bind (m := callSpecial? (.ref x) (Str.ofString "__len__")) (special_fn X I hs (beq_iff_eq.mp hf) ?_)
  refine wpAny_mono (h bg s Z _ _ B S (.cons (.own _) .nil) .nil) (fun r s' p => ?_) fun _ _ e => e
  obtain ⟨_, m', led', Z', z', e', S', r', k, rfl, hk, q⟩ := p
  cases r'.inv
  refine wpAny_bind (wpAny_holding (wpAny_pure ?_))
  refine wpAny_bind (wpAny_letGo ?_)
  show wpAny _ _ (if (k : Int) < 0 then _ else _) _ _ _
  rw [if_neg (by omega)]
  show wpAny _ _ (if (k : Int) ≥ 2 ^ 63 then _ else _) _ _ _
  rw [if_neg (by omega)]
  refine wpAny_bind (wpAny_mkInt (wpAny_pure ?_))
  dsimp only
  refine wpAny_pure (a := ((k : Int) != 0)) ⟨k != 0, m', led', Z', z', by dsimp only; rw [e'], ⟨S'.toSh, S'.tk.mono (Nat.le_succ _)⟩, ?_, q⟩
  show ((k : Int) != 0) = (k != 0)
  cases k <;> simp <;> omega
theorem op_not {v : V} {Q : V → Loc → Led → Prop} (h : A1 c RB truthy v m led fun b => Q (.bool (!b))) : A1 c R (unaryOp .Not) v m led Q := by
  intro bg s Z a B S ra
  show wpAny _ _ (holding [a] _) _ _ _
  refine wpAny_holding (wpAny_bind (m := truthy a) (wpAny_mono (h bg s Z a B S ra) (fun b s' p => wpAny_pure ?_) fun _ _ e => e))
  obtain ⟨_, m', led', Z', z', e', S', r', q⟩ := p
  cases r'
  exact ⟨_, m', led', Z', z', e', S', .bool _, q⟩
theorem ca_str {Q : V → Loc → Led → Prop} (i : IsI led x C) (hu : c.A.units < 4000) (hs : findIn c.K (.ref C) "__str__" = some (some (.ref f))) (hf : isFn c.K (.ref f) = true)
    (h : CA { c with A := c.A.in1.in1 } (.ref f) [.own x] [] m led (StrR Q)) : CA c (.type "str") [.own x] [] m led Q := by
  refine ca_1 fun bg s Z a1 B S r1 => ?_
  cases r1.inv
  obtain ⟨ox, od, I⟩ := i.at S.toSh
  refine kso_call (by show c.A.units + 1 + 1 < cLine; unfold cLine; omega) (B.at S).X I hs hf ?_
  refine wpAny_mono (h bg s Z _ _ B S (.cons (.own _) .nil) .nil) (fun r s' p => ?_) fun _ _ e => e
  obtain ⟨_, m', led', Z', z', e', S', r', y, rfl, q⟩ := p
  cases r'.inv with
  | mk t ht => exact ⟨_, m', led', Z', z', e', S', .str _ _ ht, q⟩
theorem ca_bytes {Q : V → Loc → Led → Prop} (i : IsI led x C) (hs : findIn c.K (.ref C) "__bytes__" = some (some (.ref f))) (hf : isFn c.K (.ref f) = true)
    (h : CA { c with A := c.A.in1.in1 } (.ref f) [.own x] [] m led (BytR Q)) : CA c (.type "bytes") [.own x] [] m led Q := by
  refine ca_1 fun bg s Z a1 B S r1 => ?_
  cases r1.inv
  obtain ⟨ox, od, I⟩ := i.at S.toSh
  have X := (B.at S).X
  refine callType_codes (T := "bytes") (Bi := Builtin.«object.__init__») (Q₁ := fun r s₁ => ∃ y u, r = .bytes y u ∧ Post c bg R s Z Q r s₁) PySem.F.bm_called (PySem.F.bm_typeCall _) PySem.F.entry_object_init ?_ ?_
  · refine codeAny_of_tree ?_
    show wpAny _ c.A.in1.in1 (do checkBuiltinCall "bytes.__new__" ⟨[.type "bytes", .ref x], []⟩; again (.builtin "bytes.__new__" ⟨[.type "bytes", .ref x], []⟩)) _ _ s
    refine wpAny_bind (wpAny_of_eq (PySem.F.bm_newCall _) (wpAny_pure ⟨plainId_quiet PySem.F.bm_plain _, codeAny_builtin PySem.F.bm_entry ?_⟩))
    rw [Around.under_plainId PySem.F.bm_plain _]
    unfold Builtin.«bytes.__new__»
    refine wpAny_bind (m := isType (.type "bytes")) (wpAny_pure ?_)
    refine wpAny_bind (wpAny_of_eq PySem.F.bm_sub ?_)
    refine wpAny_bind (wpAny_of_eq (PySem.F.bm_bind _) ?_)
    refine wpAny_bind (m := Builtin.Bytes.checkCodecArg _ _ _ _) (wpAny_pure ?_)
    refine wpAny_bind (m := Builtin.Bytes.checkCodecArg _ _ _ _) (wpAny_pure ?_)
    dsimp only
    refine wpAny_bind (wpAny_bind (I.type.here ((looks_findIn X hs).here ?_)))
    dsimp only
    refine wpAny_bind (wpAny_rule (wpAny_bind (special_fn X I hs (beq_iff_eq.mp hf) ?_)))
    refine wpAny_mono (h bg s Z _ _ B S (.cons (.own _) .nil) .nil) (fun r s' p => ?_) fun _ _ e => e
    obtain ⟨_, m', led', Z', z', e', S', r', y, rfl, q⟩ := p
    cases r'.inv
    dsimp only
    refine wpAny_bind (wpAny_isInstance (typeIs_bytes _ _ _) PySem.F.bm_sub ?_)
    simp only [Bool.not_true, Bool.false_eq_true, if_false]
    exact wpAny_pure ⟨_, _, rfl, ⟨_, m', led', Z', z', e', S', .bytes _ _, q⟩⟩
  · rintro obj s₁ ⟨y, u, rfl, hq⟩
    exact ⟨typeIs_bytes _ _ _, PySem.F.args_object_init_2 _ _, object_init_meets PySem.F.bm_called.init.lookup PySem.F.bm_called.made (by decide) c.prog c.w c.A.in1 _ s₁ ⟨typeIs_bytes _ _ _, rfl, hq⟩⟩
end
end Mine
end
section
open PySem PySem.W PySem.Calls PyProof.Rows
set_option Elab.async false
set_option maxRecDepth 100000
set_option linter.unusedVariables false
namespace Mine
theorem none_of {K : Frag} {h : Heap} {ns : Addr} {mg : Str → Option Value} {n : Str} (X : K.In h) (G : h.Ns ns mg) (e : nsIn K ns n = some none) : mg n = none := by
  obtain ⟨o, es, ep, ho, hd, _, hf⟩ := G
  unfold nsIn at e
  split at e
  · rename_i c d es' n' sl q
    have := X _ _ q
    rw [ho] at this
    cases this
    cases hd
    split at e
    · cases e
    · rename_i he
      rw [← hf]
      unfold nsFind findBy
      rw [← Array.find?_toList, he]
      rfl
  · cases e
theorem Gd.booked {K : Frag} {h : Heap} (G : Gd K h) : NoneBooked h := let ⟨mc, hn, _⟩ := G.lim; ⟨mc, hn, none_of G.X hn G.bk⟩
section
variable {c : Cx} {m : Loc} {led : Led} {bg : Bt} {Z : Zt} {s s' : Shared} {x y : V} {α β : Type} {rel : Zt → α → β → Prop} {a : α} {b : β} {Q : β → Loc → Led → Prop}
theorem Post.toks {tk : Nat} (S : St c.env bg Z m led s) (r : rel Z a b) (q : Q b m led) (l : s.toks ≤ tk) : Post c bg rel s Z Q a { s with toks := tk } :=
  ⟨b, m, led, Z, Zle.refl _, rfl, ⟨S.toSh, S.tk.mono l⟩, r, q⟩
end
section
variable {c : Cx} {m : Loc} {led : Led} {bg : Bt} {Z : Zt} {s s' : Shared} {Q : V → Loc → Led → Prop}
theorem Post.int {i : Int} (S : St c.env bg Z m led s) (q : Q (.int i) m led) : Post c bg R s Z Q (.int i s.toks) { s with toks := s.toks + 1 } :=
  ⟨.int i, m, led, _, S.ztk _, rfl, S.tok (.int i) rfl (Nat.lt_succ_self _), .int i _ (ztk_self ..), q⟩
theorem Post.str {y : Str} (S : St c.env bg Z m led s) (q : Q (.str y) m led) : Post c bg R s Z Q (.str y s.toks) { s with toks := s.toks + 1 } :=
  ⟨.str y, m, led, _, S.ztk _, rfl, S.tok (.str y) rfl (Nat.lt_succ_self _), .str y _ (ztk_self ..), q⟩
theorem Post.bool {b : Bool} (S : St c.env bg Z m led s) (q : Q (.bool b) m led) : Post c bg R s Z Q (.bool b) s := Post.same S (.bool b) q
theorem Post.bytes {y : Array UInt8} (S : St c.env bg Z m led s) (q : Q (.bytes y) m led) : Post c bg R s Z Q (.bytes y s.toks) { s with toks := s.toks + 1 } :=
  Post.toks S (.bytes y _) q (Nat.le_succ _)
end
noncomputable def tx (l : List Nat) : Str := ⟨l.toArray⟩
theorem tx_append (a b : List Nat) : tx a ++ tx b = tx (a ++ b) := Str.ext' (by simp [tx, Str.cps_append])
theorem tx_length (a : List Nat) : (tx a).length = a.length := by simp [tx, Str.length]
theorem tx_inj {a b : List Nat} (h : tx a = tx b) : a = b := by
  have : (tx a).cps = (tx b).cps := by rw [h]
  simpa [tx] using this
theorem tx_beq (a b : List Nat) : (tx a == tx b) = (a == b) := by
  by_cases h : a = b
  · subst h; simp
  · rw [beq_eq_false_iff_ne.mpr h, beq_eq_false_iff_ne.mpr fun e => h (tx_inj e)]
theorem str_empty {x : Str} (h : (x.length == 0) = true) : x = Str.empty := by
  obtain ⟨⟨l⟩⟩ := x
  cases l with
  | nil => rfl
  | cons a l => simp [Str.length] at h
theorem fold_replicate (l : List Nat) : ∀ (n : Nat) (acc : Array Nat), (List.replicate n l.toArray).foldl (· ++ ·) acc = acc ++ (List.replicate n l).flatten.toArray
  | 0, acc => by simp
  | n + 1, acc => by
    rw [List.replicate_succ, List.foldl_cons, fold_replicate l n, List.replicate_succ, List.flatten_cons]
    simp
noncomputable def Solid : V → Prop
  | .none => False
  | .obj v => v ≠ .none
  | _ => True
theorem R.solid {Z : Zt} {a : Value} {x : V} (r : R Z a x) (h : Solid x) : a ≠ .none := by
  cases r <;> first | exact h | exact h.elim | (intro e; cases e)
section
variable {c : Cx} {m : Loc} {led : Led} {x y : V} {Q : V → Loc → Led → Prop}
theorem op_is_none (q : Q (.bool true) m led) : A2 c R (compareOp .Is) .none .none m led Q := fun bg s Z a b B S ra rb => by
  cases ra.inv; cases rb.inv; exact wpAny_is_self rfl (Post.bool S q)
theorem op_is_not_none (h : Solid x) (q : Q (.bool false) m led) : A2 c R (compareOp .Is) x .none m led Q := fun bg s Z a b B S ra rb => by
  cases rb.inv
  refine wpAny_bind (m := isSame a .none) (f := fun r => pure (Value.bool r)) ?_
  rw [isSame_none, beq_eq_false_iff_ne.mpr (ra.solid h)]
  exact wpAny_pure (wpAny_pure (Post.bool S q))
theorem op_isnot_none (q : Q (.bool false) m led) : A2 c R (compareOp .IsNot) .none .none m led Q := fun bg s Z a b B S ra rb => by
  cases ra.inv; cases rb.inv; exact wpAny_isNot_self rfl (Post.bool S q)
theorem op_isnot_solid (h : Solid x) (q : Q (.bool true) m led) : A2 c R (compareOp .IsNot) x .none m led Q := fun bg s Z a b B S ra rb => by
  cases rb.inv
  refine wpAny_bind (m := isSame a .none) (f := fun r => pure (Value.bool (!r))) ?_
  rw [isSame_none, beq_eq_false_iff_ne.mpr (ra.solid h)]
  exact wpAny_pure (wpAny_pure (Post.bool S q))
theorem op_is_type {T U : String} (q : Q (.bool (T == U)) m led) : A2 c R (compareOp .Is) (.obj (.type T)) (.obj (.type U)) m led Q := fun bg s Z a b B S ra rb => by
  cases ra.inv; cases rb.inv
  refine wpAny_is_plain rfl ?_
  have : (Value.type T == Value.type U) = (T == U) := by
    by_cases h : T = U
    · subst h; simp
    · rw [beq_eq_false_iff_ne.mpr h, beq_eq_false_iff_ne.mpr (fun e => h (by cases e; rfl))]
  rw [this]; exact Post.bool S q
theorem op_isnot_type {T U : String} (q : Q (.bool (T != U)) m led) : A2 c R (compareOp .IsNot) (.obj (.type T)) (.obj (.type U)) m led Q := fun bg s Z a b B S ra rb => by
  cases ra.inv; cases rb.inv
  refine wpAny_isNot_plain rfl ?_
  have : (Value.type T == Value.type U) = (T == U) := by
    by_cases h : T = U
    · subst h; simp
    · rw [beq_eq_false_iff_ne.mpr h, beq_eq_false_iff_ne.mpr (fun e => h (by cases e; rfl))]
  rw [this]; exact Post.bool S q
theorem op_is_bool {b d : Bool} (q : Q (.bool (b == d)) m led) : A2 c R (compareOp .Is) (.bool b) (.bool d) m led Q := fun bg s Z a a' B S ra rb => by
  cases ra.inv; cases rb.inv
  refine wpAny_is_plain rfl ?_
  have : (Value.bool b == Value.bool d) = (b == d) := by cases b <;> cases d <;> rfl
  rw [this]; exact Post.bool S q
theorem created_ {M : Model} {A : Around} {E : Value → Shared → Prop} {s : Shared} {eq : Bool} {u v : Tok} {Q : Bool → Shared → Prop}
    (h0 : (u == 0 || v == 0) = false) (hb : NoneBooked s.heap) (ht : u = v → eq = true) (hq : ∀ b, (b = true → eq = true) → Q b s) : wpAny M A (isSame.created eq u v) Q E s := by
  unfold isSame.created
  refine wpAny_ite ?_
  split
  · rename_i h; rw [h0] at h; exact absurd h Bool.false_ne_true
  refine wpAny_ite ?_
  split
  · rename_i h; exact wpAny_pure (hq _ fun _ => ht (by simpa using h))
  refine wpAny_ite ?_
  split
  · exact wpAny_pure (hq _ fun e => by cases e)
  · rename_i he
    have he : eq = true := by simpa using he
    refine wpAny_bind (wpAny_sharingNotTold_none hb ?_)
    simp only [Bool.false_eq_true, if_false]
    refine wpAny_bind (wpAny_sharingNotTold_none hb ?_)
    simp only [Bool.false_eq_true, if_false]
    exact wpAny_bind (wpAny_rule (wpAny_bind (wpAny_askSetting (wpAny_pure (hq _ fun _ => he)))))
theorem tok_ne {Z : Zt} {t : Tok} {n : Tok} {v : V} (T : TokOk Z n) (h : Z.tk t = some v) : t ≠ 0 := fun q => by rw [q, T.ne] at h; cases h
theorem op_is_str {x y : Str} (q : ∀ b, (b = true → x = y) → Q (.bool b) m led) : A2 c R (compareOp .Is) (.str x) (.str y) m led Q := fun bg s Z a a' B S ra rb => by
  cases ra.inv with
  | mk t ht =>
    cases rb.inv with
    | mk u hu =>
      refine wpAny_bind (m := isSame.created (x == y) t u) (f := fun r => pure (Value.bool r)) (created_ (by simp [tok_ne S.tk ht, tok_ne S.tk hu]) (B.at S).booked (fun e => ?_) fun b hb => wpAny_pure (Post.bool S (q b fun e => by simpa using hb e)))
      subst e; rw [ht] at hu; cases hu; simp
theorem op_is_int {x y : Int} (q : ∀ b, (b = true → x = y) → Q (.bool b) m led) : A2 c R (compareOp .Is) (.int x) (.int y) m led Q := fun bg s Z a a' B S ra rb => by
  cases ra.inv with
  | mk t ht =>
    cases rb.inv with
    | mk u hu =>
      have h0 : (t == 0 || u == 0) = false := by simp [tok_ne S.tk ht, tok_ne S.tk hu]
      refine wpAny_bind (m := if (x == y && smallInt x) = true then isSame.cachedInt t u else isSame.created (x == y) t u) (f := fun r => pure (Value.bool r)) ?_
      split
      · rename_i h
        unfold isSame.cachedInt
        rw [h0]
        simp only [Bool.false_eq_true, if_false]
        exact wpAny_bind (wpAny_rule (wpAny_pure (wpAny_pure (Post.bool S (q _ fun _ => by simp at h; exact h.1)))))
      · refine created_ h0 (B.at S).booked (fun e => ?_) fun b hb => wpAny_pure (Post.bool S (q b fun e => by simpa using hb e))
        subst e; rw [ht] at hu; cases hu; simp
noncomputable def IsI_ (x : V) (i : Int) : Prop := x = .int i ∨ x = .num i
theorem IsI_.int {i : Int} : IsI_ (.int i) i := .inl rfl
theorem IsI_.num {i : Int} : IsI_ (.num i) i := .inr rfl
theorem IsI_.of {Z : Zt} {a : Value} {x : V} {i : Int} (h : IsI_ x i) (r : R Z a x) : ∃ t, a = .int i t := by
  rcases h with rfl | rfl <;> cases r.inv <;> exact ⟨_, rfl⟩
noncomputable def IsS (x : V) (y : Str) : Prop := x = .str y ∨ x = .txt y
theorem IsS.str {y : Str} : IsS (.str y) y := .inl rfl
theorem IsS.txt {y : Str} : IsS (.txt y) y := .inr rfl
theorem IsS.of {Z : Zt} {a : Value} {x : V} {y : Str} (h : IsS x y) (r : R Z a x) : ∃ t, a = .str y t := by
  rcases h with rfl | rfl <;> cases r.inv <;> exact ⟨_, rfl⟩
theorem op_add_int {i j : Int} (hx : IsI_ x i) (hy : IsI_ y j) (q : Q (.int (i + j)) m led) : A2 c R (binaryOp .Add) x y m led Q := fun bg s Z a b B S ra rb => by
  obtain ⟨t, rfl⟩ := hx.of ra; obtain ⟨u, rfl⟩ := hy.of rb; exact AutoIntOps.add_0 (Post.int S q)
theorem op_iadd_int {i j : Int} (hx : IsI_ x i) (hy : IsI_ y j) (q : Q (.int (i + j)) m led) : A2 c R (inplaceOp .Add) x y m led Q := fun bg s Z a b B S ra rb => by
  obtain ⟨t, rfl⟩ := hx.of ra; obtain ⟨u, rfl⟩ := hy.of rb; exact AutoIntOps.iadd_0 (Post.int S q)
theorem op_sub_int {i j : Int} (hx : IsI_ x i) (hy : IsI_ y j) (q : Q (.int (i - j)) m led) : A2 c R (binaryOp .Sub) x y m led Q := fun bg s Z a b B S ra rb => by
  obtain ⟨t, rfl⟩ := hx.of ra; obtain ⟨u, rfl⟩ := hy.of rb; exact AutoIntOps.sub_0 (Post.int S q)
theorem op_mod_int {i j : Int} (hx : IsI_ x i) (hy : IsI_ y j) (h : j ≠ 0) (q : Q (.int (i.fmod j)) m led) : A2 c R (binaryOp .Mod) x y m led Q := fun bg s Z a b B S ra rb => by
  obtain ⟨t, rfl⟩ := hx.of ra; obtain ⟨u, rfl⟩ := hy.of rb; exact AutoIntOps.mod_1 (by simpa using h) (Post.int S q)
theorem op_floordiv_int {i j : Int} (hx : IsI_ x i) (hy : IsI_ y j) (h : j ≠ 0) (hd : Builtin.divisionGoesByPylong i j = false) (q : Q (.int (i.fdiv j)) m led) : A2 c R (binaryOp .FloorDiv) x y m led Q := fun bg s Z a b B S ra rb => by
  obtain ⟨t, rfl⟩ := hx.of ra; obtain ⟨u, rfl⟩ := hy.of rb; exact AutoIntOps.floordiv_1 (by simpa using h) (by simp [hd]) (Post.int S q)
theorem op_pow_int {i : Int} {n : Nat} (h1 : 1 < i) (h2 : Builtin.Int.intBits i * n < 1000) (q : Q (.int (i ^ n)) m led) : A2 c R (binaryOp .Pow) (.int i) (.int n) m led Q := fun bg s Z a b B S ra rb => by
  cases ra.inv; cases rb.inv
  cases n with
  | zero => exact AutoIntOps.pow_0 (by decide) (by decide) (Post.int S (by simpa using q))
  | succ n =>
    refine AutoIntOps.pow_4 (by omega) (by simp; omega) (by simp; omega) (by simp; omega) ?_ (Post.int S (by simpa using q))
    unfold Builtin.Int.intTooBig bitsLine
    have : ((Builtin.Int.intBits i : Nat) : Int) * ((n + 1 : Nat) : Int) = ((Builtin.Int.intBits i * (n + 1) : Nat) : Int) := by push_cast; rfl
    rw [this]
    simp only [decide_eq_true_eq, gt_iff_lt, Int.not_lt]
    omega
theorem op_lt_int {i j : Int} (hx : IsI_ x i) (hy : IsI_ y j) (q : Q (.bool (decide (i < j))) m led) : A2 c R (compareOp .Lt) x y m led Q := fun bg s Z a b B S ra rb => by
  obtain ⟨t, rfl⟩ := hx.of ra; obtain ⟨u, rfl⟩ := hy.of rb; exact wpAny_lt_int (Post.bool S q)
theorem op_le_int {i j : Int} (hx : IsI_ x i) (hy : IsI_ y j) (q : Q (.bool (decide (i ≤ j))) m led) : A2 c R (compareOp .LtE) x y m led Q := fun bg s Z a b B S ra rb => by
  obtain ⟨t, rfl⟩ := hx.of ra; obtain ⟨u, rfl⟩ := hy.of rb; exact P.le_int (Post.bool S q)
theorem op_gt_int {i j : Int} (hx : IsI_ x i) (hy : IsI_ y j) (q : Q (.bool (decide (j < i))) m led) : A2 c R (compareOp .Gt) x y m led Q := fun bg s Z a b B S ra rb => by
  obtain ⟨t, rfl⟩ := hx.of ra; obtain ⟨u, rfl⟩ := hy.of rb; exact P.gt_int (Post.bool S q)
theorem op_eq_int {i j : Int} (hx : IsI_ x i) (hy : IsI_ y j) (q : Q (.bool (i == j)) m led) : A2 c R (compareOp .Eq) x y m led Q := fun bg s Z a b B S ra rb => by
  obtain ⟨t, rfl⟩ := hx.of ra; obtain ⟨u, rfl⟩ := hy.of rb; exact wpAny_eq_int (Post.bool S q)
theorem op_ne_int {i j : Int} (hx : IsI_ x i) (hy : IsI_ y j) (q : Q (.bool (i != j)) m led) : A2 c R (compareOp .NotEq) x y m led Q := fun bg s Z a b B S ra rb => by
  obtain ⟨t, rfl⟩ := hx.of ra; obtain ⟨u, rfl⟩ := hy.of rb; exact P.ne_int (Post.bool S q)
theorem op_eq_str {x y : Str} (q : Q (.bool (x == y)) m led) : A2 c R (compareOp .Eq) (.str x) (.str y) m led Q := fun bg s Z a b B S ra rb => by
  cases ra.inv; cases rb.inv
  refine P.eq_str ?_
  have : (x.cps.toList == y.cps.toList) = (x == y) := by
    by_cases h : x = y
    · subst h; simp
    · rw [beq_eq_false_iff_ne.mpr h, beq_eq_false_iff_ne.mpr (fun e => h (by cases x; cases y; simp at e; simp [e]))]
  rw [this]; exact Post.bool S q
theorem op_ne_str {x y : Str} (q : Q (.bool (x != y)) m led) : A2 c R (compareOp .NotEq) (.str x) (.str y) m led Q := fun bg s Z a b B S ra rb => by
  cases ra.inv; cases rb.inv
  refine P.ne_str ?_
  have : (x.cps.toList == y.cps.toList) = (x == y) := by
    by_cases h : x = y
    · subst h; simp
    · rw [beq_eq_false_iff_ne.mpr h, beq_eq_false_iff_ne.mpr (fun e => h (by cases x; cases y; simp at e; simp [e]))]
  rw [show (x.cps.toList != y.cps.toList) = (x != y) by unfold bne; rw [this]]; exact Post.bool S q
theorem op_add_str {x y : Str} (hz : x.length + y.length ≤ 16777216) (q : Q (.str (x ++ y)) m led) : A2 c R (binaryOp .Add) (.str x) (.str y) m led Q := fun bg s Z a b B S ra rb => by
  cases ra.inv with
  | mk t ht =>
    cases rb.inv with
    | mk u hu =>
      refine P.add_str ?_
      split
      · rename_i h
        have e : x ++ y = y := by rw [str_empty h, Str.empty_append]
        rw [e] at q
        exact Post.same S (.str y u hu) q
      · split
        · rename_i h
          have e : x ++ y = x := by rw [str_empty h, Str.append_empty]
          rw [e] at q
          exact Post.same S (.str x t ht) q
        · exact ⟨by rw [Str.length_append, sizeLine_eq]; omega, Post.str S q⟩
theorem op_mul_str {l : List Nat} {n : Nat} (hl : l.length ≤ 10) (hn : n ≤ 1000) (q : Q (.str (tx (List.replicate n l).flatten)) m led) : A2 c R (binaryOp .Mult) (.str (tx l)) (.int n) m led Q := fun bg s Z a b B S ra rb => by
  cases ra.inv with
  | mk t ht =>
    cases rb.inv with
    | mk u hu =>
      have hll : (tx l).length = l.length := tx_length l
      have hm : l.length * n ≤ 10000 := Nat.le_trans (Nat.mul_le_mul hl hn) (by decide)
      refine P.mul_str ?_ ?_ ?_ ?_
      · rw [decide_eq_false (by omega), decide_eq_false (by omega)]; rfl
      · intro h1 _ h3
        have h5 : (0 : Int) < n := by omega
        have h4 : (10 : Int) ≤ (2 ^ 63 - 1) / (n : Int) := Int.le_ediv_of_mul_le h5 (by omega)
        rw [hll] at h3
        omega
      · intro _ _
        refine decide_eq_false ?_
        rw [hll, sizeLine_eq, Int.toNat_natCast]
        omega
      · split
        · rename_i h
          have : n = 0 := by omega
          subst this
          exact ⟨by decide, Post.str S q⟩
        · split
          · rename_i h1 h
            rw [hll] at h
            simp only [Bool.or_eq_true, beq_iff_eq] at h
            have e0 : (List.replicate n l).flatten = l := by
              rcases h with h | h
              · have h6 : n = 1 := by omega
                subst h6; simp
              · have := List.eq_nil_of_length_eq_zero h
                subst this; simp
            rw [e0] at q
            exact Post.same S (.str _ t ht) q
          · have e1 : (⟨(List.replicate (n : Int).toNat (tx l).cps).foldl (· ++ ·) #[]⟩ : Str) = tx (List.replicate n l).flatten := by
              refine Str.ext' ?_
              show (List.replicate n l.toArray).foldl (· ++ ·) #[] = _
              rw [fold_replicate]
              simp [tx]
            rw [e1]
            refine ⟨?_, Post.str S q⟩
            rw [tx_length, sizeLine_eq, List.length_flatten, List.map_replicate, List.sum_replicate_nat, Nat.mul_comm]
            omega
end
end Mine
end
section
open PySem PySem.W PySem.Calls PyProof.Rows
set_option Elab.async false
set_option maxRecDepth 100000
set_option linter.unusedVariables false
namespace Mine
noncomputable def IsL (led : Led) (x : V) (l : List V) : Prop := x = .lst l ∨ ∃ a, x = .own a ∧ led a = some (.list l)
theorem IsL.lst {led : Led} {l : List V} : IsL led (.lst l) l := .inl rfl
theorem IsL.own {led : Led} {l : List V} {a : Addr} (h : led a = some (.list l)) : IsL led (.own a) l := .inr ⟨a, rfl, h⟩
section
variable {env : Env} {bg : Bt} {Z : Zt} {m : Loc} {led : Led} {h : Heap} {v : Value} {x : V} {l : List V}
theorem IsL.at (i : IsL led x l) (zk : ∀ a o, Z.ob a = some o → h.get? a = some o) (lk : ∀ a ao, led a = some ao → ∃ o, h.get? a = some o ∧ LR Z o ao) (r : R Z v x) :
    ∃ a vs n, v = .ref a ∧ h.get? a = some { cls := .type "list", data := .seq vs.toArray n } ∧ Rs Z vs l := by
  rcases i with rfl | ⟨a, rfl, e⟩
  · cases r.inv with
    | mk _ _ _ ez rs => exact ⟨_, _, _, rfl, zk _ _ ez, rs⟩
  · cases r.inv
    obtain ⟨o, ho, vs, n, rfl, rs⟩ := lk a _ e
    exact ⟨_, _, _, rfl, ho, rs⟩
theorem isList {a : Addr} {vs : Array Value} {n : Nat} (ho : h.get? a = some { cls := .type "list", data := .seq vs n }) : h.IsList a vs := ⟨_, ho, rfl, n, rfl⟩
end
section
variable {c : Cx} {m : Loc} {led : Led} {bg : Bt} {Z : Zt} {s : Shared} {Q : V → Loc → Led → Prop}
theorem Post.lst {vs : List Value} {l : List V} (S : St c.env bg Z m led s) (r : Rs Z vs l) (q : Q (.lst l) m led) : Post c bg R s Z Q (.ref s.heap.objs.size) { s with heap := s.heap.push { cls := .type "list", data := .seq vs.toArray } } :=
  have le := zup_le (Z := Z) ({ cls := .type "list", data := .seq vs.toArray } : Obj) (S.zlt (Nat.le_refl _))
  ⟨.lst l, m, led, _, le, rfl, ⟨S.allocZ rfl (.inl ⟨_, _, rfl, .inr rfl⟩), S.tk.zup⟩, .lst (zup_self ..) (r.mono le), q⟩
theorem Post.tup {vs : List Value} {l : List V} (S : St c.env bg Z m led s) (r : Rs Z vs l) (q : Q (.tup l) m led) : Post c bg R s Z Q (.ref s.heap.objs.size) { s with heap := s.heap.push { cls := .type "tuple", data := .seq vs.toArray } } :=
  have le := zup_le (Z := Z) ({ cls := .type "tuple", data := .seq vs.toArray } : Obj) (S.zlt (Nat.le_refl _))
  ⟨.tup l, m, led, _, le, rfl, ⟨S.allocZ rfl (.inl ⟨_, _, rfl, .inl rfl⟩), S.tk.zup⟩, .tup (zup_self ..) (r.mono le), q⟩
theorem Post.own {vs : List Value} {l : List V} (S : St c.env bg Z m led s) (r : Rs Z vs l) (q : ∀ a, led a = none → Q (.own a) m (upd led a (.list l))) : Post c bg R s Z Q (.ref s.heap.objs.size) { s with heap := s.heap.push { cls := .type "list", data := .seq vs.toArray } } :=
  ⟨.own _, m, _, Z, Zle.refl _, rfl, ⟨S.allocL rfl (LR.ofList r), S.tk⟩, .own _, q _ (S.llt (Nat.le_refl _))⟩
end
section
variable {c : Cx} {m : Loc} {led : Led} {x y : V} {l k : List V} {Q : V → Loc → Led → Prop} {pos : Pos}
theorem ca_len (i : IsL led x l) (hl : l.length ≤ 16777216) (q : Q (.int l.length) m led) : CA c (.builtin "len") [x] [] m led Q := by
  refine ca_1 fun bg s Z a1 B S r1 => ?_
  obtain ⟨a, vs, n, rfl, ho, rs⟩ := i.at S.zk S.lk r1
  have hlen := rs.length
  refine Calls.call_len_list (isList ho) (by rw [List.size_toArray, hlen]; omega) ?_
  rw [List.size_toArray, hlen]
  have S1 : St c.env bg Z m led { s with toks := s.toks + 1 } := ⟨S.toSh, S.tk.mono (Nat.le_succ _)⟩
  exact (Post.int S1 q).up (Zle.refl _) rfl
theorem src_isl {prog : Program} {w : World} {A : Around} (i : IsL led x l) : Src prog w A x l (fun led' => IsL led' x l) := by
  rcases i with rfl | ⟨a, rfl, e⟩
  · intro s Z led a zk lk _ r
    refine wpAny_mono (src_list (prog := prog) (w := w) (A := A) s Z led a zk lk True.intro r) (fun it s' p => ?_) fun _ _ e => e
    obtain ⟨I, J, e1, IT, r1, r2, r3, r4⟩ := p
    exact ⟨I, J, e1, fun A' hA => ⟨fun i d s Z led t hi zk lk _ j => (IT A' hA).item i d s Z led t hi zk lk True.intro j, fun s Z led zk lk _ j => (IT A' hA).fin s Z led zk lk True.intro j, (IT A' hA).self, (IT A' hA).cls, (IT A' hA).frame⟩, r1, r2, r3, r4⟩
  · intro s Z led b zk lk i r
    have get : ∀ {led : Led}, IsL led (.own a) l → led a = some (.list l) := fun {led} i => by
      rcases i with q | ⟨_, q, e⟩
      · cases q
      · cases q; exact e
    refine wpAny_mono (src_own (prog := prog) (w := w) (A := A) s Z led b zk lk (get i) r) (fun it s' p => ?_) fun _ _ e => e
    obtain ⟨I, J, e1, IT, r1, r2, r3, r4⟩ := p
    exact ⟨I, J, e1, fun A' hA => ⟨fun i d s Z led t hi zk lk o j => (IT A' hA).item i d s Z led t hi zk lk (get o) j, fun s Z led zk lk o j => (IT A' hA).fin s Z led zk lk (get o) j, (IT A' hA).self, (IT A' hA).cls, (IT A' hA).frame⟩, r1, r2, r3, r4⟩
theorem ca_append {a : Addr} (e : led a = some (.list l)) (hl : l.length ≤ 16777216) (q : Q .none m (upd led a (.list (l ++ [y])))) : CA c (.builtin "list.append") [.own a, y] [] m led Q := by
  refine ca_2 fun bg s Z a1 a2 B S r1 r2 => ?_
  cases r1.inv
  obtain ⟨o, ho, vs, n, rfl, rs⟩ := S.lk a _ e
  refine append_at ho (fun h' hs' ho' => ?_) (by rw [List.size_toArray, rs.length, sizeLine_eq]; omega)
  exact ⟨.none, m, _, Z, Zle.refl _, rfl, ⟨S.change e ho' hs' (ao' := .list (l ++ [y])) (by rw [List.push_toArray]; exact LR.ofList (rs.append (.cons r2 .nil))), S.tk⟩, .none, q⟩
theorem Rs.snoc {Z : Zt} {vs : List Value} {l : List V} (r : Rs Z vs (l ++ [y])) : ∃ ws v, vs = ws ++ [v] ∧ Rs Z ws l ∧ R Z v y := by
  induction l generalizing vs with
  | nil =>
    cases r with
    | cons r1 r2 => cases r2; exact ⟨[], _, rfl, .nil, r1⟩
  | cons z l ih =>
    cases r with
    | cons r1 r2 =>
      obtain ⟨ws, v, rfl, h1, h2⟩ := ih r2
      exact ⟨_ :: ws, v, rfl, .cons r1 h1, h2⟩
theorem ca_pop {a : Addr} (e : led a = some (.list (l ++ [y]))) (hl : l.length ≤ 16777000) (q : Q y m (upd led a (.list l))) : CA c (.builtin "list.pop") [.own a] [] m led Q := by
  refine ca_1 fun bg s Z a1 B S r1 => ?_
  cases r1.inv
  obtain ⟨o, ho, vs, n, rfl, rs⟩ := S.lk a _ e
  obtain ⟨ws, v, rfl, r1, r2⟩ := rs.snoc
  refine call_meets PySem.F.slot_list_pop ⟨_, ho, rfl⟩ PySem.F.entry_list_pop (PySem.F.args_list_pop_1 _) (PySem.MeetsSeq.list_pop_last a _ n v (by simp) (by rw [List.size_toArray, List.length_append, r1.length, sizeLine_eq]; simp; omega)) ⟨ho, ?_⟩
  have D' := get?_update_seq ho fun xs => xs.eraseIdxIfInBounds ((ws ++ [v]).toArray.size - 1)
  refine ⟨y, m, _, Z, Zle.refl _, rfl, ⟨S.change e D' (Heap.SameBut.update ..) (ao' := .list l) ?_, S.tk⟩, r2, q⟩
  have : (ws ++ [v]).toArray.eraseIdxIfInBounds ((ws ++ [v]).toArray.size - 1) = ws.toArray := by
    have hn : (ws ++ [v]).toArray.size - 1 = ws.length := by simp
    rw [hn]
    simp only [Array.eraseIdxIfInBounds, List.size_toArray]
    rw [dif_pos (by simp)]
    apply Array.ext'
    simp [List.eraseIdx_eq_take_drop_succ]
  rw [this]
  exact LR.ofList r1
noncomputable def PlainSub (i : Expr) : Prop := ∀ o b, ∃ vs, subscripted i false o b = operate vs (getItem o b)
noncomputable def Subbed (led : Led) (x : V) : Prop := (∃ l, IsL led x l) ∨ (∃ l, x = .tup l) ∨ ∃ y, x = .str y
theorem Subbed.at {bg : Bt} {Z : Zt} {env : Env} {s : Shared} {v : Value} (b : Subbed led x) (S : St env bg Z m led s) (r : R Z v x) : ∃ (T id : String), typeLookup (.type T) "__getitem__" = pure (some (.builtin id)) ∧ s.TypeIs v T := by
  rcases b with ⟨l, i⟩ | ⟨l, rfl⟩ | ⟨y, rfl⟩
  · obtain ⟨a, vs, n, rfl, ho, _⟩ := i.at S.zk S.lk r
    exact ⟨"list", _, PySem.F.slot_list_getitem.lookup, ⟨_, ho, rfl⟩⟩
  · cases r.inv with
    | mk _ _ _ ez rs => exact ⟨"tuple", _, PySem.F.slot_tuple_getitem.lookup, ⟨_, S.zk _ _ ez, rfl⟩⟩
  · cases r.inv
    exact ⟨"str", _, PySem.F.slot_str_getitem.lookup, typeIs_str _ _ _⟩
noncomputable abbrev SubR (c : Cx) (Q : V → Loc → Led → Prop) (x y : V) (m : Loc) (led : Led) : Prop := Subbed led x ∧ A2 c R getItem x y m led Q
noncomputable abbrev SubL (c : Cx) (i : Expr) (Q : V → Loc → Led → Prop) (x : V) (m : Loc) (led : Led) : Prop := EV c i m led (SubR c Q x)
theorem ev_sub {o i : Expr} (h : EV c o m led (SubL c i Q)) (hp : PlainSub i) : EV c (.Subscript o i pos) m led Q := by
  intro bg s Z B S
  rw [eval_Subscript]
  refine wpAny_bind (wpAny_mono (h bg s Z B S) (fun o s₁ p => ?_) fun _ _ e => e)
  obtain ⟨xv, m₁, led₁, Z₁, z₁, e₁, S₁, r₁, q⟩ := p
  refine wpAny_bind (wpAny_holding (wpAny_mono (q bg s₁ Z₁ B S₁) (fun b s₂ p => wpAny_bind (wpAny_standAt ?_)) fun _ _ e => e))
  obtain ⟨yv, m₂, led₂, Z₂, z₂, e₂, S₂, r₂, sb, q⟩ := p
  obtain ⟨T, id, hl, hT⟩ := sb.at S₂ (r₁.mono z₂)
  refine wpAny_bind ?_
  rw [getitemInPython_of_ne hT.not_modules]
  refine wpAny_bind (wpAny_specialOf hT hl (wpAny_pure ?_))
  obtain ⟨vs, e⟩ := hp o b
  rw [e]
  refine wpAny_bind (wpAny_operating (wpAny_mono (q bg s₂ Z₂ o b B S₂ (r₁.mono z₂) r₂) (fun r s₃ p => wpAny_bind (wpAny_letTemporaryGo (wpAny_pure ((p.up z₂ e₂).up z₁ e₁)))) fun _ _ e => e))
theorem op_item_list {i : Int} {k : Nat} (il : IsL led x l) (hy : IsI_ y i) (hk : i = k) (hl : l.length ≤ 16777216) {d : V} (e : l[k]? = some d) (q : Q d m led) : A2 c R getItem x y m led Q := by
  intro bg s Z a b B S ra rb
  obtain ⟨u, rfl⟩ := hy.of rb
  obtain ⟨a, vs, n, rfl, ho, rs⟩ := il.at S.zk S.lk ra
  obtain ⟨v, hv, rv⟩ := rs.get e
  have hlt := (List.getElem?_eq_some_iff.mp e).1
  subst hk
  exact wpAny_getItem_list (isList ho) (by omega) (by omega) (by simpa using hv) (Post.same S rv q)
theorem op_item_tup {i : Int} {k : Nat} (hy : IsI_ y i) (hk : i = k) (hl : l.length ≤ 16777216) {d : V} (e : l[k]? = some d) (q : Q d m led) : A2 c R getItem (.tup l) y m led Q := by
  intro bg s Z a b B S ra rb
  obtain ⟨u, rfl⟩ := hy.of rb
  cases ra.inv with
  | mk a vs n ez rs =>
    obtain ⟨v, hv, rv⟩ := rs.get e
    have hlt := (List.getElem?_eq_some_iff.mp e).1
    have hlen := rs.length
    subst hk
    exact PyProof.Rows.getItem_tuple (j := k) ⟨_, S.zk _ _ ez, rfl, _, rfl⟩ (by omega) (by omega) (by rw [seqIndex_of (by omega) (by rw [List.size_toArray]; omega)]; simp) (by simpa using hv) (Post.same S rv q)
theorem op_item_str {i : Int} {k : Nat} {t : List Nat} (hy : IsI_ y i) (hk : i = k) (hl : t.length ≤ 16777216) {d : Nat} (e : t[k]? = some d) (q : Q (.str (tx [d])) m led) : A2 c R getItem (.str (tx t)) y m led Q := by
  intro bg s Z a b B S ra rb
  obtain ⟨u, rfl⟩ := hy.of rb
  have hlt := (List.getElem?_eq_some_iff.mp e).1
  subst hk
  cases ra.inv
  refine P.getItem_str (c := d) ?_ ?_ (Post.str S q)
  · rw [decide_eq_false (by omega), decide_eq_false (by omega)]; rfl
  · rw [seqIndex_of (by omega) (by rw [tx_length]; omega)]
    simpa [tx] using e
noncomputable def pick {α : Type} (l : List α) (lo hi st : Option Int) : List α := (sliceRange (sliceBounds lo hi st l.length).1 (sliceBounds lo hi st l.length).2.1 (sliceBounds lo hi st l.length).2.2).filterMap (l[·]?)
theorem Rs.pick {Z : Zt} {vs : List Value} (r : Rs Z vs l) (lo hi st : Option Int) : Rs Z (Mine.pick vs lo hi st) (Mine.pick l lo hi st) := by
  unfold Mine.pick
  rw [r.length]
  induction sliceRange (sliceBounds lo hi st l.length).1 (sliceBounds lo hi st l.length).2.1 (sliceBounds lo hi st l.length).2.2 with
  | nil => exact .nil
  | cons i is ih =>
    simp only [List.filterMap_cons]
    cases e : l[i]? with
    | none =>
      have : vs[i]? = none := by rw [List.getElem?_eq_none_iff] at e ⊢; rw [r.length]; exact e
      rw [this]; exact ih
    | some d =>
      obtain ⟨v, hv, rv⟩ := r.get e
      rw [hv]; exact .cons rv ih
noncomputable def RP (_ : Zt) (v : Value) (k : Option Int) : Prop := IsPart v k
noncomputable abbrev EP (c : Cx) (e : Option Expr) (m : Loc) (led : Led) (Q : Option Int → Loc → Led → Prop) : Prop := AW c RP (evalPart e c.env) m led Q
theorem ep_none {Q : Option Int → Loc → Led → Prop} (q : Q none m led) : EP c none m led Q := fun bg s Z B S => wpAny_pure (a := Value.none) (Post.same S (show IsPart _ _ from .none) q)
inductive PartOk (Q : Option Int → Loc → Led → Prop) (x : V) (m : Loc) (led : Led) : Prop
  | mk (i : Int) : IsI_ x i → Q (some i) m led → PartOk Q x m led
theorem ep_some {e : Expr} {Q : Option Int → Loc → Led → Prop} (h : EV c e m led (PartOk Q)) : EP c (some e) m led Q := by
  intro bg s Z B S
  rw [evalPart_some]
  refine wpAny_mono (h bg s Z B S) (fun v s' p => ?_) fun _ _ e => e
  obtain ⟨x, m', led', Z', z', e', S', r, i, hi, q⟩ := p
  obtain ⟨t, rfl⟩ := hi.of r
  exact ⟨some i, m', led', Z', z', e', S', .int i t, q⟩
noncomputable def GS (c : Cx) (x : V) (lo hi st : Option Int) (m : Loc) (led : Led) (Q : V → Loc → Led → Prop) : Prop :=
  ∀ bg s Z a sl vl vu vs, Base c.K bg → St c.env bg Z m led s → R Z a x → s.heap.IsSliceOf sl vl vu vs → IsPart vl lo → IsPart vu hi → IsPart vs st → wpAny (model c.prog c.w) c.A (getItem a (.ref sl)) (Post c bg R s Z Q) NoE s
theorem ev_slice {o : Expr} {lower upper step : Option Expr} {p1 : Pos} (h : EV c o m led fun x m₁ led₁ => EP c lower m₁ led₁ fun lo m₂ led₂ => EP c upper m₂ led₂ fun hi m₃ led₃ => EP c step m₃ led₃ fun st m₄ led₄ => Subbed led₄ x ∧ GS c x lo hi st m₄ led₄ Q)
    (hp : PlainSub (.Slice lower upper step p1)) : EV c (.Subscript o (.Slice lower upper step p1) pos) m led Q := by
  intro bg s Z B S
  rw [eval_Subscript]
  refine wpAny_bind (wpAny_mono (h bg s Z B S) (fun o s₁ p => ?_) fun _ _ e => e)
  obtain ⟨xv, m₁, led₁, Z₁, z₁, e₁, S₁, r₁, q⟩ := p
  refine wpAny_bind (wpAny_holding (wpAny_Slice (wpAny_mono (q bg s₁ Z₁ B S₁) (fun l s₂ p => ?_) fun _ _ e => e)))
  obtain ⟨lo, m₂, led₂, Z₂, z₂, e₂, S₂, r₂, q⟩ := p
  refine wpAny_mono (q bg s₂ Z₂ B S₂) (fun u s₃ p => ?_) fun _ _ e => e
  obtain ⟨hi, m₃, led₃, Z₃, z₃, e₃, S₃, r₃, q⟩ := p
  refine wpAny_mono (q bg s₃ Z₃ B S₃) (fun st s₄ p => ?_) fun _ _ e => e
  obtain ⟨sti, m₄, led₄, Z₄, z₄, e₄, S₄, r₄, sb, q⟩ := p
  refine wpAny_bind (wpAny_standAt ?_)
  generalize hsl : ({ cls := .type "slice", data := .fields #[l, u, st] } : Obj) = so
  have S₅ : St c.env bg Z₄ m₄ led₄ { s₄ with heap := s₄.heap.push so } := ⟨S₄.keep fun _ _ e => Heap.get?_push_of_some _ e, S₄.tk⟩
  have hs : (s₄.heap.push so).IsSliceOf s₄.heap.objs.size l u st := ⟨so, Heap.get?_push_size _ (by rw [← hsl]; rfl), by rw [← hsl], by rw [← hsl]⟩
  have rx := r₁.mono (z₂.trans (z₃.trans z₄))
  obtain ⟨T, id, hl, hT⟩ := sb.at S₅ rx
  refine wpAny_bind ?_
  rw [getitemInPython_of_ne hT.not_modules]
  refine wpAny_bind (wpAny_specialOf hT hl (wpAny_pure ?_))
  obtain ⟨vs, e⟩ := hp o (.ref s₄.heap.objs.size)
  rw [e]
  refine wpAny_bind (wpAny_operating (wpAny_mono (q bg _ Z₄ o _ l u st B S₅ rx hs r₂ r₃ r₄) (fun r s₆ p => wpAny_bind (wpAny_letTemporaryGo (wpAny_pure ?_))) fun _ _ e => e))
  exact (((Post.up (s := s₄) (Zle.refl _) rfl p).up z₄ e₄).up z₃ e₃ |>.up z₂ e₂).up z₁ e₁
theorem gs_list {lo hi st : Option Int} (il : IsL led x l) (hl : l.length ≤ 16777216) (h0 : st ≠ some 0) (q : Q (.lst (pick l lo hi st)) m led) : GS c x lo hi st m led Q := by
  intro bg s Z a sl vl vu vs B S ra hs pl pu ps
  obtain ⟨a, ws, n, rfl, ho, rs⟩ := il.at S.zk S.lk ra
  refine wpAny_getItem_list_slice (isList ho) hs pl pu ps h0 ?_ (by rw [List.size_toArray, rs.length, sizeLine_eq]; exact hl)
  have e : slicePick ws.toArray lo hi st = (pick ws lo hi st).toArray := by unfold slicePick pick; simp
  rw [e]
  exact Post.lst S (rs.pick lo hi st) q
end
end Mine
end
section
open PySem PySem.W PySem.Calls PyProof.Rows
set_option Elab.async false
set_option maxRecDepth 100000
set_option linter.unusedVariables false
namespace Mine
noncomputable def allNews (h : Heap) (L : Addr) : List (Addr × Obj) := (List.range h.objs.size).filterMap fun a => if a = L then none else (h.get? a).map fun o => (a, o)
theorem allNews_mem {h : Heap} {L a : Addr} {o : Obj} (hn : a ≠ L) (e : h.get? a = some o) : (a, o) ∈ allNews h L := by
  unfold allNews
  rw [List.mem_filterMap]
  exact ⟨a, List.mem_range.mpr (Heap.lt_size e), by rw [if_neg hn, e]; rfl⟩
noncomputable def noHeap : Heap := { objs := #[] }
theorem noHeap_get (a : Addr) : noHeap.get? a = none := by
  cases e : noHeap.get? a with
  | none => rfl
  | some o => exact absurd (Heap.lt_size e) (Nat.not_lt_zero _)
section
variable {env : Env} {bg : Bt} {Z : Zt} {m : Loc} {led : Led} {h : Heap}
theorem Sh.keepL (S : Sh env bg Z m led h) {h' : Heap} {mr : Str → Option Value} (hn : h.Ns env.locals mr) (hn' : h'.Ns env.locals mr) (k : ∀ a o, a ≠ env.locals → h.get? a = some o → h'.get? a = some o) : Sh env bg Z m led h' where
  bgk a o e := k a o (fun q => by rw [q, S.dloc.1] at e; cases e) (S.bgk a o e)
  zk a o e := k a o (fun q => by rw [q, S.dloc.2.1] at e; cases e) (S.zk a o e)
  loc := by
    obtain ⟨mr', hn1, hr⟩ := S.loc
    refine ⟨mr, hn', fun x v e l => ?_⟩
    rw [← hn1.agree hn x]
    exact hr x v e l
  cel x a e := by
    obtain ⟨r, ⟨o, ho, hd⟩, hr⟩ := S.cel x a e
    exact ⟨r, ⟨o, k a o (fun q => S.dloc.2.2 x (q ▸ e)) ho, hd⟩, hr⟩
  lk a ao e := let ⟨o, ho, hr⟩ := S.lk a ao e; ⟨o, k a o (S.dled a ao e).2.2.1 ho, hr⟩
  dled := S.dled
  dloc := S.dloc
  dcel := S.dcel
  icel := S.icel
  zc := S.zc
theorem Sh.fr (S : Sh env bg Z m led h) : ∃ mr, Fr noHeap env.locals h mr ∧ News noHeap env.locals h (allNews h env.locals) ∧
    ∀ h' news, Fr noHeap env.locals h' mr → News noHeap env.locals h' (news ++ allNews h env.locals) → Sh env bg Z m led h' := by
  obtain ⟨mr, hn, hr⟩ := S.loc
  refine ⟨mr, ⟨hn, fun b o e => (by rw [noHeap_get] at e; cases e), Nat.zero_le _⟩, fun p hp => ?_, fun h' news F N => ?_⟩
  · unfold allNews at hp
    rw [List.mem_filterMap] at hp
    obtain ⟨a, _, e⟩ := hp
    split at e
    · cases e
    · rename_i hne
      cases w : h.get? a with
      | none => rw [w] at e; cases e
      | some o => rw [w] at e; cases e; exact ⟨w, hne, noHeap_get _⟩
  · exact S.keepL hn F.ns fun a o hne e => (N (a, o) (List.mem_append_right _ (allNews_mem hne e))).1
end
theorem Sh.zadd {env : Env} {bg : Bt} {Z : Zt} {m : Loc} {led : Led} {h : Heap} (S : Sh env bg Z m led h) {a : Addr} {o : Obj} (ho : h.get? a = some o) (zn : Z.ob a = none) (bn : bg a = none) (ln : led a = none) (nl : a ≠ env.locals) (nc : ∀ x, env.cells.lookup x ≠ some a) (hd : DataObj o) : Sh env bg (zup Z a o) m led h :=
  have le := zup_le (Z := Z) o zn
  { bgk := S.bgk
    zk := fun b x q => by
      unfold zup at q
      dsimp only at q
      split at q
      · rename_i z; subst z; cases q; exact ho
      · exact S.zk b x q
    loc := let ⟨mr, hn, hr⟩ := S.loc; ⟨mr, hn, fun x v e l => let ⟨r, e1, e2⟩ := hr x v e l; ⟨r, e1, e2.mono le⟩⟩
    cel := fun x a e => let ⟨r, hc, hr⟩ := S.cel x a e; ⟨r, hc, fun v e l => let ⟨r', e1, e2⟩ := hr v e l; ⟨r', e1, e2.mono le⟩⟩
    lk := fun b ao q => let ⟨x, hx, hr⟩ := S.lk b ao q; ⟨x, hx, hr.mono le⟩
    dled := fun b ao q => by
      obtain ⟨h1, h2, h3⟩ := S.dled b ao q
      have : b ≠ a := fun z => by rw [z, ln] at q; cases q
      exact ⟨h1, by simp [zup, this, h2], h3⟩
    dloc := ⟨S.dloc.1, by simp [zup, Ne.symm nl, S.dloc.2.1], S.dloc.2.2⟩
    dcel := fun x b q => ⟨(S.dcel x b q).1, by
      have : b ≠ a := fun z => nc x (z ▸ q)
      simp [zup, this, (S.dcel x b q).2]⟩
    icel := S.icel
    zc := fun b x q => by
      unfold zup at q
      dsimp only at q
      split at q
      · cases q; exact hd
      · exact S.zc b x q }
section
variable {c : Cx} {m : Loc} {led : Led} {x y : V} {l k : List V} {Q : V → Loc → Led → Prop} {pos : Pos}
theorem op_add_list (il : IsL led x l) (ik : IsL led y k) (hz : l.length + k.length ≤ 16777216) (q : Q (.lst (l ++ k)) m led) : A2 c R (binaryOp .Add) x y m led Q := by
  intro bg s Z a b B S ra rb
  obtain ⟨a, vs, n, rfl, ho, rs⟩ := il.at S.zk S.lk ra
  obtain ⟨b, ws, n2, rfl, ho2, rs2⟩ := ik.at S.zk S.lk rb
  refine concat_meets ⟨_, ho, rfl⟩ ⟨_, ho2, rfl⟩ noFill_list_add seq_list_add PySem.F.slot_list_add PySem.F.entry_list_add (PySem.F.args_list_add_2 _ _) (list_addW a b vs.toArray ws.toArray n n2 none none #[] #[] (by rw [List.size_toArray, List.size_toArray, rs.length, rs2.length, sizeLine_eq]; exact hz)) ⟨ho, ho2, ?_⟩
  rw [show vs.toArray ++ ws.toArray = (vs ++ ws).toArray by simp]
  exact Post.lst S (rs.append rs2) q
theorem op_add_list_own (il : IsL led x l) (ik : IsL led y k) (hz : l.length + k.length ≤ 16777216) (q : ∀ a, led a = none → Q (.own a) m (upd led a (.list (l ++ k)))) : A2 c R (binaryOp .Add) x y m led Q := by
  intro bg s Z a b B S ra rb
  obtain ⟨a, vs, n, rfl, ho, rs⟩ := il.at S.zk S.lk ra
  obtain ⟨b, ws, n2, rfl, ho2, rs2⟩ := ik.at S.zk S.lk rb
  refine concat_meets ⟨_, ho, rfl⟩ ⟨_, ho2, rfl⟩ noFill_list_add seq_list_add PySem.F.slot_list_add PySem.F.entry_list_add (PySem.F.args_list_add_2 _ _) (list_addW a b vs.toArray ws.toArray n n2 none none #[] #[] (by rw [List.size_toArray, List.size_toArray, rs.length, rs2.length, sizeLine_eq]; exact hz)) ⟨ho, ho2, ?_⟩
  rw [show vs.toArray ++ ws.toArray = (vs ++ ws).toArray by simp]
  exact Post.own S (rs.append rs2) q
theorem nums_of {Z : Zt} {vs : List Value} {ns : List Int} (h : IntsAre vs ns) : Rs Z vs (ns.map .num) := by
  induction h with
  | nil => exact .nil
  | cons n t _ ih => exact .cons (.num n t) ih
inductive Nums : List V → List Int → Prop
  | nil : Nums [] []
  | cons {x : V} {n : Int} {l : List V} {ns : List Int} : IsI_ x n → Nums l ns → Nums (x :: l) (n :: ns)
theorem Nums.are {Z : Zt} {vs : List Value} {ns : List Int} (h : Nums l ns) (r : Rs Z vs l) : IntsAre vs ns := by
  induction h generalizing vs with
  | nil => cases r; exact .nil
  | cons a _ ih =>
    cases r with
    | cons r1 r2 =>
      obtain ⟨t, rfl⟩ := a.of r1
      exact .cons _ _ (ih r2)
theorem Nums.int : ∀ ns : List Int, Nums (ns.map .int) ns
  | [] => .nil
  | n :: ns => .cons .int (Nums.int ns)
theorem Nums.num : ∀ ns : List Int, Nums (ns.map .num) ns
  | [] => .nil
  | n :: ns => .cons .num (Nums.num ns)
theorem Nums.length {ns : List Int} (h : Nums l ns) : l.length = ns.length := by
  induction h with
  | nil => rfl
  | cons _ _ ih => simp [ih]
theorem op_mul_list {i : Int} {n : Nat} (il : IsL led x l) (hy : IsI_ y i) (hi : i = n) (hz : l.length * n ≤ 16777216) (hn : n ≤ 1000) (q : Q (.lst (List.replicate n l).flatten) m led) : A2 c R (binaryOp .Mult) x y m led Q := by
  intro bg s Z a b B S ra rb
  obtain ⟨tb, rfl⟩ := hy.of rb
  obtain ⟨a, vs, k, rfl, ho, rs⟩ := il.at S.zk S.lk ra
  have hlen := rs.length
  have hin : i.toNat = n := by omega
  have h0 : 0 ≤ i ∧ i ≤ 1000 := by omega
  have h2 : vs.toArray.size * i.toNat ≤ 16777216 := by rw [List.size_toArray, hlen, hin]; exact hz
  refine wpAny_binaryOp_repeat_ref (T := "list") (U := "int") (by decide) ⟨_, ho, rfl⟩ (fun s' => typeIs_int s' _ _) noFill_list_mul F.fills_int_mul F.slot_int_rmul repeat_list F.slot_int_index.lookup
    (call_meets F.slot_int_rmul (typeIs_int s _ _) F.entry_int_rmul (F.args_int_rmul_2 _ _) (int___rmul___int_list _ _ a vs.toArray k)
      ⟨ho, rfl, ⟨_, ho, rfl⟩, call_meets F.slot_list_mul ⟨_, ho, rfl⟩ F.entry_list_mul (F.args_list_mul_2 _ _)
        (AutoListH.list___mul___list_int_3 a vs.toArray k i tb (by simp [Builtin.List.listFitsIndex]; omega) (by omega) (by simp [Builtin.List.listTooLong, sizeLine] at h2 ⊢; omega)) ⟨ho, ?_⟩⟩)
  have e : List.foldl (fun x1 x2 => x1 ++ x2) #[] (List.replicate (if vs.toArray.isEmpty = true then 0 else i.toNat) vs.toArray) = (List.replicate n vs).flatten.toArray := by
    have gen : ∀ (n : Nat) (acc : Array Value), List.foldl (fun x1 x2 => x1 ++ x2) acc (List.replicate n vs.toArray) = acc ++ (List.replicate n vs).flatten.toArray := by
      intro n
      induction n with
      | zero => intro acc; simp
      | succ n ih => intro acc; rw [List.replicate_succ, List.foldl_cons, ih, List.replicate_succ, List.flatten_cons]; simp
    rw [gen, hin]
    cases vs with
    | nil => simp
    | cons v vs => simp
  rw [e]
  refine Post.lst S ?_ q
  clear hz hn e q h2 hin hi
  induction n with
  | zero => exact .nil
  | succ n ih => rw [List.replicate_succ, List.replicate_succ]; exact rs.append ih
end
mutual
noncomputable def pd : V → PyData
  | .int i => .int i
  | .num i => .int i
  | .str x => .str x
  | .txt x => .str x
  | .bool b => .bool b
  | .tup l => .tuple (pds l)
  | .lst l => .list (pds l)
  | _ => .none
noncomputable def pds : List V → List PyData
  | [] => []
  | x :: l => pd x :: pds l
end
mutual
noncomputable def pOk : V → Bool
  | .int _ => true
  | .num _ => true
  | .str x => PyData.strOk x
  | .txt x => PyData.strOk x
  | .tup l => pOks l
  | .lst l => pOks l
  | _ => false
noncomputable def pOks : List V → Bool
  | [] => true
  | x :: l => pOk x && pOks l
end
mutual
theorem reads_of {Z : Zt} {h : Heap} (zk : ∀ a o, Z.ob a = some o → h.get? a = some o) : ∀ {v : Value} {x : V}, R Z v x → pOk x = true → ∃ as, Reads h v (pd x) as
  | _, _, .int i t _, _ => ⟨_, by simp only [pd]; exact Reads.int i t⟩
  | _, _, .num i t, _ => ⟨_, by simp only [pd]; exact Reads.int i t⟩
  | _, _, .str x t _, _ => ⟨_, by simp only [pd]; exact Reads.str x t⟩
  | _, _, .txt x t, _ => ⟨_, by simp only [pd]; exact Reads.str x t⟩
  | _, _, .tup (l := l) e r, hk => by
    obtain ⟨as, q⟩ := readsAll_of zk r (by simpa [pOk] using hk)
    simp only [pd]
    exact ⟨as, reads_tuple_at (zk _ _ e) rfl rfl (by simpa using q)⟩
  | _, _, .lst (l := l) e r, hk => by
    obtain ⟨as, q⟩ := readsAll_of zk r (by simpa [pOk] using hk)
    simp only [pd]
    exact ⟨_, reads_list_at (zk _ _ e) rfl rfl (by simpa using q)⟩
  | _, _, .none, hk => by simp [pOk] at hk
  | _, _, .bool _, hk => by simp [pOk] at hk
  | _, _, .bytes _ _, hk => by simp [pOk] at hk
  | _, _, .rng _, hk => by simp [pOk] at hk
  | _, _, .own _, hk => by simp [pOk] at hk
  | _, _, .obj _, hk => by simp [pOk] at hk
theorem readsAll_of {Z : Zt} {h : Heap} (zk : ∀ a o, Z.ob a = some o → h.get? a = some o) : ∀ {vs : List Value} {l : List V}, Rs Z vs l → pOks l = true → ∃ as, ReadsAll h vs (pds l) as
  | _, _, .nil, _ => ⟨_, by simp only [pds]; exact ReadsAll.nil⟩
  | _, _, .cons a r, hk => by
    simp only [pOks, Bool.and_eq_true] at hk
    obtain ⟨as, q⟩ := reads_of zk a hk.1
    obtain ⟨bs, p⟩ := readsAll_of zk r hk.2
    simp only [pds]
    exact ⟨_, ReadsAll.cons q p⟩
end
mutual
theorem lay_of : ∀ x : V, pOk x = true → (pd x).canLay0 = true
  | .int i, _ => by simp [pd, PyData.canLay0]
  | .num i, _ => by simp [pd, PyData.canLay0]
  | .str x, h => by simpa [pd, PyData.canLay0, pOk] using h
  | .txt x, h => by simpa [pd, PyData.canLay0, pOk] using h
  | .tup l, h => by simp only [pd, PyData.canLay0]; exact lays_of l (by simpa [pOk] using h)
  | .lst l, h => by simp only [pd, PyData.canLay0]; exact lays_of l (by simpa [pOk] using h)
  | .none, h => by simp [pOk] at h
  | .bool _, h => by simp [pOk] at h
  | .bytes _, h => by simp [pOk] at h
  | .rng _ _, h => by simp [pOk] at h
  | .own _, h => by simp [pOk] at h
  | .obj _, h => by simp [pOk] at h
theorem lays_of : ∀ l : List V, pOks l = true → PyData.canLayAll0 (pds l) = true
  | [], _ => by simp [pds, PyData.canLayAll0]
  | x :: l, h => by
    simp only [pOks, Bool.and_eq_true] at h
    simp only [pds, PyData.canLayAll0, lay_of x h.1, lays_of l h.2, Bool.and_self]
end
mutual
theorem eqv_same : ∀ x : V, pOk x = true → PyData.eqv (pd x) (pd x) = true
  | .int i, _ => by simp [pd, PyData.eqv]
  | .num i, _ => by simp [pd, PyData.eqv]
  | .str x, h => by simp [pd, PyData.eqv]
  | .txt x, h => by simp [pd, PyData.eqv]
  | .tup l, h => by simp only [pd, PyData.eqv]; exact eqvs_same l (by simpa [pOk] using h)
  | .lst l, h => by simp only [pd, PyData.eqv]; exact eqvs_same l (by simpa [pOk] using h)
  | .none, h => by simp [pOk] at h
  | .bool _, h => by simp [pOk] at h
  | .bytes _, h => by simp [pOk] at h
  | .rng _ _, h => by simp [pOk] at h
  | .own _, h => by simp [pOk] at h
  | .obj _, h => by simp [pOk] at h
theorem eqvs_same : ∀ l : List V, pOks l = true → PyData.eqvAll (pds l) (pds l) = true
  | [], _ => by simp [pds, PyData.eqvAll]
  | x :: l, h => by
    simp only [pOks, Bool.and_eq_true] at h
    simp only [pds, PyData.eqvAll, eqv_same x h.1, eqvs_same l h.2, Bool.and_self]
end
noncomputable def Plain (l : List V) : Prop := pOks l = true ∧ PyData.depthAll (pds l) ≤ 60
theorem Plain.shaped {l : List V} (h : Plain l) : SeqAt.shaped (.list (pds l)) = true := by
  unfold SeqAt.shaped
  rw [show PyData.canLay0 (.list (pds l)) = true by simp only [PyData.canLay0]; exact lays_of l h.1, Bool.true_and, show PyData.depth (.list (pds l)) = PyData.depthAll (pds l) + 1 by simp only [PyData.depth]]
  have := h.2
  exact decide_eq_true (by omega)
section
variable {c : Cx} {m : Loc} {led : Led} {x y : V} {l k : List V} {Q : V → Loc → Led → Prop} {pos : Pos}
theorem op_eq_list (il : IsL led x l) (ik : IsL led y k) (hl : Plain l) (hk : Plain k) (hu : c.A.units < 9000) (q : Q (.bool (PyData.eqvAll (pds l) (pds k))) m led) : A2 c R (compareOp .Eq) x y m led Q := by
  intro bg s Z a b B S ra rb
  obtain ⟨a, vs, n, rfl, ho, rs⟩ := il.at S.zk S.lk ra
  obtain ⟨b, ws, n2, rfl, ho2, rs2⟩ := ik.at S.zk S.lk rb
  obtain ⟨as, p1⟩ := readsAll_of S.zk rs hl.1
  obtain ⟨bs, p2⟩ := readsAll_of S.zk rs2 hk.1
  exact eq_dataH (reads_list_at ho rfl rfl (by simpa using p1)) (reads_list_at ho2 rfl rfl (by simpa using p2)) hl.shaped hk.shaped (by unfold cLine; omega) (Post.bool S (by simpa [PyData.eqv] using q))
theorem op_ne_list (il : IsL led x l) (ik : IsL led y k) (hl : Plain l) (hk : Plain k) (hu : c.A.units < 9000) (q : Q (.bool (!PyData.eqvAll (pds l) (pds k))) m led) : A2 c R (compareOp .NotEq) x y m led Q := by
  intro bg s Z a b B S ra rb
  obtain ⟨a, vs, n, rfl, ho, rs⟩ := il.at S.zk S.lk ra
  obtain ⟨b, ws, n2, rfl, ho2, rs2⟩ := ik.at S.zk S.lk rb
  obtain ⟨as, p1⟩ := readsAll_of S.zk rs hl.1
  obtain ⟨bs, p2⟩ := readsAll_of S.zk rs2 hk.1
  exact ne_dataH (reads_list_at ho rfl rfl (by simpa using p1)) (reads_list_at ho2 rfl rfl (by simpa using p2)) hl.shaped hk.shaped (by unfold cLine; omega) (Post.bool S (by simpa [PyData.eqv] using q))
theorem op_eq_bytes {a b : Array UInt8} (q : Q (.bool (a.toList == b.toList)) m led) : A2 c R (compareOp .Eq) (.bytes a) (.bytes b) m led Q := fun bg s Z _ _ B S ra rb => by
  cases ra.inv; cases rb.inv; exact eq_bytes (Post.bool S q)
theorem ca_type_list (il : IsL led x l) (q : Q (.obj (.type "list")) m led) : CA c (.type "type") [x] [] m led Q := by
  refine ca_1 fun bg s Z a1 B S r1 => ?_
  obtain ⟨a, vs, n, rfl, ho, rs⟩ := il.at S.zk S.lk r1
  exact call_type_of ⟨_, ho, rfl⟩ (by decide) (Post.same S (.obj _) q)
theorem ca_type_str {y : Str} (q : Q (.obj (.type "str")) m led) : CA c (.type "type") [.str y] [] m led Q := by
  refine ca_1 fun bg s Z a1 B S r1 => ?_
  cases r1.inv
  exact call_type_of (typeIs_str _ _ _) (by decide) (Post.same S (.obj _) q)
theorem ca_lower {t : List Nat} (ha : ∀ c ∈ t, c < 128) (hl : t.length ≤ 100000) (q : Q (.str (tx (t.map lo1))) m led) : CA c (.builtin "str.lower") [.str (tx t)] [] m led Q := by
  refine ca_1 fun bg s Z a1 B S r1 => ?_
  cases r1.inv
  refine SC.lower (fit_lower (by rw [tx_length]; omega)) ?_
  rw [lower_ascii (x := tx t) (by simpa [tx] using ha)]
  have e : (⟨(tx t).cps.map lo1⟩ : Str) = tx (t.map lo1) := by simp [tx]
  rw [e]
  exact Post.str S q
theorem Post.rng {c : Cx} {m : Loc} {led : Led} {bg : Bt} {Z : Zt} {s : Shared} {Q : V → Loc → Led → Prop} {i j : Int} {t u v : Tok} {k : Nat} (S : St c.env bg Z m led s) (q : Q (.rng i j) m led) (hk : s.toks ≤ k) :
    Post c bg R s Z Q (.ref s.heap.objs.size) { s with heap := s.heap.push { cls := .type "range", data := .fields #[.int i t, .int j u, .int 1 v] }, toks := k } :=
  have le := zup_le (Z := Z) ({ cls := .type "range", data := .fields #[.int i t, .int j u, .int 1 v] } : Obj) (S.zlt (Nat.le_refl _))
  ⟨.rng i j, m, led, _, le, rfl, ⟨S.allocZ rfl (.inr ⟨_, rfl, rfl⟩), (S.tk.mono hk).zup⟩, .rng (zup_self ..), q⟩
theorem ca_range1 {i : Int} (hx : IsI_ x i) (q : Q (.rng 0 i) m led) : CA c (.type "range") [x] [] m led Q := by
  refine ca_1 fun bg s Z a1 B S r1 => ?_
  obtain ⟨t, rfl⟩ := hx.of r1
  refine call_range_1 ?_
  exact Post.rng S q (by omega)
theorem ca_range2 {i j : Int} (hx : IsI_ x i) (hy : IsI_ y j) (q : Q (.rng i j) m led) : CA c (.type "range") [x, y] [] m led Q := by
  refine ca_2 fun bg s Z a1 a2 B S r1 r2 => ?_
  obtain ⟨t, rfl⟩ := hx.of r1
  obtain ⟨u, rfl⟩ := hy.of r2
  refine call_range_2 ?_
  exact Post.rng S q (by omega)
theorem ca_tuple (il : IsL led x l) (hl : l.length ≤ 16777216) (q : Q (.tup l) m led) : CA c (.type "tuple") [x] [] m led Q := by
  refine ca_1 fun bg s Z a1 B S r1 => ?_
  obtain ⟨a, vs, n, rfl, ho, rs⟩ := il.at S.zk S.lk r1
  refine call_tuple_list (isList ho) (fun h' hk => ?_) (by rw [List.size_toArray, rs.length, sizeLine_eq]; exact hl)
  have S' : St c.env bg Z m led { s with heap := h' } := ⟨S.keep hk, S.tk⟩
  exact (Post.tup S' rs q).up (Zle.refl _) rfl
theorem pre_sum {vs : List Value} {ns : List Int} {xs : Array (Int × Tok)} (hi : IntsAre vs ns) (e : vs.toArray = intItems xs) : preSum (numAt xs) xs.size = ns.sum := by
  have hns : ns = xs.toList.map (·.1) := by
    rw [← hi.numsOf, ← nums_intItems, ← e]
  have gen : ∀ k, k ≤ xs.size → preSum (numAt xs) k = ((xs.toList.map (·.1)).take k).sum := by
    intro k
    induction k with
    | zero => intro _; simp [preSum]
    | succ k ih =>
      intro hk
      have hlt : k < (xs.toList.map (·.1)).length := by simp; omega
      rw [preSum, ih (by omega), List.take_add_one, List.getElem?_eq_getElem hlt]
      simp [numAt, List.sum_append]
      rw [Array.getElem?_eq_getElem (by omega)]
      simp
  rw [gen _ (Nat.le_refl _), hns]
  congr 1
  exact List.take_of_length_le (by simp)
theorem sum_ints_ {prog : Program} {w : World} {A : Around} {E : Value → Shared → Prop} {s : Shared} {a : Addr} {vs : List Value} {ns : List Int} {Q : Value → Shared → Prop} (hh : A.handled = none) (hl : s.heap.IsList a vs.toArray) (hi : IntsAre vs ns)
    (h : ∀ h' tk t', (∀ b o, s.heap.get? b = some o → h'.get? b = some o) → Q (.int ns.sum t') { s with heap := h', toks := tk }) : wpAny (model prog w) A (call (.builtin "sum") [.ref a]) Q E s := by
  obtain ⟨xs, e⟩ := hi.allInts.items
  rw [e] at hl
  refine sum_intListG hh hl fun h' tk t' k => ?_
  rw [pre_sum hi e]
  exact h h' tk t' k
theorem ca_sum {ns : List Int} (hA : c.A.handled = none) (il : IsL led x l) (hn : Nums l ns) (q : Q (.num ns.sum) m led) : CA c (.builtin "sum") [x] [] m led Q := by
  refine ca_1 fun bg s Z a1 B S r1 => ?_
  obtain ⟨a, vs, n, rfl, ho, rs⟩ := il.at S.zk S.lk r1
  obtain ⟨mr, F, N, back⟩ := S.fr
  refine wpAny_mono (wpAny_toks (sum_ints_ hA (isList ho) (hn.are rs) (Q := fun v s' => ∃ t, v = .int ns.sum t ∧ s' = { s with heap := s'.heap, toks := s'.toks } ∧ Sh c.env bg Z m led s'.heap) fun h' tk t k => ⟨t, rfl, rfl, S.keep k⟩)) (fun v s' p => ?_) fun _ _ e => e
  obtain ⟨⟨t, rfl, e, S'⟩, tk⟩ := p
  exact ⟨.num ns.sum, m, led, Z, Zle.refl _, e, ⟨S', S.tk.mono tk⟩, .num _ t, q⟩
theorem ca_max {ns : List Int} (hA : c.A.handled = none) (il : IsL led x l) (hn : Nums l ns) (h0 : 0 < ns.length) (q : ∀ M, M ∈ ns → (∀ a ∈ ns, a ≤ M) → Q (.num M) m led) : CA c (.builtin "max") [x] [] m led Q := by
  refine ca_1 fun bg s Z a1 B S r1 => ?_
  obtain ⟨a, vs, n, rfl, ho, rs⟩ := il.at S.zk S.lk r1
  obtain ⟨mr, F, N, back⟩ := S.fr
  refine wpAny_mono (wpAny_toks (max_list_N hA F N (isList ho) (hn.are rs) h0 (Q := fun v s' => ∃ M t, v = .int M t ∧ M ∈ ns ∧ (∀ a ∈ ns, a ≤ M) ∧ s' = { s with heap := s'.heap, toks := s'.toks } ∧ Sh c.env bg Z m led s'.heap) fun h' M t tk F' N' h1 h2 => ⟨M, t, rfl, h1, h2, rfl, back h' [] F' N'⟩)) (fun v s' p => ?_) fun _ _ e => e
  obtain ⟨⟨M, t, rfl, h1, h2, e, S'⟩, tk⟩ := p
  exact ⟨.num M, m, led, Z, Zle.refl _, e, ⟨S', S.tk.mono tk⟩, .num M t, q M h1 h2⟩
theorem ca_sorted {ns : List Int} (il : IsL led x l) (hn : Nums l ns) (h64 : l.length < 64) (q : ∀ ns' : List Int, ns'.Perm ns → ns'.Pairwise (· ≤ ·) → Q (.lst (ns'.map .num)) m led) : CA c (.builtin "sorted") [x] [] m led Q := by
  refine ca_1 fun bg s Z a1 B S r1 => ?_
  obtain ⟨a, vs, n, rfl, ho, rs⟩ := il.at S.zk S.lk r1
  refine sorted_ints (isList ho) (hn.are rs) (by rw [rs.length]; exact h64) fun out ns' a1 a2 a3 => ?_
  obtain ⟨e, he⟩ := sortedAll_at s.heap vs out
  have S' : St c.env bg Z m led { s with heap := sortedAll s.heap vs out } := ⟨S.keep fun _ _ => sortedAll_old, S.tk⟩
  have zn : Z.ob (s.heap.objs.size + 1) = none := S.zlt (Nat.le_succ _)
  have le := zup_le (Z := Z) (seqObj "list" out e) zn
  refine ⟨.lst (ns'.map .num), m, led, zup Z (s.heap.objs.size + 1) (seqObj "list" out e), le, rfl, ⟨S'.toSh.zadd he zn (S.blt (Nat.le_succ _)) (S.llt (Nat.le_succ _)) ?_ ?_ (.inl ⟨_, _, rfl, .inr rfl⟩), S.tk.zup⟩, ?_, q ns' a2 a3⟩
  · obtain ⟨mr, hn, _⟩ := S.loc
    exact Nat.ne_of_gt (Nat.lt_succ_of_lt hn.lt)
  · intro y q
    obtain ⟨r, hc, _⟩ := S.cel y _ q
    exact absurd (Nat.lt_of_succ_lt hc.lt) (Nat.lt_irrefl _)
  · have h1 : out = out.toList.toArray := by simp
    rw [h1]
    exact .lst (zup_self ..) (nums_of a1)
end
end Mine
end
section
open PySem PySem.W PySem.Calls PyProof.Rows
set_option Elab.async false
set_option maxRecDepth 100000
set_option linter.unusedVariables false
namespace Mine
section
variable {c : Cx} {m : Loc} {led : Led} {bg : Bt} {Z : Zt} {s : Shared} {x y : V} {l k : List V} {Q : V → Loc → Led → Prop} {pos : Pos}
theorem leaf_txt {t : Sem Value} {T : Str} (S : St c.env bg Z m led s) (h : ∀ Q' : Value → Shared → Prop, (∀ t' k, Q' (.str T t') { s with toks := k }) → wpAny (model c.prog c.w) c.A t Q' NoE s) (q : Q (.txt T) m led) :
    wpAny (model c.prog c.w) c.A t (Post c bg R s Z Q) NoE s := by
  refine wpAny_mono (wpAny_toks (h (fun v s' => ∃ t', v = .str T t' ∧ s' = { s with toks := s'.toks }) fun t' k => ⟨t', rfl, rfl⟩)) (fun v s' p => ?_) fun _ _ e => e
  obtain ⟨⟨t', rfl, e⟩, tk⟩ := p
  rw [e]
  exact Post.toks S (.txt T t') q tk
set_option maxHeartbeats 4000000 in
theorem mod_pair (b : Addr) (t t1 t2 : Tok) (x y : Str) (hx : x.length ≤ 1000) (hy : y.length ≤ 1000) : ∃ T : Str, T = x ++ Str.ofString ": " ++ y ∧ Meets (Builtin.«str.__mod__» ⟨[.str ⟨#[37, 115, 58, 32, 37, 115]⟩ t, .ref b], []⟩) (fun _ R s => IsTup s.heap b #[.str x t1, .str y t2] ∧ ∀ t' k, R (.ok (.ret (.str T t'))) { s with toks := k }) := by
  refine ⟨?_, ?_, ?_⟩
  rotate_left 2
  kpt_run
  rfl
theorem op_mod_pair {F X Y : Str} (hF : F = ⟨#[37, 115, 58, 32, 37, 115]⟩) (hx : IsS x X) (hy : IsS y Y) (lx : X.length ≤ 1000) (ly : Y.length ≤ 1000) (q : Q (.txt (X ++ Str.ofString ": " ++ Y)) m led) : A2 c R (binaryOp .Mod) (.str F) (.tup [x, y]) m led Q := by
  subst hF
  intro bg s Z a b B S ra rb
  cases ra.inv with
  | mk t ht =>
    cases rb.inv with
    | mk b vs n ez rs =>
      cases rs with
      | cons r1 rs =>
        cases rs with
        | cons r2 rs =>
          cases rs
          obtain ⟨t1, rfl⟩ := hx.of r1
          obtain ⟨t2, rfl⟩ := hy.of r2
          obtain ⟨T, rfl, hm⟩ := mod_pair b t t1 t2 X Y lx ly
          have ht : IsTup s.heap b #[.str X t1, .str Y t2] := ⟨_, S.zk _ _ ez, rfl, n, rfl⟩
          refine leaf_txt S (fun Q' hq => ?_) q
          exact KPt.bin_left (T := "str") (U := "tuple") (op := .Mod) (by decide) (typeIs_str s _ t) ⟨_, S.zk _ _ ez, rfl⟩ F.fills_str_mod KPt.fills_tuple F.slot_str_mod
            (call_meets F.slot_str_mod (typeIs_str s _ t) F.entry_str_mod (F.args_str_mod_2 _ _) hm ⟨ht, fun t' k => ⟨(fun e => nomatch e), hq t' k⟩⟩)
inductive Texts : List V → List Str → Prop
  | nil : Texts [] []
  | cons {x : V} {n : Str} {l : List V} {ns : List Str} : IsS x n → Texts l ns → Texts (x :: l) (n :: ns)
theorem Texts.are {vs : List Value} {ns : List Str} (h : Texts l ns) (r : Rs Z vs l) : ∃ ps : List (Str × Tok), vs = strValues ps ∧ ps.map (·.1) = ns := by
  induction h generalizing vs with
  | nil => cases r; exact ⟨[], rfl, rfl⟩
  | @cons x n l ns a _ ih =>
    cases r with
    | cons r1 r2 =>
      obtain ⟨t, rfl⟩ := a.of r1
      obtain ⟨ps, rfl, rfl⟩ := ih r2
      exact ⟨(n, t) :: ps, rfl, rfl⟩
theorem Texts.str : ∀ ns : List Str, Texts (ns.map .str) ns
  | [] => .nil
  | n :: ns => .cons .str (Texts.str ns)
theorem Texts.txt : ∀ ns : List Str, Texts (ns.map .txt) ns
  | [] => .nil
  | n :: ns => .cons .txt (Texts.txt ns)
theorem Texts.append {l' : List V} {ns ns' : List Str} (h : Texts l ns) (h' : Texts l' ns') : Texts (l ++ l') (ns ++ ns') := by
  induction h with
  | nil => exact h'
  | cons a _ ih => exact .cons a ih
theorem ca_join {sep : Str} {ts : List Str} (il : IsL led x l) (hs : Texts l ts) (hok : JoinOk sep ts = true) (q : Q (.txt (Txt.join sep ts)) m led) : CA c (.builtin "str.join") [.str sep, x] [] m led Q := by
  refine ca_2 fun bg s Z a1 a2 B S r1 r2 => ?_
  cases r1.inv
  obtain ⟨a, vs, n, rfl, ho, rs⟩ := il.at S.zk S.lk r2
  obtain ⟨ps, rfl, e⟩ := hs.are rs
  exact leaf_txt S (fun Q' hq => SC.join (isList ho) e hok hq) q
theorem strs_new {env : Env} {h : Heap} : ∀ (ns : List Str) (Z : Zt) (n : Tok), Sh env bg Z m led h → TokOk Z n → ∃ Z', Zle Z Z' ∧ Sh env bg Z' m led h ∧ TokOk Z' (n + ns.length) ∧ Rs Z' (strsFrom n ns) (ns.map .str)
  | [], Z, n, S, T => ⟨Z, Zle.refl _, S, T, .nil⟩
  | x :: ns, Z, n, S, T => by
    obtain ⟨Z', z', S', T', r⟩ := strs_new ns (ztk Z n (.str x)) (n + 1) (S.tok T (.str x)) (T.tok (.str x) (Nat.lt_succ_self _))
    refine ⟨Z', (ztk_le _ (T.new n (Nat.le_refl _))).trans z', S', ?_, .cons (.str x n (z'.tk _ _ (ztk_self ..))) r⟩
    rw [List.length_cons, show n + (ns.length + 1) = n + 1 + ns.length from Nat.add_right_comm n ns.length 1]; exact T'
theorem St.push {o : Obj} (S : St c.env bg Z m led s) : St c.env bg Z m led { s with heap := s.heap.push o } := ⟨S.keep fun _ _ e => Heap.get?_push_of_some _ e, S.tk⟩
theorem ca_split {X Y : Str} (hx : IsS x X) (hy : IsS y Y) (h0 : (Y.length == 0) = false) (hsz : X.length ≤ 16777216) (hn : (Txt.split X Y).length ≤ 16777216) (q : Q (.lst ((Txt.split X Y).map .str)) m led)
    (hX : x = .str X ∨ (Txt.split X Y).length ≠ 1) : CA c (.builtin "str.split") [x, y] [] m led Q := by
  refine ca_2 fun bg s Z a1 a2 B S r1 r2 => ?_
  obtain ⟨u, rfl⟩ := hy.of r2
  have self : ∀ t', R Z (.str X t') x → (Txt.split X Y = [X]) → R Z (.str X t') (.str X) := fun t' r e => by
    rcases hX with rfl | h
    · exact r
    · rw [e] at h; simp at h
  obtain ⟨t, rfl⟩ := hx.of r1
  have self := self t r1
  unfold Txt.split at q hn self
  cases h1 : (decide (X.length < Y.length) || decide (Builtin.Str.strKind X < Builtin.Str.strKind Y))
  · rw [h1] at q hn self
    simp only [Bool.false_eq_true, if_false] at q hn self
    cases hf : (Builtin.Str.occurrences X Y 0 X.length (X.length + 1)).isEmpty
    · rw [hf] at q hn
      simp only [Bool.false_eq_true, if_false] at q hn
      refine call_meets F.slot_str_split (typeIs_str _ _ _) F.entry_str_split (F.args_str_split_2 _ _) (meets_str_split_sep X Y t u h1 h0 hf (by rw [sizeLine_eq]; exact hsz) (by rw [sizeLine_eq]; exact hn)) ?_
      obtain ⟨Z', z', S', T', r⟩ := strs_new (Builtin.Str.partsBetween X (Builtin.Str.occurrences X Y 0 X.length (X.length + 1)) Y.length) Z s.toks S.toSh S.tk
      exact (Post.lst (s := { s with toks := s.toks + (Builtin.Str.partsBetween X (Builtin.Str.occurrences X Y 0 X.length (X.length + 1)) Y.length).length }) ⟨S', T'⟩ r q).up z' rfl
    · rw [hf] at q self
      simp only [if_true] at q self
      exact call_meets F.slot_str_split (typeIs_str _ _ _) F.entry_str_split (F.args_str_split_2 _ _) (meets_str_split_not_found X Y t u h1 h0 hf) (Post.lst S (vs := [.str X t]) (.cons (self True.intro) .nil) q)
  · rw [h1] at q self
    simp only [if_true] at q self
    exact call_meets F.slot_str_split (typeIs_str _ _ _) F.entry_str_split (F.args_str_split_2 _ _) (meets_str_split_cannot_occur X Y t u h1) (Post.lst S (vs := [.str X t]) (.cons (self True.intro) .nil) q)
theorem replace_at (x y z : Str) (t u v : Tok) (hl : Builtin.Str.tooLong (x.length + (Builtin.Str.occurrences x y 0 x.length (x.length + 1)).length * z.length) = false) (h0 : (u == 0 || v == 0) = false) (huv : u = v → (y == z) = true) :
    GivesAt (fun s => NoneBooked s.heap) (Builtin.«str.replace» ⟨[.str x t, .str y u, .str z v], []⟩)
      (if ((Builtin.Str.occurrences x y 0 x.length (x.length + 1)).isEmpty || (y.length == 0 && z.length == 0)) = true then .val (.str x t)
       else if (y == z) = true then .either (.val (.str x t)) (.str (Builtin.Str.glued z (Builtin.Str.partsBetween x (Builtin.Str.occurrences x y 0 x.length (x.length + 1)) y.length)))
       else .str (Builtin.Str.glued z (Builtin.Str.partsBetween x (Builtin.Str.occurrences x y 0 x.length (x.length + 1)) y.length))) := by
  show GivesAt _ (if ((Builtin.Str.occurrences x y 0 x.length (x.length + 1)).isEmpty || (y.length == 0 && z.length == 0)) = true then (do rule "str.replace.nothing"; ret (.str x t)) else
          (do let same ← isSame (.str y u) (.str z v)
              if same = true then (do rule "str.replace.old-is-new"; ret (.str x t)) else
              if Builtin.Str.tooLong (x.length + (Builtin.Str.occurrences x y 0 x.length (x.length + 1)).length * z.length) = true then unsupported "str.replace:memory" else
              retStr (Builtin.Str.glued z (Builtin.Str.partsBetween x (Builtin.Str.occurrences x y 0 x.length (x.length + 1)) y.length)))) _
  cases hc : ((Builtin.Str.occurrences x y 0 x.length (x.length + 1)).isEmpty || (y.length == 0 && z.length == 0))
  · intro prog w A R s hb hq
    show wpAny _ _ (isSame.created (y == z) u v >>= _) _ _ _
    refine wpAny_bind (created_ h0 hb huv fun b hb' => ?_)
    cases b
    · show wpAny _ _ (if Builtin.Str.tooLong (x.length + (Builtin.Str.occurrences x y 0 x.length (x.length + 1)).length * z.length) = true then _
                         else retStr (Builtin.Str.glued z (Builtin.Str.partsBetween x (Builtin.Str.occurrences x y 0 x.length (x.length + 1)) y.length))) _ _ _
      rw [hl]
      simp only [Bool.false_eq_true, if_false] at hq ⊢
      cases hyz : (y == z)
      · rw [hyz] at hq
        simp only [Bool.false_eq_true, if_false] at hq
        exact wpAny_bind (wpAny_mkStr (wpAny_pure hq.2) hq.1)
      · rw [hyz] at hq
        simp only [if_true] at hq
        exact wpAny_bind (wpAny_mkStr (wpAny_pure hq.2.2) hq.2.1)
    · have hyz := hb' rfl
      rw [hyz] at hq
      simp only [Bool.false_eq_true, if_false, if_true] at hq
      exact wpAny_bind (wpAny_rule (wpAny_pure hq.1))
  · exact Gives.at (.rule (.of_eq rfl))
theorem ca_replace {X Y W : Str} (hx : IsS x X) (hb : X.length + (X.length + 1) * W.length ≤ 16777216) (q : Q (.txt (Txt.replace X Y W)) m led) : CA c (.builtin "str.replace") [x, .str Y, .str W] [] m led Q := by
  refine ca_3 fun bg s Z a1 a2 a3 B S r1 r2 r3 => ?_
  obtain ⟨t, rfl⟩ := hx.of r1
  cases r2.inv with
  | mk u hu =>
    cases r3.inv with
    | mk v hv =>
      have hl : Builtin.Str.tooLong (X.length + (Builtin.Str.occurrences X Y 0 X.length (X.length + 1)).length * W.length) = false := by
        have h1 := StrLaws.occ_length_le X Y 0 X.length (X.length + 1)
        have h2 := Nat.mul_le_mul_right W.length h1
        unfold Builtin.Str.tooLong
        rw [sizeLine_eq]
        exact decide_eq_false (by omega)
      refine leaf_txt S (fun Q' hq => ?_) q
      refine call_givesAt F.slot_str_replace (typeIs_str _ _ _) F.entry_str_replace (F.args_str_replace_3 _ _ _)
        (replace_at X Y W t u v hl (by simp [tok_ne S.tk hu, tok_ne S.tk hv]) (fun e => by subst e; rw [hu] at hv; cases hv; simp)) (B.at S).booked ?_
      have hq' := hq
      unfold Txt.replace at hq'
      cases hc : ((Builtin.Str.occurrences X Y 0 X.length (X.length + 1)).isEmpty || (Y.length == 0 && W.length == 0))
      · rw [hc] at hq'
        simp only [Bool.false_eq_true, if_false] at hq' ⊢
        cases hyz : (Y == W)
        · simp only [Bool.false_eq_true, if_false]
          exact ⟨fits_replaced Y hb, hq' _ _⟩
        · simp only [if_true]
          have e : Y = W := eq_of_beq hyz
          subst e
          rw [StrLaws.glued_between_self] at hq' ⊢
          dsimp only [Made.post]
          exact ⟨hq' t s.toks, by rw [sizeLine_eq]; omega, hq' _ _⟩
      · rw [hc] at hq'
        simp only [if_true] at hq' ⊢
        exact hq' t s.toks
end
end Mine
end
section
open PySem PySem.W PySem.Calls PyProof.Rows
set_option Elab.async false
set_option maxRecDepth 100000
set_option linter.unusedVariables false
namespace Mine
open Builtin Builtin._codecs
theorem enc_walk0 {σ β : Type} {F : Nat → σ → Sem (ForInStep σ)} {init : σ} {K : σ → Sem β} {v : Sem β} {N : Nat} (hN : N = 0) (hK : K init = v) : (forIn [:N] init F >>= K) = v := by
  rw [KPc.range_list, hN, ← hK]; rfl
theorem enc_nil (id : String) (self : Value) (c : TextCodec) : encodeNarrow id c none self (tx []) = pure #[] := by
  unfold encodeNarrow
  exact enc_walk0 (σ := Nat × Array UInt8 × Faults) (N := (tx []).length) rfl rfl
theorem enc_walk {σ β : Type} {F : Nat → σ → Sem (ForInStep σ)} {init s1 : σ} {K : σ → Sem β} {v : Sem β} {N n : Nat} (hN : N = n + 1) (h0 : F 0 init = pure (.yield s1)) (h1 : ∀ i, F i s1 = pure (.done s1)) (hK : K s1 = v) :
    (forIn [:N] init F >>= K) = v := by
  rw [KPc.range_list, hN, List.range'_succ, List.forIn_cons, h0, ← hK]
  show (forIn (List.range' (0 + 1) n) s1 F >>= K) = _
  cases n with
  | zero => rfl
  | succ n => rw [List.range'_succ, List.forIn_cons, h1]; rfl
theorem enc_fold {l : List Nat} {f : Nat → List UInt8} (hby : f = fun x => [x.toUInt8]) : ∀ (acc : Array UInt8), List.foldl (fun acc y => acc ++ (f y).toArray) acc l = acc ++ (l.map (·.toUInt8)).toArray := by
  subst hby
  induction l with
  | nil => intro acc; simp
  | cons b l ih => intro acc; rw [List.foldl_cons, ih]; simp
theorem enc_clean (id : String) (self : Value) (c : TextCodec) (hby : c.bytesOf = fun x => [x.toUInt8]) : ∀ (l : List Nat), (∀ x ∈ l, c.bad x = false) → l.length ≤ 16777216 → encodeNarrow id c none self (tx l) = pure (l.map (·.toUInt8)).toArray
  | [], _, _ => enc_nil id self c
  | a :: t, h, hs => by
    have ha := h a (List.mem_cons_self ..)
    have e0 : (tx (a :: t)).cps[0]? = some a := rfl
    have e1 : (tx (a :: t)).cps[t.length + 1]? = none := by simp [tx]
    have ef : Array.findIdx? c.bad ((tx (a :: t)).cps.extract 0 (tx (a :: t)).cps.size) = none := by
      rw [Array.findIdx?_eq_none_iff]
      intro x hx
      exact h x (by simpa [tx] using hx)
    have esz : ((tx (a :: t)).cps.extract 0 (tx (a :: t)).cps.size).size = t.length + 1 := by simp [tx]
    have efold : Array.foldl (fun acc y => acc ++ (c.bytesOf y).toArray) #[] (((tx (a :: t)).cps.extract 0 (tx (a :: t)).cps.size).extract 0 (t.length + 1)) = ((a :: t).map (·.toUInt8)).toArray := by
      rw [show ((tx (a :: t)).cps.extract 0 (tx (a :: t)).cps.size).extract 0 (t.length + 1) = (a :: t).toArray by simp [tx], List.foldl_toArray, enc_fold hby]; simp
    have hz : ¬ (((a :: t).map (·.toUInt8)).toArray.size > sizeLine) := by rw [sizeLine_eq, List.size_toArray, List.length_map]; exact Nat.not_lt.mpr hs
    unfold encodeNarrow
    refine enc_walk (σ := Nat × Array UInt8 × Faults) (N := (tx (a :: t)).length) (n := t.length) (s1 := (t.length + 1, ((a :: t).map (·.toUInt8)).toArray, {})) (by rw [tx_length, List.length_cons]) ?_ (fun i => ?_) ?_
    · refine (if_neg (Nat.not_lt_zero _)).trans ?_
      dsimp only
      rw [e0]
      refine (if_pos (by rw [ha]; rfl)).trans ?_
      rw [ef, Option.getD_none, esz, efold, Nat.zero_add]
    · refine (if_neg hz).trans ?_
      dsimp only
      rw [e1]
    · rfl
theorem dec_clean (id : String) (b : Array UInt8) (h : ∀ x ∈ b.toList, x.toNat < 128) (hs : b.size ≤ 16777216) : runDecoder id asciiDecoder none true b 0 [] = pure ((b.toList.map (·.toNat)).toArray, b.size) := by
  unfold runDecoder
  simp only []
  rw [KPc.range_list]
  have gen : ∀ (n k : Nat), k + n = b.size → ∀ (f : Nat → Nat × Array Nat × Faults → Sem (ForInStep (Nat × Array Nat × Faults))),
      (∀ i k (st : Faults), k < b.size → f i (k, ((b.toList.take k).map (·.toNat)).toArray, st) = pure (ForInStep.yield (k + 1, ((b.toList.take (k + 1)).map (·.toNat)).toArray, st))) →
      forIn (List.range' k n 1) (k, ((b.toList.take k).map (·.toNat)).toArray, ({ held := [] } : Faults)) f = pure (b.size, (b.toList.map (·.toNat)).toArray, { held := [] }) := by
    intro n
    induction n with
    | zero =>
      intro k hk f hf
      have : k = b.size := by omega
      subst this
      have e : b.toList.take b.size = b.toList := List.take_of_length_le (by simp)
      rw [e]; rfl
    | succ n ih =>
      intro k hk f hf
      rw [List.range'_succ, List.forIn_cons, hf _ _ _ (by omega)]
      exact ih (k + 1) (by omega) f hf
  have e0 : ((b.toList.take 0).map (·.toNat)).toArray = #[] := by simp
  rw [← e0]
  rw [gen b.size 0 (by omega) _ (fun i k st hk => ?_)]
  · rfl
  · dsimp only
    have hb : b.getD k 0 = b[k] := by simp [Array.getD, hk]
    have hc : (b.getD k 0).toNat < 128 := by rw [hb]; exact h _ (by simp)
    rw [if_neg (show ¬ (((b.toList.take k).map (·.toNat)).toArray.size > sizeLine) by rw [sizeLine_eq, List.size_toArray, List.length_map, List.length_take]; simp at *; omega), if_neg (show ¬ (k ≥ b.size) by omega)]
    have ef : asciiDecoder.find true b k = Found.char (b.getD k 0).toNat (k + 1) := by
      show (if (b.getD k 0).toNat < 128 then _ else _) = _
      rw [if_pos hc]
    rw [ef]
    show pure (ForInStep.yield (k + 1, ((b.toList.take k).map (·.toNat)).toArray ++ [(b.getD k 0).toNat].toArray, st)) = _
    congr 3
    rw [List.take_add_one, hb]
    have : b.toList[k]? = some b[k] := by simp [hk]
    rw [this]
    simp
theorem enc_entry_a (x : Str) (t u : Tok) : «str.encode» ⟨[.str x t, .str (Str.ofString "ascii") u], []⟩ = (do ret (← (do mkBytes (← encodeNarrow "str.encode" asciiCodec none (.str x t) x)))) := by kernel_rfl
theorem enc_entry_l (x : Str) (t u : Tok) : «str.encode» ⟨[.str x t, .str (Str.ofString "iso-8859-1") u], []⟩ = (do ret (← (do mkBytes (← encodeNarrow "str.encode" latin1Codec none (.str x t) x)))) := by kernel_rfl
theorem dec_road {b : Array UInt8} {id : String} : _codecs.decodeRoad id b (PySem.Str.ofString "ascii") none [] = (_codecs.runDecoder id _codecs.asciiDecoder none true b 0 [] >>= fun r => mkStr ⟨r.1⟩) := by kernel_rfl
theorem dec_entry (c : UInt8) (cs : List UInt8) (t u : Tok) : «bytes.decode» ⟨[.bytes (c :: cs).toArray t, .str (Str.ofString "ascii") u], []⟩ = (mkStr (PySem.Str.ofString "utf-8") >>= fun _ => mkStr (PySem.Str.ofString "ascii") >>= fun e => mkStr (PySem.Str.ofString "bytes.decode") >>= fun d =>
    call (.builtin "_codecs.decode.text") [.bytes (c :: cs).toArray t, e, .none, d] >>= fun v => ret v) := by kernel_rfl
theorem args_decode_2 (a b : Value) : argsOk "bytes.decode" ⟨[a, b], []⟩ := by
  unfold argsOk; rw [signature?_of (id := "bytes.decode") (n := ['e', 'd', 'o', 'c', 'e', 'd']) (o := ['s', 'e', 't', 'y', 'b']) (by kernel_rfl) PySem.W.FB.owner_bytes]; kernel_rfl
noncomputable def octets (l : List Nat) : Array UInt8 := (l.map (·.toUInt8)).toArray
theorem octets_back {l : List Nat} (h : ∀ x ∈ l, x < 128) : (octets l).toList.map (·.toNat) = l := by
  unfold octets
  rw [List.map_map]
  conv => rhs; rw [← List.map_id l]
  refine List.map_congr_left fun x hx => ?_
  have := h x hx
  show (Nat.toUInt8 x).toNat = x
  rw [Nat.toUInt8, UInt8.toNat_ofNat']
  exact Nat.mod_eq_of_lt (by omega)
section
variable {c : Cx} {m : Loc} {led : Led} {bg : Bt} {Z : Zt} {s : Shared} {x y : V} {Q : V → Loc → Led → Prop} {pos : Pos}
theorem ca_encode {l : List Nat} {enc : Str} (hx : IsS x (tx l)) (he : enc = Str.ofString "ascii" ∨ enc = Str.ofString "iso-8859-1") (h : ∀ a ∈ l, a < 128) (hs : l.length ≤ 16777216) (q : Q (.bytes (octets l)) m led) : CA c (.builtin "str.encode") [x, .str enc] [] m led Q := by
  refine ca_2 fun bg s Z a1 a2 B S r1 r2 => ?_
  obtain ⟨t, rfl⟩ := hx.of r1
  cases r2.inv with
  | mk u hu =>
    have fin : ∀ (B : Sem Fin) (cd : TextCodec), (∀ a ∈ l, cd.bad a = false) → cd.bytesOf = (fun x => [x.toUInt8]) → B = (do ret (← (do mkBytes (← encodeNarrow "str.encode" cd none (.str (tx l) t) (tx l))))) →
        Meets B (fun _ R s => R (.ok (.ret (.bytes (octets l) s.toks))) { s with toks := s.toks + 1 }) := by
      intro B cd hb hby e
      refine .of_wp fun prog w A R s hS => ?_
      rw [e, enc_clean _ _ _ hby l hb hs]
      refine wpAny_bind (wpAny_bind (wpAny_pure ?_))
      exact wpAny_mkBytes (wpAny_pure ⟨_, rfl, hS⟩) (by rw [List.size_toArray, List.length_map, sizeLine_eq]; exact hs)
    rcases he with rfl | rfl
    · exact call_meets F.slot_str_encode (typeIs_str _ _ _) F.entry_str_encode (F.args_str_encode_2 _ _) (fin _ asciiCodec (fun a ha => decide_eq_false (by have := h a ha; omega)) rfl (enc_entry_a _ _ _)) (Post.bytes S q)
    · exact call_meets F.slot_str_encode (typeIs_str _ _ _) F.entry_str_encode (F.args_str_encode_2 _ _) (fin _ latin1Codec (fun a ha => decide_eq_false (by have := h a ha; omega)) rfl (enc_entry_l _ _ _)) (Post.bytes S q)
theorem ca_decode {l : List Nat} (hne : l ≠ []) (h : ∀ a ∈ l, a < 128) (hs : l.length ≤ 16777216) (q : Q (.txt (tx l)) m led) : CA c (.builtin "bytes.decode") [.bytes (octets l), .str (Str.ofString "ascii")] [] m led Q := by
  refine ca_2 fun bg s Z a1 a2 B S r1 r2 => ?_
  cases r1.inv with
  | mk t =>
    cases r2.inv with
    | mk u hu =>
      have hsz : (octets l).size ≤ 16777216 := by unfold octets; rw [List.size_toArray, List.length_map]; exact hs
      have hb : ∀ x ∈ (octets l).toList, x.toNat < 128 := by
        intro x hx
        have := List.mem_map_of_mem (f := (·.toNat)) hx
        rw [octets_back h] at this
        exact h _ this
      refine leaf_txt S (fun Q' hq => ?_) q
      refine call_meets (S := fun _ R s => ∀ t' k, R (.ok (.ret (.str (tx l) t'))) { s with toks := k }) FB.slot_bytes_decode (typeIs_bytes _ _ _) FB.entry_bytes_decode (by exact args_decode_2 _ _) (.of_wp fun prog w A R s hS => ?_) (fun t' k => hq t' k)
      obtain ⟨a, l', rfl⟩ := List.exists_cons_of_ne_nil hne
      have ho : octets (a :: l') = (a.toUInt8 :: l'.map (·.toUInt8)).toArray := rfl
      rw [ho, dec_entry, ← ho]
      refine wpAny_bind (wpAny_mkStr ?_ (by decide))
      refine wpAny_bind (wpAny_mkStr ?_ (by decide))
      refine wpAny_bind (wpAny_mkStr ?_ (by decide))
      refine wpAny_bind (call_function_meets (S := fun _ R s => R (.ok (.ret (.str (tx (a :: l')) s.toks))) { s with toks := s.toks + 1 }) KBd.kind_text KBd.plain_text KBd.entry_text (KBd.args_text _ _ _ _) (.of_wp fun prog w A R s hS => ?_) (wpAny_pure ⟨_, rfl, hS _ _⟩))
      show wpAny _ _ (Bytes.bytesLike _ (.bytes _ t) >>= fun r => _) _ _ s
      refine wpAny_bind (wpAny_of_eq KBd.like_eq ?_)
      refine wpAny_bind (wpAny_of_eq KBd.held_eq ?_)
      show wpAny _ _ (_codecs.decodeRoad _ _ (PySem.Str.ofString "ascii") none [] >>= fun v => _) _ _ s
      rw [dec_road, dec_clean _ _ hb hsz]
      refine wpAny_bind (wpAny_bind (wpAny_pure ?_))
      rw [octets_back h]
      exact wpAny_mkStr (wpAny_pure ⟨_, rfl, hS⟩) (by show (tx (a :: l')).length ≤ _; rw [tx_length, sizeLine_eq]; exact hs)
end
end Mine
end
section
open PySem PySem.W PySem.Calls PyProof.Rows
set_option Elab.async false
set_option maxRecDepth 100000
set_option linter.unusedVariables false
namespace Mine
section
variable {prog : Program} {w : World} {A : Around}
theorem src_str {t : List Nat} (ha : ∀ c ∈ t, c < 128) : Src prog w A (.str (tx t)) (t.map fun c => .str (tx [c])) (fun _ => True) := by
  intro s Z led a zk lk _ r
  cases r.inv with
  | mk tk ht =>
  have hall : (tx t).cps.all (· < 128) = true := by simp [tx]; exact ha
  refine wpAny_pyIter_ascii hall ⟨s.heap.objs.size, fun i Z h => h.IsStrIter s.heap.objs.size "str_ascii_iterator" (tx t) tk i, rfl, fun A' hA => ?_, ⟨_, Heap.get?_push_size _ rfl, rfl, rfl⟩, rfl, fun b o q => Heap.get?_push_of_some _ q, Nat.le_refl _⟩
  refine ⟨?_, ?_, ?_, ?_, ?_⟩
  · intro i d s₁ Z led htk hi zk lk _ hit
    simp only [List.getElem?_map, Option.map_eq_some_iff] at hi
    obtain ⟨c, hc, rfl⟩ := hi
    refine wpAny_pyNext_ascii_item hit (c := c) (by simpa [tx] using hc) fun h' hit' hs' => ⟨_, _, rfl, rfl, .new (.str (tx [c])), ?_, hit', fun b o hb q => hs'.extBut b o hb q⟩
    exact .str (tx [c]) _ (ztk_self ..)
  · intro s₁ Z led zk lk _ hit
    rw [List.length_map] at hit
    exact wpAny_pyNext_ascii_end hA hit (by simp [tx]) fun h' he' => ⟨rfl, rfl, fun b o hb q => he' b o hb q⟩
  · intro i Z s₁ hit
    exact wpAny_pyIter_striter_ascii hit ⟨rfl, rfl⟩
  · rintro i Z h ⟨o, ho, hc, _⟩
    exact ⟨o, _, ho, hc, by decide, by decide, by decide, by decide⟩
  · rintro i Z Z' h h' ⟨o, ho, r⟩ _ k
    exact ⟨o, k _ ho, r⟩
theorem src_bytes {b : Array UInt8} : Src prog w A (.bytes b) (b.toList.map fun c => .int (c.toNat : Int)) (fun _ => True) := by
  intro s Z led a zk lk _ r
  cases r.inv with
  | mk tk =>
  refine KBw.pyIter_bytes ⟨s.heap.objs.size, fun i Z h => KBw.IsBytesIter h s.heap.objs.size b tk i, rfl, fun A' hA => ?_, ⟨_, Heap.get?_push_size _ rfl, rfl, rfl⟩, rfl, fun b o q => Heap.get?_push_of_some _ q, Nat.le_refl _⟩
  refine ⟨?_, ?_, ?_, ?_, ?_⟩
  · intro i d s₁ Z led htk hi zk lk _ hit
    simp only [List.getElem?_map, Option.map_eq_some_iff] at hi
    obtain ⟨c, hc, rfl⟩ := hi
    refine KBw.next_item hit (c := c) (by simpa using hc) fun h' hit' hs' => ⟨_, _, rfl, rfl, .new (.int (c.toNat : Int)), ?_, hit', fun b o hb q => hs'.extBut b o hb q⟩
    exact .int _ _ (ztk_self ..)
  · intro s₁ Z led zk lk _ hit
    rw [List.length_map] at hit
    exact KBw.next_end hA hit (by simp) fun h' he' => ⟨rfl, rfl, fun b o hb q => he' b o hb q⟩
  · intro i Z s₁ hit
    exact KBw.pyIter_self hit ⟨rfl, rfl⟩
  · rintro i Z h ⟨o, ho, hc, _⟩
    exact ⟨o, _, ho, hc, by decide, by decide, by decide, by decide⟩
  · rintro i Z Z' h h' ⟨o, ho, r⟩ _ k
    exact ⟨o, k _ ho, r⟩
end
section
variable {c : Cx} {m : Loc} {led : Led} {x y : V} {l k : List V} {Q : V → Loc → Led → Prop} {pos : Pos}
theorem const_bytes {b : List UInt8} {n : Nat} (q : Q (.bytes b.toArray) m led) : EV c (.Constant (.bytes b) n pos) m led Q := fun bg s Z B S => Constant_bytes (Post.bytes S q)
theorem gs_str_upto {t : List Nat} {n : Nat} (hl : t.length ≤ 1000) (hn : n ≤ 1000) (q : Q (.str (tx (t.take n))) m led) : GS c (.str (tx t)) none (some (n : Int)) none m led Q := by
  intro bg s Z a sl vl vu vs B S ra hs pl pu ps
  cases pl
  cases ps
  cases pu with
  | int _ u =>
  cases ra.inv with
  | mk tk ht =>
  obtain ⟨o, ho, hc, hd⟩ := hs
  refine wpAny_getItem_str_slice (l := none) (u := some ((n : Int), u)) (st := none) ⟨o, ho, hc, hd⟩ rfl ?_
  have e2 : max (0 : Int) (min (n : Int) (t.length : Int)) = ((min n t.length : Nat) : Int) := by omega
  have hpick : slicePicked (tx t) none (some ((n : Int), u)) none = List.range (min n t.length) := by
    unfold slicePicked Builtin.Str.strSliceIndices sliceRange
    simp only [Option.map_none, Option.map_some, Option.getD_none, tx_length, show ((1 : Int) > 0) = True from by simp, if_true, show ¬ ((n : Int) < 0) by omega, if_false, e2]
    generalize min n t.length = k
    by_cases hk : (0 : Int) < (k : Int)
    · rw [if_pos hk]
      have e3 : (((k : Int) - 0 + 1 - 1) / 1).toNat = k := by simp
      rw [e3]
      conv => rhs; rw [← List.map_id (List.range k)]
      refine List.map_congr_left fun i _ => ?_
      simp
    · rw [if_neg hk]
      have : k = 0 := by omega
      subst this; simp
  have hfm : (List.range (min n t.length)).filterMap ((tx t).cps[·]?) = t.take n := by
    have h := StrLaws.picks t (min n t.length) 0 (by omega)
    simp only [Nat.zero_add, List.map_id', List.drop_zero] at h
    have e : (fun x : Nat => (tx t).cps[x]?) = fun x : Nat => t[x]? := by funext x; simp [tx]
    rw [e, h]
    by_cases hh : n ≤ t.length
    · rw [Nat.min_eq_left hh]
    · rw [Nat.min_eq_right (by omega), List.take_of_length_le (Nat.le_refl _), List.take_of_length_le (by omega)]
  unfold sliceMade
  rw [hpick]
  split
  · rename_i hc
    simp only [List.length_range, tx_length, Bool.and_eq_true, beq_iff_eq] at hc
    have : t.take n = t := List.take_of_length_le (by omega)
    rw [this] at q
    exact Post.same S (.str _ tk ht) q
  · rw [hfm]
    refine ⟨?_, Post.str S q⟩
    show (tx (t.take n)).length ≤ _
    rw [tx_length, List.length_take, sizeLine_eq]; omega
theorem ex_drop {e : Expr} {Q : FV → Loc → Led → Prop} (h : EV c e m led fun v m₁ led₁ => (v = .none ∨ ∃ y, v = .str y) ∧ Q .next m₁ led₁) (hi : interactive c.env = false) (hs : swapsWith e none pos.line c.env = pure false) : EX c (.Expr e pos) m led Q := by
  intro bg s Z B S
  refine wpAny_Expr (wpAny_mono (h bg s Z B S) (fun v s₁ p => ?_) fun _ _ e => e) hi hs
  obtain ⟨b, m', led', Z', z', e', S, r, hb, q⟩ := p
  rcases hb with rfl | ⟨y, rfl⟩
  · cases r.inv; exact ⟨_, m', led', Z', z', e', S, .next, q⟩
  · cases r.inv; exact ⟨_, m', led', Z', z', e', S, .next, q⟩
inductive Lower (Inv : Nat → Loc → Led → Prop) (n : Nat) (m : Loc) (led : Led) : Prop
  | mk (k : Nat) : k < n → Inv k m led → Lower Inv n m led
inductive WhI (c : Cx) (bg : Bt) (s : Shared) (Z : Zt) (Inv : Nat → Loc → Led → Prop) (k : Nat) (s' : Shared) : Prop
  | mk (m' : Loc) (led' : Led) (Z' : Zt) : s' = { s with heap := s'.heap, toks := s'.toks } → Zle Z Z' → St c.env bg Z' m' led' s' → Inv k m' led' → WhI c bg s Z Inv k s'
noncomputable def TurnW (Inv : Nat → Loc → Led → Prop) (n : Nat) (Q : FV → Loc → Led → Prop) (f : FV) (m : Loc) (led : Led) : Prop := match f with
  | .next => Lower Inv n m led
  | .cont => Lower Inv n m led
  | .brk => Q .next m led
  | .ret v => Q (.ret v) m led
theorem ex_while {t : Expr} {body : List Stmt} {Q : FV → Loc → Led → Prop} (Inv : Nat → Loc → Led → Prop) (n : Nat) (h0 : Inv n m led)
    (turn : ∀ n m led, Inv n m led → TR c t m led fun b m₁ led₁ => if b = true then XS c body m₁ led₁ (TurnW Inv n Q) else Q .next m₁ led₁) : EX c (.While t body [] pos) m led Q := by
  intro bg s Z B S
  refine wpAny_While (codeAny_whileLoop (WhI c bg s Z Inv) ?_ n ⟨m, led, Z, rfl, Zle.refl _, S, h0⟩)
  rintro k s₁ ⟨m', led', Z', e', z', S', inv⟩
  refine wpAny_mono (turn k m' led' inv bg s₁ Z' B S') (fun b s₂ p => ?_) fun _ _ e => e.elim
  obtain ⟨b', m₂, led₂, Z₂, z₂, e₂, S₂, r, q⟩ := p
  cases r
  cases b with
  | false =>
    simp only [Bool.false_eq_true, if_false] at q ⊢
    exact wpAny_execs_nil ⟨.next, m₂, led₂, Z₂, z'.trans z₂, by rw [e₂, e'], S₂, .next, q⟩
  | true =>
    simp only [if_true] at q ⊢
    refine wpAny_mono (q bg s₂ Z₂ B S₂) (fun f s₃ p => ?_) fun _ _ e => e.elim
    obtain ⟨fv, m₃, led₃, Z₃, z₃, e₃, S₃, rf, q⟩ := p
    have ee : s₃ = { s with heap := s₃.heap, toks := s₃.toks } := by rw [e₃, e₂, e']
    have zz := z'.trans (z₂.trans z₃)
    cases rf with
    | next => obtain ⟨j, hj, inv⟩ := q; exact ⟨j, hj, m₃, led₃, Z₃, ee, zz, S₃, inv⟩
    | cont => obtain ⟨j, hj, inv⟩ := q; exact ⟨j, hj, m₃, led₃, Z₃, ee, zz, S₃, inv⟩
    | brk => exact ⟨.next, m₃, led₃, Z₃, zz, ee, S₃, .next, q⟩
    | ret rv => exact ⟨_, m₃, led₃, Z₃, zz, ee, S₃, .ret rv, q⟩
theorem truth_bool {b : Bool} {Q : Bool → Loc → Led → Prop} (q : Q b m led) : A1 c RB truthy (.bool b) m led Q := fun bg s Z a B S ra => by
  cases ra.inv; exact wpAny_truthy_bool (Post.same S rfl q)
theorem truth_none {Q : Bool → Loc → Led → Prop} (q : Q false m led) : A1 c RB truthy .none m led Q := fun bg s Z a B S ra => by
  cases ra.inv; exact wpAny_pure (a := false) (Post.same S rfl q)
theorem tr_chain {e1 e2 e3 : Expr} {o1 o2 : CmpOp} {Q : Bool → Loc → Led → Prop}
    (h : EV c e1 m led fun x m₁ led₁ => EV c e2 m₁ led₁ fun y m₂ led₂ => A2 c R (compareOp o1) x y m₂ led₂ (AsB fun b' m₃ led₃ =>
      if b' = true then EV c e3 m₃ led₃ fun z m₄ led₄ => A2 c R (compareOp o2) y z m₄ led₄ (AsB Q) else Q false m₃ led₃))
    (hm : lastMarks [o1, o2] [e2, e3] = false) : TR c (.Compare e1 [o1, o2] [e2, e3] pos) m led Q := by
  intro bg s Z B S
  refine isTrue_chain (wpAny_mono (h bg s Z B S) (fun a s₁ p => ?_) fun _ _ e => e) hm
  obtain ⟨x, m₁, led₁, Z₁, z₁, e₁, S₁, r₁, q⟩ := p
  refine test_link (wpAny_mono (q bg s₁ Z₁ B S₁) (fun b s₂ p => ?_) fun _ _ e => e)
  obtain ⟨y, m₂, led₂, Z₂, z₂, e₂, S₂, r₂, q⟩ := p
  refine wpAny_mono (q bg s₂ Z₂ a b B S₂ (r₁.mono z₂) r₂) (fun v s₃ p => ?_) fun _ _ e => e
  obtain ⟨_, m₃, led₃, Z₃, z₃, e₃, S₃, r₃, b', rfl, q⟩ := p
  cases r₃.inv
  refine wpAny_truthy_bool ?_
  cases b' with
  | false =>
    simp only [Bool.false_eq_true, if_false] at q ⊢
    exact ⟨false, m₃, led₃, Z₃, z₁.trans (z₂.trans z₃), by rw [e₃, e₂, e₁], S₃, rfl, q⟩
  | true =>
    simp only [if_true] at q ⊢
    refine test_last (wpAny_mono (q bg s₃ Z₃ B S₃) (fun d s₄ p => ?_) fun _ _ e => e)
    obtain ⟨z, m₄, led₄, Z₄, z₄, e₄, S₄, r₄, q⟩ := p
    refine wpAny_mono (q bg s₄ Z₄ b d B S₄ (r₂.mono (z₃.trans z₄)) r₄) (fun v s₅ p => ?_) fun _ _ e => e
    obtain ⟨_, m₅, led₅, Z₅, z₅, e₅, S₅, r₅, b', rfl, q⟩ := p
    cases r₅.inv
    exact wpAny_truthy_bool ⟨b', m₅, led₅, Z₅, z₁.trans (z₂.trans (z₃.trans (z₄.trans z₅))), by rw [e₅, e₄, e₃, e₂, e₁], S₅, rfl, q⟩
theorem ev_and {e1 e2 : Expr} (h : EV c e1 m led (AsB fun b m₁ led₁ => if b = true then EV c e2 m₁ led₁ Q else Q (.bool false) m₁ led₁)) : EV c (.BoolOp .And [e1, e2] pos) m led Q := by
  intro bg s Z B S
  refine BoolOp_and (wpAny_mono (h bg s Z B S) (fun a s₁ p => ?_) fun _ _ e => e)
  obtain ⟨x, m₁, led₁, Z₁, z₁, e₁, S₁, r₁, b, rfl, q⟩ := p
  cases r₁.inv
  refine wpAny_truthy_bool ?_
  cases b with
  | false =>
    simp only [Bool.false_eq_true, if_false] at q ⊢
    exact ⟨_, m₁, led₁, Z₁, z₁, e₁, S₁, .bool false, q⟩
  | true =>
    simp only [if_true] at q ⊢
    exact BoolOp_one (wpAny_mono (q bg s₁ Z₁ B S₁) (fun _ _ p => p.up z₁ e₁) fun _ _ e => e)
theorem setall_at {prog : Program} {w : World} {A : Around} {E : Value → Shared → Prop} {Q : Unit → Shared → Prop} {s : Shared} {a b sl : Addr} {vs ws : List Value} {n nb : Nat} (hsl : s.heap.get? sl = some { cls := .type "slice", data := .fields #[.none, .none, .none] })
    (ho : s.heap.get? a = some { cls := .type "list", data := .seq vs.toArray n }) (hb : s.heap.get? b = some { cls := .type "list", data := .seq ws.toArray nb }) (hab : b ≠ a) (h1 : vs.length ≤ 1000) (h2 : ws.length ≤ 1000)
    (q : ∀ h' n', h'.get? a = some { cls := .type "list", data := .seq ws.toArray n' } → Heap.SameBut a s.heap h' → Q () { s with heap := h' }) : wpAny (model prog w) A (setItem (.ref a) (.ref sl) (.ref b)) Q E s := by
  have hTs : s.TypeIs (.ref sl) "slice" := ⟨_, hsl, rfl⟩
  have hsr : Builtin.List.listSameRef (.ref a) (.ref b) = false := beq_false_of_ne (Ne.symm hab)
  have hsb : sliceBounds none none none vs.toArray.size = (0, (vs.toArray.size : Int), 1) := by unfold sliceBounds; simp
  have hm : (max (0 : Int) (vs.toArray.size : Int)).toNat = vs.toArray.size := by omega
  have hf : vs.toArray.extract 0 (0 : Int).toNat ++ ws.toArray ++ vs.toArray.extract (max (0 : Int) (vs.toArray.size : Int)).toNat vs.toArray.size = ws.toArray := by
    rw [hm]; simp
  have D' := get?_update_seq ho (fun xs : Array Value => xs.extract 0 (0 : Int).toNat ++ ws.toArray ++ xs.extract (max (0 : Int) (vs.toArray.size : Int)).toNat xs.size)
  rw [hf] at D'
  have q := q _ _ D' (Heap.SameBut.update ..)
  have hz : vs.toArray.size ≤ 16777216 := by rw [List.size_toArray]; omega
  have hz2 : ws.toArray.size ≤ 16777216 := by rw [List.size_toArray]; omega
  have hT : Builtin.List.listTooLong (vs.toArray.size + ws.toArray.size) = false := by unfold Builtin.List.listTooLong; rw [decide_eq_false (by rw [List.size_toArray, List.size_toArray, sizeLine_eq]; omega)]
  unfold setItem
  refine wpAny_holding ?_
  refine wpAny_bind (wpAny_sequenceKey (isList ho).typeIs (by decide) ?_)
  refine wpAny_bind (wpAny_callSpecial?_slot (name := Str.ofString "__setitem__") (isList ho).typeIs slot_list_setitem
    (wpAny_call_entry slot_list_setitem (isList ho).typeIs entry_list_setitem ?_ (args_list_setitem _ _ _)))
  show wpAny _ _ (Builtin.List.listSubscript? (.ref _) >>= _) _ _ s
  refine wpAny_bind ?_
  unfold Builtin.List.listSubscript?
  refine wpAny_bind (wpAny_specialOf hTs slice_no_index ?_)
  simp only [Option.isNone_none, if_true]
  refine wpAny_pure ?_
  show wpAny _ _ (typeOf (.ref _) >>= _) _ _ s
  refine wpAny_bind (wpAny_typeOf hTs ?_)
  rw [if_neg (by decide), listSliceParts_eq]
  refine wpAny_bind (wpAny_bind (wpAny_field hsl rfl (x := .none) rfl (wpAny_bind (wpAny_listPart .none ?_))))
  rw [if_neg (show ¬ ((rawPart none == rawInt 0) = true) from Bool.false_ne_true)]
  refine wpAny_bind (wpAny_field hsl rfl (x := .none) rfl (wpAny_bind (wpAny_listPart .none ?_)))
  refine wpAny_bind (wpAny_field hsl rfl (x := .none) rfl (wpAny_bind (wpAny_listPart .none (wpAny_pure ?_))))
  rw [hsr]
  simp only [Bool.false_eq_true, if_false]
  unfold Builtin.List.listAllItems
  refine wpAny_bind (wpAny_bind (wpAny_typeOf ⟨_, hb, rfl⟩ ?_))
  rw [if_pos (by decide)]
  unfold Builtin.List.listItems
  refine wpAny_bind (wpAny_seqItems hb rfl (wpAny_pure ?_))
  refine wpAny_bind (wpAny_bind (wpAny_seqItems ho rfl (wpAny_pure ?_)))
  refine wpAny_bind (wpAny_of_eq (sliceIndices_raw none none none vs.toArray.size (by decide)) ?_)
  rw [hsb]
  dsimp only
  rw [if_pos (show ((1 : Int) == 1) = true from rfl)]
  refine wpAny_bind (wpAny_rule ?_)
  rw [if_neg (by rw [hT]; simp)]
  refine wpAny_bind (listUpdate_at ho rfl ?_ (by rw [sizeLine_eq]; exact hz) (by rw [hf, sizeLine_eq]; exact Nat.le_succ_of_le hz2))
  exact wpAny_bind (wpAny_letGo (wpAny_pure ⟨_, rfl, wpAny_pure q⟩))
inductive AllOk (Q : FV → Loc → Led → Prop) (v xv : V) (m₂ : Loc) (led₂ : Led) : Prop
  | mk (a : Addr) (l k : List V) : xv = .own a → led₂ a = some (.list l) → v = .lst k → l.length ≤ 1000 → k.length ≤ 1000 → Q .next m₂ (upd led₂ a (.list k)) → AllOk Q v xv m₂ led₂
theorem ex_setall {o e : Expr} {p1 p2 : Pos} {Q : FV → Loc → Led → Prop}
    (h : EV c e m led fun v m₁ led₁ => EV c o m₁ led₁ (AllOk Q v))
    (hs : swapsWith e (some (.Subscript o (.Slice none none none p2) p1)) pos.line c.env = pure false) : EX c (.Assign [.Subscript o (.Slice none none none p2) p1] e pos) m led Q := by
  intro bg s Z B S
  refine wpAny_Assign_Subscript (wpAny_mono (h bg s Z B S) (fun v s₁ p => ?_) fun _ _ e => e) hs
  obtain ⟨vv, m₁, led₁, Z₁, z₁, e₁, S₁, r₁, q⟩ := p
  refine wpAny_mono (q bg s₁ Z₁ B S₁) (fun ov s₂ p => ?_) fun _ _ e => e
  obtain ⟨xv, m₂, led₂, Z₂, z₂, e₂, S₂, r₂, a, l, k, rfl, hl, rfl, h1, h2, q9⟩ := p
  cases r₂.inv
  refine wpAny_Slice (wpAny_pure (wpAny_pure (wpAny_pure ?_)))
  have S₃ : St c.env bg Z₂ m₂ led₂ { s₂ with heap := s₂.heap.push { cls := .type "slice", data := .fields #[.none, .none, .none] } } := ⟨S₂.keep fun _ _ e => Heap.get?_push_of_some _ e, S₂.tk⟩
  have hsl : (s₂.heap.push ({ cls := .type "slice", data := .fields #[.none, .none, .none] } : Obj)).get? s₂.heap.objs.size = some { cls := .type "slice", data := .fields #[.none, .none, .none] } := Heap.get?_push_size _ rfl
  generalize hs3 : ({ s₂ with heap := s₂.heap.push { cls := .type "slice", data := .fields #[.none, .none, .none] } } : Shared) = s₃ at S₃
  have hsl : s₃.heap.get? s₂.heap.objs.size = some { cls := .type "slice", data := .fields #[.none, .none, .none] } := by rw [← hs3]; exact hsl
  have es : s₃ = { s₂ with heap := s₃.heap } := by rw [← hs3]
  cases (r₁.mono z₂).inv with
  | mk b ws nb ez rs =>
    have hb := S₃.zk _ _ ez
    obtain ⟨oo, ho, vs, n, rfl, rl⟩ := S₃.lk a _ hl
    have hab : b ≠ a := fun q => by subst q; rw [(S₃.dled _ _ hl).2.1] at ez; cases ez
    refine setall_at hsl ho hb hab (by rw [rl.length]; exact h1) (by rw [rs.length]; exact h2) fun h' n' D' hs' => ?_
    exact ⟨.next, m₂, _, Z₂, z₁.trans z₂, by dsimp only; rw [es, e₂, e₁], ⟨S₃.change (ao' := .list k) hl D' hs' (LR.ofList rs), by rw [es]; exact S₂.tk⟩, .next, q9⟩
end
end Mine
end
section
open PySem PySem.W PySem.Calls PyProof.Rows
set_option Elab.async false
set_option maxRecDepth 100000
set_option linter.unusedVariables false
namespace Mine
open PySem.Sre
noncomputable def steps : Nat → M → M
  | 0, m => m
  | n + 1, m => steps n m.step
theorem steps_add : ∀ (a b : Nat) (m : M), steps (a + b) m = steps b (steps a m)
  | 0, b, m => by rw [Nat.zero_add]; rfl
  | a + 1, b, m => by rw [show a + 1 + b = (a + b) + 1 by omega]; exact steps_add a b m.step
theorem step_over {m : M} (h : m.outcome.isSome = true) : m.step = m := by unfold M.step; rw [if_pos h]
theorem steps_over {m : M} (h : m.outcome.isSome = true) : ∀ n, steps n m = m
  | 0 => rfl
  | n + 1 => by show steps n m.step = m; rw [step_over h]; exact steps_over h n
theorem runFor_eq : ∀ (n : Nat) (m : M), M.runFor n m = steps n m
  | 0, m => rfl
  | n + 1, m => by
    show (if m.outcome.isSome then m else M.runFor n m.step) = steps n m.step
    split
    · rename_i h; rw [step_over h, steps_over h]
    · exact runFor_eq n _
noncomputable def Reach (k : Nat) (m m' : M) : Prop := ∃ n, n ≤ k ∧ steps n m = m'
theorem Reach.refl (m : M) : Reach 0 m m := ⟨0, Nat.le_refl _, rfl⟩
theorem Reach.one {m m' : M} (h : m.step = m') : Reach 1 m m' := ⟨1, Nat.le_refl _, h⟩
theorem Reach.trans {a b : Nat} {m m' m'' : M} (h : Reach a m m') (k : Reach b m' m'') : Reach (a + b) m m'' := by
  obtain ⟨n, hn, rfl⟩ := h
  obtain ⟨j, hj, rfl⟩ := k
  exact ⟨n + j, by omega, steps_add n j m⟩
theorem Reach.cons {k : Nat} {m m' m'' : M} (h : m.step = m') (r : Reach k m' m'') : Reach (k + 1) m m'' := by
  rw [Nat.add_comm]; exact (Reach.one h).trans r
theorem Reach.le {a b : Nat} {m m' : M} (h : Reach a m m') (l : a ≤ b) : Reach b m m' := let ⟨n, hn, e⟩ := h; ⟨n, Nat.le_trans hn l, e⟩
section
variable {A : Around} {Mo : Model} {s : Shared} {E : Value → Shared → Prop}
theorem drive_ {Q : M → Shared → Prop} : ∀ (turns N : Nat) (m : M), (steps N m).outcome.isSome = true → N ≤ 4 * turns → 0 < turns → Q (steps N m) s → wpAny Mo A (Builtin.Re.reDrive turns m) Q E s
  | 0, N, m, h, hN, h0, q => absurd h0 (Nat.lt_irrefl _)
  | t + 1, N, m, h, hN, h0, q => by
    unfold Builtin.Re.reDrive
    have e4 : M.runFor Builtin.Re.reTurnSteps m = steps 4 m := runFor_eq 4 m
    simp only []
    rw [e4]
    split
    · rename_i h4
      have : steps N m = steps 4 m := by
        by_cases hle : N ≤ 4
        · rw [show 4 = N + (4 - N) by omega, steps_add, steps_over h]
        · rw [show N = 4 + (N - 4) by omega, steps_add, steps_over h4]
      rw [← this]
      exact wpAny_pure q
    · rename_i h4
      have hlt : 4 < N := by
        refine Nat.lt_of_not_le fun hle => h4 ?_
        rw [show 4 = N + (4 - N) by omega, steps_add, steps_over h]; exact h
      have e : steps N m = steps (N - 4) (steps 4 m) := by rw [← steps_add]; congr 1; omega
      rw [e] at h q
      exact wpAny_bind (wpAny_rule (drive_ t (N - 4) _ h (by omega) (by omega) q))
theorem rules_ {m : M} : ∀ (l : List Nat) {Q : PUnit → Shared → Prop}, Q ⟨⟩ s → wpAny Mo A (forIn l PUnit.unit fun i (r : PUnit) => if m.seen.has i = true then (do rule (names.getD i ""); pure (ForInStep.yield PUnit.unit)) else pure (ForInStep.yield PUnit.unit)) Q E s
  | [], Q, q => by rw [List.forIn_nil]; exact wpAny_pure q
  | i :: l, Q, q => by
    rw [List.forIn_cons]
    refine wpAny_bind ?_
    split
    · exact wpAny_bind (wpAny_rule (wpAny_pure (rules_ l q)))
    · exact wpAny_pure (rules_ l q)
theorem toEnd {Q : Option M → Shared → Prop} {k : Nat} {m m' : M} (r : Reach k m m') (hk : k ≤ 2 ^ 62) (ho : m'.outcome = some .matched ∨ m'.outcome = some .failed) (q : Q (if m'.outcome matches some .matched then some m' else none) s) :
    wpAny Mo A (Builtin.Re.reRunToEnd m) Q E s := by
  obtain ⟨n, hn, rfl⟩ := r
  have hs : (steps n m).outcome.isSome = true := by rcases ho with h | h <;> rw [h] <;> rfl
  unfold Builtin.Re.reRunToEnd
  refine wpAny_bind ?_
  have hT : 0 < 2 ^ 64 ∧ n ≤ 4 * 2 ^ 64 := by omega
  generalize 2 ^ 64 = T at hT
  refine drive_ T n m hs hT.2 hT.1 ?_
  refine wpAny_bind (rules_ _ ?_)
  rcases ho with h | h
  · rw [h] at q ⊢; exact wpAny_pure q
  · rw [h] at q ⊢; exact wpAny_pure q
end
end Mine
end
section
open PySem PySem.W PySem.Calls PyProof.Rows
set_option Elab.async false
set_option maxRecDepth 100000
set_option linter.unusedVariables false
namespace Mine
open PySem.Sre
noncomputable def ma (code text : Array Nat) (start pc pos handed : Nat) (om : Bool) (fr : List Sre.Frame) (wt : Nat) (ans : Option Bool) (sn : Sre.Seen) : M :=
  { code, text, lim := text.size, start, lastStart := text.size, pc, pos, handed, outermost := om, marks := #[], frames := fr, weight := wt, answer := ans, seen := sn }
section
variable {code text : Array Nat} {st pc pos hd : Nat} {om : Bool} {fr : List Sre.Frame} {wt : Nat} {sn : Sre.Seen} {w : Nat}
theorem step_exec (hp : pc < code.size) : (ma code text st pc pos hd om fr wt none sn).step = (ma code text st pc pos hd om fr wt none sn).exec := by
  show (if (none : Option Sre.Outcome).isSome = true then _ else if pc < code.size then _ else _) = _
  rw [if_neg (by simp), if_pos hp]
theorem ma_lit_yes (hp : pc < code.size) (h0 : code.getD pc 0 = 16) (h1 : text.getD pos 0 = code.getD (pc + 1) 0) (hl : pos < text.size) :
    (ma code text st pc pos hd om fr wt none sn).step = ma code text st (pc + 2) (pos + 1) hd om fr wt none (sn.add 16) := by
  rw [step_exec hp]
  have hw : (ma code text st pc pos hd om fr wt none sn).word 0 = 16 := h0
  unfold M.exec
  simp only [hw, show ops[16]? = some Op.LITERAL from rfl]
  have hacc : accepts code pc (text.getD pos 0) (sn.add 16) = .ok (true, sn.add 16) := by
    unfold accepts
    simp only [h0, show ops[16]? = some Op.LITERAL from rfl, h1, beq_self_eq_true]
  have hiw : itemWidth code pc = 2 := by
    unfold itemWidth
    simp only [h0, show ops[16]? = some Op.LITERAL from rfl]
  show (if pos ≥ text.size then _ else match accepts code pc (text.getD pos 0) (sn.add 16) with | .error why => _ | .ok (false, seen) => _ | .ok (true, seen) => _) = _
  rw [if_neg (by omega), hacc]
  show ma code text st (pc + itemWidth code pc) (pos + 1) hd om fr wt none (sn.add 16) = _
  rw [hiw]
theorem ma_lit_no (hp : pc < code.size) (h0 : code.getD pc 0 = 16) (h1 : pos < text.size → text.getD pos 0 ≠ code.getD (pc + 1) 0) :
    (ma code text st pc pos hd om fr wt none sn).step = ma code text st pc pos hd om fr wt (some false) (sn.add 16) := by
  rw [step_exec hp]
  have hw : (ma code text st pc pos hd om fr wt none sn).word 0 = 16 := h0
  unfold M.exec
  simp only [hw, show ops[16]? = some Op.LITERAL from rfl]
  show (if pos ≥ text.size then _ else match accepts code pc (text.getD pos 0) (sn.add 16) with | .error why => _ | .ok (false, seen) => _ | .ok (true, seen) => _) = _
  by_cases hl : pos < text.size
  · have hacc : accepts code pc (text.getD pos 0) (sn.add 16) = .ok (false, sn.add 16) := by
      unfold accepts
      simp only [h0, show ops[16]? = some Op.LITERAL from rfl]
      have : (text.getD pos 0 == code.getD (pc + 1) 0) = false := by simpa using h1 hl
      rw [this]
    rw [if_neg (by omega), hacc]
    rfl
  · rw [if_pos (by omega)]; rfl
theorem ma_jump (hp : pc < code.size) (h0 : code.getD pc 0 = 15) : (ma code text st pc pos hd om fr wt none sn).step = ma code text st (pc + 1 + code.getD (pc + 1) 0) pos hd om fr wt none (sn.add 15) := by
  rw [step_exec hp]
  have hw : (ma code text st pc pos hd om fr wt none sn).word 0 = 15 := h0
  unfold M.exec
  simp only [hw, show ops[15]? = some Op.JUMP from rfl]
  rfl
theorem ma_success (hp : pc < code.size) (h0 : code.getD pc 0 = 1) : (ma code text st pc pos hd om fr wt none sn).step = ma code text st pc pos pos om fr wt (some true) (sn.add 1) := by
  rw [step_exec hp]
  have hw : (ma code text st pc pos hd om fr wt none sn).word 0 = 1 := h0
  unfold M.exec
  simp only [hw, show ops[1]? = some Op.SUCCESS from rfl]
  show (if (om && ((false && _) || (false && _))) = true then _ else _) = _
  rw [if_neg (by simp)]
  rfl
theorem ma_at_line (hp : pc < code.size) (h0 : code.getD pc 0 = 6) (h1 : code.getD (pc + 1) 0 = 1) : (ma code text st pc pos hd om fr wt none sn).step =
    if (pos == 0 || text.getD (pos - 1) 0 == 10) = true then ma code text st (pc + 2) pos hd om fr wt none ((sn.add 6).add (43 + code.getD (pc + 1) 0)) else ma code text st pc pos hd om fr wt (some false) ((sn.add 6).add (43 + code.getD (pc + 1) 0)) := by
  rw [step_exec hp]
  have hw : (ma code text st pc pos hd om fr wt none sn).word 0 = 6 := h0
  have hw1 : code.getD (pc + 1) 0 = 1 := h1
  unfold M.exec
  simp only [hw, show ops[6]? = some Op.AT from rfl]
  show (match M.isAt (ma code text st pc pos hd om fr wt none (sn.add 6)) (code.getD (pc + 1) 0) with | .error why => _ | .ok yes => _) = _
  have hi : M.isAt (ma code text st pc pos hd om fr wt none (sn.add 6)) (code.getD (pc + 1) 0) = .ok (pos == 0 || text.getD (pos - 1) 0 == 10) := by rw [hw1]; rfl
  rw [hi]
  rfl
theorem attempt_ {f : Sre.Frame} {t p : Nat} {o : Bool} {ans : Option Bool} (hw : wt < 1000) (hk : f.kept.marks = #[]) : (ma code text st pc pos hd om fr wt ans sn).attempt f t p o = ma code text st t p p o (f :: fr) (wt + 1) ans sn := by
  unfold M.attempt
  have : f.kept.marks.size = 0 := by rw [hk]; rfl
  show (if wt + 1 + f.kept.marks.size > 16777216 then _ else _) = _
  rw [if_neg (by omega)]
  show ma code text st t p p o (f :: fr) (wt + 1 + f.kept.marks.size) ans sn = _
  rw [this]
theorem ma_branch (hp : pc < code.size) (h0 : code.getD pc 0 = 7) (h1 : code.getD (pc + 1) 0 ≠ 0) (hw : wt < 1000) : (ma code text st pc pos hd om fr wt none sn).step =
    ma code text st (pc + 2) pos pos om ({ wait := .nextBranch, pc := pc + 1, pos, outermost := om } :: fr) (wt + 1) none (sn.add 7) := by
  rw [step_exec hp]
  have hwd : (ma code text st pc pos hd om fr wt none sn).word 0 = 7 := h0
  unfold M.exec
  simp only [hwd, show ops[7]? = some Op.BRANCH from rfl]
  show (if (code.getD (pc + 1) 0 == 0) = true then _ else (ma code text st pc pos hd om fr wt none (sn.add 7)).attempt _ (pc + 1 + 1) pos om) = _
  rw [if_neg (by simpa using h1), attempt_ hw rfl]
  rfl
theorem ma_assertNot (hp : pc < code.size) (h0 : code.getD pc 0 = 5) (h2 : code.getD (pc + 2) 0 = 0) (hw : wt < 1000) : (ma code text st pc pos hd om fr wt none sn).step =
    ma code text st (pc + 3) pos pos false ({ wait := .lookNot, pc, pos, outermost := om } :: fr) (wt + 1) none (sn.add 5) := by
  rw [step_exec hp]
  have hwd : (ma code text st pc pos hd om fr wt none sn).word 0 = 5 := h0
  unfold M.exec
  simp only [hwd, show ops[5]? = some Op.ASSERT_NOT from rfl]
  show (if pos < code.getD (pc + 2) 0 then _ else (ma code text st pc pos hd om fr wt none (sn.add 5)).attempt _ (pc + 3) (pos - code.getD (pc + 2) 0) false) = _
  rw [h2, if_neg (by omega), attempt_ hw rfl]
  rfl
theorem ma_back {f : Sre.Frame} {b : Bool} (hk : f.kept.marks = #[]) : (ma code text st pc pos hd om (f :: fr) (wt + 1) (some b) sn).step = M.resume (ma code text st f.pc f.pos hd f.outermost fr wt none sn) f b := by
  have : f.kept.marks.size = 0 := by rw [hk]; rfl
  show (if (none : Option Sre.Outcome).isSome = true then _ else M.resume (ma code text st f.pc f.pos hd f.outermost fr (wt + 1 - (1 + f.kept.marks.size)) none sn) f b) = _
  rw [if_neg (by simp), this]
  rfl
theorem ma_branch_yes {p q : Nat} {o : Bool} : (ma code text st pc pos hd om ({ wait := .nextBranch, pc := p, pos := q, outermost := o } :: fr) (wt + 1) (some true) sn).step = ma code text st p q hd o fr wt (some true) sn := by
  rw [ma_back rfl]; rfl
theorem ma_branch_no {p q : Nat} {o : Bool} (hw : wt < 1000) (h1 : code.getD (p + code.getD p 0) 0 ≠ 0) : (ma code text st pc pos hd om ({ wait := .nextBranch, pc := p, pos := q, outermost := o } :: fr) (wt + 1) (some false) sn).step =
    ma code text st (p + code.getD p 0 + 1) q q o ({ wait := .nextBranch, pc := p + code.getD p 0, pos := q, outermost := o } :: fr) (wt + 1) none sn := by
  rw [ma_back rfl]
  show (if (code.getD (p + code.getD p 0) 0 == 0) = true then _ else (ma code text st p q hd o fr wt none sn).attempt _ (p + code.getD p 0 + 1) q o) = _
  rw [if_neg (by simpa using h1), attempt_ hw rfl]
  rfl
theorem ma_lookNot_no {p q : Nat} {o : Bool} : (ma code text st pc pos hd om ({ wait := .lookNot, pc := p, pos := q, outermost := o } :: fr) (wt + 1) (some false) sn).step = ma code text st (p + 1 + code.getD (p + 1) 0) q hd o fr wt none sn := by
  rw [ma_back rfl]; rfl
theorem ma_start_yes {p q : Nat} {o : Bool} : (ma code text st pc pos hd om ({ wait := .nextStart, pc := p, pos := q, outermost := o } :: fr) (wt + 1) (some true) sn).step = ma code text st p q hd o fr wt (some true) sn := by
  rw [ma_back rfl]; rfl
theorem ma_start_no {p q : Nat} {o : Bool} : (ma code text st pc pos hd om ({ wait := .nextStart, pc := p, pos := q, outermost := o } :: fr) (wt + 1) (some false) sn).step =
    if q < text.size then (ma code text st p q hd o fr wt none sn).attemptFrom (q + 1) false else ma code text st p q hd o fr wt (some false) sn := by
  rw [ma_back rfl]; rfl
theorem ma_end {b : Bool} : ∃ m', (ma code text st pc pos hd om [] wt (some b) sn).step = m' ∧ m'.outcome = some (if b = true then .matched else .failed) ∧ m'.start = st ∧ m'.handed = hd := by
  refine ⟨_, rfl, ?_, ?_, ?_⟩ <;> cases b <;> rfl
theorem attemptAt_ {q : Nat} {f : Bool} : (ma code text st pc pos hd om [] 0 none sn).attemptAt q f = ma code text q pc q q f [{ wait := .nextStart, pc := pc, pos := q, outermost := f }] 1 none sn := by
  unfold M.attemptAt
  show (ma code text q pc q hd om [] 0 none sn).attempt _ pc q f = _
  rw [attempt_ (by decide) rfl]
  rfl
end
noncomputable def Ends (m : M) (r : Option (Nat × Nat)) : Prop := ∃ k m', k ≤ 2 ^ 62 ∧ Reach k m m' ∧ match r with
  | some (p, e) => m'.outcome = some .matched ∧ m'.start = p ∧ m'.handed = e
  | none => m'.outcome = some .failed
end Mine
end
section
open PySem PySem.W PySem.Calls PyProof.Rows
set_option Elab.async false
set_option maxRecDepth 100000
set_option linter.unusedVariables false
namespace Mine
open PySem.Sre
noncomputable def EndsIn (k : Nat) (m : M) (r : Option (Nat × Nat)) : Prop := ∃ m', Reach k m m' ∧ match r with
  | some (p, e) => m'.outcome = some .matched ∧ m'.start = p ∧ m'.handed = e
  | none => m'.outcome = some .failed
theorem EndsIn.cons {k : Nat} {m m' : M} {r : Option (Nat × Nat)} (h : m.step = m') (e : EndsIn k m' r) : EndsIn (k + 1) m r := let ⟨x, a, b⟩ := e; ⟨x, Reach.cons h a, b⟩
theorem EndsIn.le {k j : Nat} {m : M} {r : Option (Nat × Nat)} (e : EndsIn k m r) (h : k ≤ j) : EndsIn j m r := let ⟨x, a, b⟩ := e; ⟨x, a.le h, b⟩
section
variable {code text : Array Nat} {st pc pos hd : Nat} {om : Bool} {fr : List Sre.Frame} {wt : Nat} {sn : Sre.Seen}
theorem ends_yes : EndsIn 1 (ma code text st pc pos hd om [] wt (some true) sn) (some (st, hd)) := by
  obtain ⟨m', e, h1, h2, h3⟩ := ma_end (code := code) (text := text) (st := st) (pc := pc) (pos := pos) (hd := hd) (om := om) (wt := wt) (sn := sn) (b := true)
  exact ⟨m', Reach.one e, h1, h2, h3⟩
theorem ends_no : EndsIn 1 (ma code text st pc pos hd om [] wt (some false) sn) none := by
  obtain ⟨m', e, h1, h2, h3⟩ := ma_end (code := code) (text := text) (st := st) (pc := pc) (pos := pos) (hd := hd) (om := om) (wt := wt) (sn := sn) (b := false)
  exact ⟨m', Reach.one e, h1⟩
end
theorem fail_now {m : M} (hf : m.frames = []) (ho : m.outcome = none) : EndsIn 1 (m.say false) none := by
  refine ⟨_, Reach.one rfl, ?_⟩
  show (M.step (m.say false)).outcome = _
  unfold M.step
  have h1 : (m.say false).outcome = none := ho
  have h2 : (m.say false).frames = [] := hf
  have h3 : (m.say false).answer = some false := rfl
  rw [if_neg (by rw [h1]; simp), h2, h3]
  rfl
noncomputable def findFrom (P : Nat → Bool) (text : Array Nat) : Nat → Nat → Option Nat
  | 0, _ => none
  | n + 1, s => if s ≥ text.size then none else if P (text.getD s 0) = true then some s else findFrom P text n (s + 1)
theorem admitted_ {P : Nat → Bool} {m : M} (h : ∀ c sn, ∃ sn', inSet m.code c m.code.size 5 true sn = .ok (P c, sn')) (hl : m.lim = m.text.size) : ∀ (n s : Nat) (sn : Sre.Seen), ∃ sn', M.admitted m n s sn = .ok (findFrom P m.text n s, sn')
  | 0, s, sn => ⟨sn, rfl⟩
  | n + 1, s, sn => by
    unfold M.admitted findFrom
    rw [hl]
    split
    · exact ⟨sn, rfl⟩
    · obtain ⟨sn', e⟩ := h (m.text.getD s 0) sn
      rw [e]
      cases hp : P (m.text.getD s 0) with
      | true => exact ⟨sn', by simp⟩
      | false =>
        obtain ⟨sn'', e2⟩ := admitted_ h hl n (s + 1) sn'
        refine ⟨sn'', ?_⟩
        simp only [Bool.false_eq_true, if_false]
        exact e2
noncomputable def cName : Array Nat := #[14, 10, 4, 1, 1, 22, 0, 31, 16, 127, 0, 13, 7, 22, 0, 31, 16, 127, 0, 1]
noncomputable def cValue : Array Nat := #[14, 14, 4, 1, 1, 9, 4294966783, 0, 0, 2147483648, 0, 0, 0, 0, 0, 13, 11, 9, 4294966783, 0, 0, 2147483648, 0, 0, 0, 0, 0, 1]
noncomputable def cEol : Array Nat := #[14, 9, 4, 1, 2, 16, 10, 16, 13, 0, 7, 7, 16, 13, 16, 10, 15, 18, 5, 16, 10, 15, 13, 11, 16, 13, 5, 5, 0, 16, 10, 1, 15, 2, 0, 1]
noncomputable def cDot : Array Nat := #[14, 4, 0, 1, 1, 6, 1, 16, 46, 1]
noncomputable def pName (c : Nat) : Bool := decide (0 ≤ c ∧ c ≤ 31) || c == 127
noncomputable def pEol (c : Nat) : Bool := c == 10 || c == 13
noncomputable def pValue (c : Nat) : Bool := decide (c < 256) && ((#[4294966783, 0, 0, 2147483648, 0, 0, 0, 0] : Array Nat).getD (c / 32) 0).testBit (c % 32)
theorem okk {b b' : Bool} {sn : Sre.Seen} (e : b = b') : (Except.ok (b, sn) : Except String (Bool × Sre.Seen)) = .ok (b', sn) := by rw [e]
theorem set_name (c : Nat) (sn : Sre.Seen) : ∃ sn', inSet cName c cName.size 5 true sn = .ok (pName c, sn') := by
  show ∃ sn', inSet cName c (17 + 1 + 1 + 1) 5 true sn = _
  unfold inSet
  simp only [show cName.getD (5 + 0) 0 = 22 from rfl, show ops[22]? = some Op.RANGE from rfl, show cName.getD (5 + 1) 0 = 0 from rfl, show cName.getD (5 + 2) 0 = 31 from rfl]
  unfold pName
  by_cases h : 0 ≤ c ∧ c ≤ 31
  · rw [if_pos (by simpa using h)]
    exact ⟨_, okk (by simp [h])⟩
  · rw [if_neg (by simpa using h)]
    unfold inSet
    simp only [show cName.getD (5 + 3 + 0) 0 = 16 from rfl, show ops[16]? = some Op.LITERAL from rfl, show cName.getD (5 + 3 + 1) 0 = 127 from rfl]
    by_cases h2 : c = 127
    · rw [if_pos (by simpa using h2)]
      exact ⟨_, okk (by simp [h, h2])⟩
    · rw [if_neg (by simpa using h2)]
      unfold inSet
      simp only [show cName.getD (5 + 3 + 2 + 0) 0 = 0 from rfl, show ops[0]? = some Op.FAILURE from rfl]
      exact ⟨_, okk (by simp [h2]; omega)⟩
theorem set_eol (c : Nat) (sn : Sre.Seen) : ∃ sn', inSet cEol c cEol.size 5 true sn = .ok (pEol c, sn') := by
  show ∃ sn', inSet cEol c (33 + 1 + 1 + 1) 5 true sn = _
  unfold inSet
  simp only [show cEol.getD (5 + 0) 0 = 16 from rfl, show ops[16]? = some Op.LITERAL from rfl, show cEol.getD (5 + 1) 0 = 10 from rfl]
  unfold pEol
  by_cases h : c = 10
  · rw [if_pos (by simpa using h)]
    exact ⟨_, okk (by simp [h])⟩
  · rw [if_neg (by simpa using h)]
    unfold inSet
    simp only [show cEol.getD (5 + 2 + 0) 0 = 16 from rfl, show ops[16]? = some Op.LITERAL from rfl, show cEol.getD (5 + 2 + 1) 0 = 13 from rfl]
    by_cases h2 : c = 13
    · rw [if_pos (by simpa using h2)]
      exact ⟨_, okk (by simp [h, h2])⟩
    · rw [if_neg (by simpa using h2)]
      unfold inSet
      simp only [show cEol.getD (5 + 2 + 2 + 0) 0 = 0 from rfl, show ops[0]? = some Op.FAILURE from rfl]
      exact ⟨_, okk (by simp [h, h2])⟩
theorem set_value (c : Nat) (sn : Sre.Seen) : ∃ sn', inSet cValue c cValue.size 5 true sn = .ok (pValue c, sn') := by
  show ∃ sn', inSet cValue c (26 + 1 + 1) 5 true sn = _
  unfold inSet
  simp only [show cValue.getD (5 + 0) 0 = 9 from rfl, show ops[9]? = some Op.CHARSET from rfl]
  unfold pValue
  have hw : c < 256 → cValue.getD (5 + (1 + c / 32)) 0 = (#[4294966783, 0, 0, 2147483648, 0, 0, 0, 0] : Array Nat).getD (c / 32) 0 := by
    intro h
    have : c / 32 < 8 := by omega
    generalize c / 32 = k at this
    match k, this with
    | 0, _ => rfl
    | 1, _ => rfl
    | 2, _ => rfl
    | 3, _ => rfl
    | 4, _ => rfl
    | 5, _ => rfl
    | 6, _ => rfl
    | 7, _ => rfl
    | k + 8, h => omega
  by_cases h : c < 256
  · rw [hw h]
    cases hb : ((#[4294966783, 0, 0, 2147483648, 0, 0, 0, 0] : Array Nat).getD (c / 32) 0).testBit (c % 32)
    · rw [if_neg (by simp)]
      unfold inSet
      simp only [show cValue.getD (5 + 9 + 0) 0 = 0 from rfl, show ops[0]? = some Op.FAILURE from rfl]
      exact ⟨_, okk (by simp)⟩
    · rw [if_pos (by simp [h])]
      exact ⟨_, okk (by simp [h])⟩
  · rw [if_neg (by simp [h])]
    unfold inSet
    simp only [show cValue.getD (5 + 9 + 0) 0 = 0 from rfl, show ops[0]? = some Op.FAILURE from rfl]
    exact ⟨_, okk (by simp [h])⟩
theorem findFrom_none {P : Nat → Bool} {text : Array Nat} (h : ∀ i, i < text.size → P (text.getD i 0) = false) : ∀ n s, findFrom P text n s = none
  | 0, _ => rfl
  | n + 1, s => by
    unfold findFrom
    split
    · rfl
    · rw [h s (by omega)]
      simp only [Bool.false_eq_true, if_false]
      exact findFrom_none h n (s + 1)
theorem clean_search {code : Array Nat} {P : Nat → Bool} (hs : ∀ c sn, ∃ sn', inSet code c code.size 5 true sn = .ok (P c, sn')) {text : Array Nat} (h : ∀ i, i < text.size → P (text.getD i 0) = false)
    (hc : ∃ m1 m2 : M, m1.frames = [] ∧ m1.outcome = none ∧ m2.frames = [] ∧ m2.outcome = none ∧ m2.code = code ∧ m2.text = text ∧ m2.lim = text.size ∧ M.hasFirstSet m2 = true ∧
      forSearch code text 0 0 text.size false = if (decide (0 > text.size) || decide (text.size - 0 < 1)) = true then m1.say false else m2.attemptFrom 0 true) : EndsIn 1 (forSearch code text 0 0 text.size false) none := by
  obtain ⟨m1, m2, f1, o1, f2, o2, hcode, htext, hlim, hfs, e⟩ := hc
  rw [e]
  split
  · exact fail_now f1 o1
  · unfold M.attemptFrom
    rw [if_neg (by rw [hfs]; simp)]
    obtain ⟨sn', e2⟩ := admitted_ (m := m2) (P := P) (by rw [hcode]; exact hs) (by rw [hlim, htext]) (m2.lim + 1 - 0) 0 m2.seen
    rw [htext, findFrom_none h] at e2
    rw [e2]
    exact fail_now (m := { m2 with seen := sn' }) f2 o2
theorem search_name {text : Array Nat} (h : ∀ i, i < text.size → pName (text.getD i 0) = false) : EndsIn 1 (forSearch cName text 0 0 text.size false) none :=
  clean_search set_name h ⟨_, _, rfl, rfl, rfl, rfl, rfl, rfl, rfl, rfl, rfl⟩
theorem search_value {text : Array Nat} (h : ∀ i, i < text.size → pValue (text.getD i 0) = false) : EndsIn 1 (forSearch cValue text 0 0 text.size false) none :=
  clean_search set_value h ⟨_, _, rfl, rfl, rfl, rfl, rfl, rfl, rfl, rfl, rfl⟩
end Mine
end
section
open PySem PySem.W PySem.Calls PyProof.Rows
set_option Elab.async false
set_option maxRecDepth 100000
set_option linter.unusedVariables false
namespace Mine
open PySem.Sre
section
variable {text : Array Nat} {hd : Nat} {sn : Sre.Seen}
noncomputable abbrev fS (pc pos : Nat) (om : Bool) : Sre.Frame := { wait := .nextStart, pc := pc, pos := pos, outermost := om }
theorem eol_at {p : Nat} (hp : p < text.size) (hc : pEol (text.getD p 0) = true) (om o2 : Bool) :
    EndsIn 30 (ma cEol text p 10 p hd om [fS 10 p o2] 1 none sn) (some (p, if text.getD p 0 = 13 ∧ p + 1 < text.size ∧ text.getD (p + 1) 0 = 10 then p + 2 else p + 1)) := by
  have hb : ∀ (pc pos hd : Nat) (om o : Bool) (q : Nat) (sn : Sre.Seen), EndsIn 3 (ma cEol text p pc pos hd om [{ wait := .nextBranch, pc := q, pos := p, outermost := o }, fS 10 p o2] 2 (some true) sn) (some (p, hd)) := fun pc pos hd om o q sn =>
    .cons ma_branch_yes (.cons ma_start_yes ends_yes)
  have h0 : 11 ≤ 30 := by decide
  refine EndsIn.le (k := 20) ?_ (by decide)
  refine EndsIn.cons (ma_branch (by decide) rfl (by decide) (by decide)) ?_
  by_cases h13 : text.getD p 0 = 13
  · refine EndsIn.cons (ma_lit_yes (pc := 12) (by decide) rfl (by rw [h13]; rfl) hp) ?_
    by_cases h10 : p + 1 < text.size ∧ text.getD (p + 1) 0 = 10
    · rw [if_pos ⟨h13, h10.1, h10.2⟩]
      refine EndsIn.cons (ma_lit_yes (pc := 14) (by decide) rfl (by rw [h10.2]; rfl) h10.1) ?_
      refine EndsIn.cons (ma_jump (pc := 16) (by decide) rfl) ?_
      refine EndsIn.cons (ma_success (pc := 35) (by decide) rfl) ?_
      exact (hb ..).le (by decide)
    · rw [if_neg (fun h => h10 h.2)]
      refine EndsIn.cons (ma_lit_no (pc := 14) (by decide) rfl (fun hl e => h10 ⟨hl, e⟩)) ?_
      refine EndsIn.cons (ma_branch_no (p := 11) (by decide) (by decide)) ?_
      refine EndsIn.cons (ma_lit_no (pc := 19) (by decide) rfl (fun hl e => by rw [h13] at e; cases e)) ?_
      refine EndsIn.cons (ma_branch_no (p := 18) (by decide) (by decide)) ?_
      refine EndsIn.cons (ma_lit_yes (pc := 24) (by decide) rfl (by rw [h13]; rfl) hp) ?_
      refine EndsIn.cons (ma_assertNot (pc := 26) (by decide) rfl rfl (by decide)) ?_
      refine EndsIn.cons (ma_lit_no (pc := 29) (by decide) rfl (fun hl e => h10 ⟨hl, e⟩)) ?_
      refine EndsIn.cons ma_lookNot_no ?_
      refine EndsIn.cons (ma_jump (pc := 32) (by decide) rfl) ?_
      refine EndsIn.cons (ma_success (pc := 35) (by decide) rfl) ?_
      exact (hb ..).le (by decide)
  · have h10 : text.getD p 0 = 10 := by
      unfold pEol at hc
      simp only [Bool.or_eq_true, beq_iff_eq] at hc
      rcases hc with h | h
      · exact h
      · exact absurd h h13
    rw [if_neg (fun h => h13 h.1)]
    refine EndsIn.cons (ma_lit_no (pc := 12) (by decide) rfl (fun hl e => h13 e)) ?_
    refine EndsIn.cons (ma_branch_no (p := 11) (by decide) (by decide)) ?_
    refine EndsIn.cons (ma_lit_yes (pc := 19) (by decide) rfl (by rw [h10]; rfl) hp) ?_
    refine EndsIn.cons (ma_jump (pc := 21) (by decide) rfl) ?_
    refine EndsIn.cons (ma_success (pc := 35) (by decide) rfl) ?_
    exact (hb ..).le (by decide)
end
theorem findFrom_some {P : Nat → Bool} {text : Array Nat} : ∀ {n s p : Nat}, findFrom P text n s = some p → s ≤ p ∧ p < text.size ∧ P (text.getD p 0) = true ∧ ∀ i, s ≤ i → i < p → P (text.getD i 0) = false
  | 0, s, p, h => by cases h
  | n + 1, s, p, h => by
    unfold findFrom at h
    split at h
    · cases h
    · rename_i hs
      split at h
      · rename_i hp; cases h
        exact ⟨Nat.le_refl _, by omega, hp, fun i h1 h2 => by omega⟩
      · rename_i hp
        obtain ⟨h1, h2, h3, h4⟩ := findFrom_some h
        refine ⟨by omega, h2, h3, fun i h5 h6 => ?_⟩
        by_cases e : i = s
        · subst e; simpa using hp
        · exact h4 i (by omega) h6
theorem findFrom_end {P : Nat → Bool} {text : Array Nat} : ∀ {n s : Nat}, findFrom P text n s = none → text.size < s + n → ∀ i, s ≤ i → i < text.size → P (text.getD i 0) = false
  | 0, s, h, hn, i, h1, h2 => by omega
  | n + 1, s, h, hn, i, h1, h2 => by
    unfold findFrom at h
    split at h
    · omega
    · split at h
      · cases h
      · rename_i hp
        by_cases e : i = s
        · subst e; simpa using hp
        · exact findFrom_end h (by omega) i (by omega) h2
noncomputable def nextEol (text : Array Nat) (s : Nat) : Option (Nat × Nat) := (findFrom pEol text (text.size + 1 - s) s).map fun p => (p, if text.getD p 0 = 13 ∧ p + 1 < text.size ∧ text.getD (p + 1) 0 = 10 then p + 2 else p + 1)
theorem search_eol {text : Array Nat} {s : Nat} (hs : s ≤ text.size) : EndsIn 30 (forSearch cEol text 0 s text.size false) (nextEol text s) := by
  have e : forSearch cEol text 0 s text.size false = if (decide (s > text.size) || decide (text.size - s < 1)) = true then ({ ma cEol text s 10 s s true [] 0 none (({} : Sre.Seen).add 14) with lastStart := 0 }).say false else (ma cEol text s 10 s s true [] 0 none (({} : Sre.Seen).add 14)).attemptFrom s true := by
    unfold forSearch
    rfl
  rw [e]
  split
  · rename_i h
    have h : s = text.size := by simp at h; omega
    have : nextEol text s = none := by
      unfold nextEol
      rw [h, show text.size + 1 - text.size = 0 + 1 by omega]
      unfold findFrom
      rw [if_pos (Nat.le_refl _)]
      rfl
    rw [this]
    exact (fail_now rfl rfl).le (by decide)
  · unfold M.attemptFrom
    rw [if_neg (show ¬ ((!M.hasFirstSet (ma cEol text s 10 s s true [] 0 none (({} : Sre.Seen).add 14))) = true) by
      rw [show M.hasFirstSet (ma cEol text s 10 s s true [] 0 none (({} : Sre.Seen).add 14)) = true from rfl]; simp)]
    obtain ⟨sn', e2⟩ := admitted_ (m := ma cEol text s 10 s s true [] 0 none (({} : Sre.Seen).add 14)) (P := pEol) set_eol rfl (text.size + 1 - s) s (({} : Sre.Seen).add 14)
    have e3 : M.admitted (ma cEol text s 10 s s true [] 0 none (({} : Sre.Seen).add 14)) ((ma cEol text s 10 s s true [] 0 none (({} : Sre.Seen).add 14)).lim + 1 - s) s (ma cEol text s 10 s s true [] 0 none (({} : Sre.Seen).add 14)).seen = .ok (findFrom pEol text (text.size + 1 - s) s, sn') := e2
    rw [e3]
    unfold nextEol
    cases hf : findFrom pEol text (text.size + 1 - s) s with
    | none => exact (fail_now (m := ma cEol text s 10 s s true [] 0 none sn') rfl rfl).le (by decide)
    | some p =>
      obtain ⟨h1, h2, h3, _⟩ := findFrom_some hf
      show EndsIn 30 ((ma cEol text s 10 s s true [] 0 none sn').attemptAt p true) _
      rw [attemptAt_]
      exact eol_at h2 h3 true true
noncomputable def dotAt (text : Array Nat) (s : Nat) : Bool := (s == 0 || text.getD (s - 1) 0 == 10) && decide (s < text.size) && text.getD s 0 == 46
noncomputable def nextDot (text : Array Nat) : Nat → Nat → Option (Nat × Nat)
  | 0, _ => none
  | n + 1, s => if dotAt text s = true then some (s, s + 1) else if s < text.size then nextDot text n (s + 1) else none
theorem dot_from {text : Array Nat} : ∀ (n s hd : Nat) (om : Bool) (sn : Sre.Seen), text.size < s + n → EndsIn (4 * n + 4) (ma cDot text s 5 s hd om [fS 5 s om] 1 none sn) (nextDot text n s)
  | 0, s, hd, om, sn, hn => by
    unfold nextDot
    refine EndsIn.le (k := 1 + 1 + 1 + 1) ?_ (by decide)
    have no : ∀ (pc pos hd : Nat) (o : Bool) (sn : Sre.Seen), EndsIn 2 (ma cDot text s pc pos hd o [fS 5 s om] 1 (some false) sn) none := fun pc pos hd o sn =>
      .cons (by rw [ma_start_no, if_neg (by omega)]) ends_no
    refine EndsIn.cons (ma_at_line (pc := 5) (by decide) rfl rfl) ?_
    split
    · exact EndsIn.cons (ma_lit_no (pc := 7) (by decide) rfl (fun hl => by omega)) (no ..)
    · exact (no ..).le (by decide)
  | n + 1, s, hd, om, sn, hn => by
    have no : ∀ (pc pos hd : Nat) (o : Bool) (sn : Sre.Seen), dotAt text s = false → EndsIn (4 * n + 4 + 1) (ma cDot text s pc pos hd o [fS 5 s om] 1 (some false) sn) (nextDot text (n + 1) s) := fun pc pos hd o sn hd' => by
      unfold nextDot
      rw [hd']
      simp only [Bool.false_eq_true, if_false]
      by_cases hl : s < text.size
      · rw [if_pos hl]
        refine EndsIn.cons (m' := ma cDot text (s + 1) 5 (s + 1) (s + 1) false [fS 5 (s + 1) false] 1 none sn) ?_ (dot_from n (s + 1) (s + 1) false sn (by omega))
        rw [ma_start_no, if_pos hl]
        unfold M.attemptFrom
        rw [if_pos (show (!M.hasFirstSet (ma cDot text s 5 s hd om [] 0 none sn)) = true from rfl), attemptAt_]
      · rw [if_neg hl]
        refine (EndsIn.cons (m' := ma cDot text s 5 s hd om [] 0 (some false) sn) ?_ ends_no).le (by omega)
        rw [ma_start_no, if_neg hl]
    refine EndsIn.le (k := 4 * n + 4 + 1 + 1 + 1) ?_ (by omega)
    refine EndsIn.cons (ma_at_line (pc := 5) (by decide) rfl rfl) ?_
    cases hb : (s == 0 || text.getD (s - 1) 0 == 10) with
    | false =>
      rw [if_neg (by simp)]
      exact (no _ _ _ _ _ (by unfold dotAt; rw [hb]; rfl)).le (by omega)
    | true =>
      rw [if_pos rfl]
      by_cases hc : s < text.size ∧ text.getD s 0 = 46
      · refine EndsIn.cons (ma_lit_yes (pc := 7) (by decide) rfl (by rw [hc.2]; rfl) hc.1) ?_
        have : nextDot text (n + 1) s = some (s, s + 1) := by
          unfold nextDot
          have : dotAt text s = true := by unfold dotAt; rw [hb, hc.2]; simp [hc.1]
          rw [if_pos this]
        rw [this]
        refine (EndsIn.cons (ma_success (pc := 9) (by decide) rfl) (EndsIn.cons ma_start_yes ends_yes)).le (by omega)
      · refine EndsIn.cons (ma_lit_no (pc := 7) (by decide) rfl (fun hl e => hc ⟨hl, e⟩)) ?_
        refine no _ _ _ _ _ ?_
        unfold dotAt
        rw [hb]
        by_cases h1 : s < text.size
        · have : text.getD s 0 ≠ 46 := fun e => hc ⟨h1, e⟩
          rw [beq_eq_false_iff_ne.mpr this, Bool.and_false]
        · simp [h1]
theorem search_dot {text : Array Nat} {s : Nat} (hs : s ≤ text.size) : EndsIn (4 * text.size + 8) (forSearch cDot text 0 s text.size false) (nextDot text (text.size + 1 - s) s) := by
  have e : forSearch cDot text 0 s text.size false = if (decide (s > text.size) || decide (text.size - s < 1)) = true then ({ ma cDot text s 5 s s true [] 0 none (({} : Sre.Seen).add 14) with lastStart := 0 }).say false else (ma cDot text s 5 s s true [] 0 none (({} : Sre.Seen).add 14)).attemptFrom s true := by
    unfold forSearch
    rfl
  rw [e]
  split
  · rename_i h
    have h : s = text.size := by simp at h; omega
    have : nextDot text (text.size + 1 - s) s = none := by
      rw [h, show text.size + 1 - text.size = 0 + 1 by omega]
      unfold nextDot
      have : dotAt text text.size = false := by unfold dotAt; simp
      rw [this]
      simp
    rw [this]
    exact (fail_now rfl rfl).le (by omega)
  · unfold M.attemptFrom
    rw [if_pos (show (!M.hasFirstSet (ma cDot text s 5 s s true [] 0 none (({} : Sre.Seen).add 14))) = true from rfl), attemptAt_]
    exact (dot_from (text.size + 1 - s) s s true _ (by omega)).le (by omega)
end Mine
end
section
open PySem PySem.W PySem.Calls PyProof.Rows
set_option Elab.async false
set_option maxRecDepth 100000
set_option linter.unusedVariables false
namespace Mine
open PySem.Sre Builtin Builtin.Re
theorem plainAttrs_pattern : PlainAttrs "re.Pattern" :=
  ⟨⟨"object.__getattribute__", by rw [typeLookup_type, builtinLookup_eq_fast]; kernel_rfl, by decide +kernel⟩, by rw [typeLookup_type, builtinLookup_eq_fast]; kernel_rfl⟩
theorem slot_sub : Slot "re.Pattern" "sub" "re.Pattern.sub" :=
  .of (owner := "re.Pattern") (n := "sub") (by rw [typeLookup_type, builtinLookup_eq_fast]; kernel_rfl) (by decide +kernel) (by decide +kernel) (by decide +kernel)
    (by first | exact .inl (by decide +kernel) | exact .inr (by decide +kernel)) (by rw [isSubtype_type]; kernel_rfl)
theorem slot_search : Slot "re.Pattern" "search" "re.Pattern.search" :=
  .of (owner := "re.Pattern") (n := "search") (by rw [typeLookup_type, builtinLookup_eq_fast]; kernel_rfl) (by decide +kernel) (by decide +kernel) (by decide +kernel)
    (by first | exact .inl (by decide +kernel) | exact .inr (by decide +kernel)) (by rw [isSubtype_type]; kernel_rfl)
theorem type_sub : typeOf (.builtin "re.Pattern.sub") = pure (.type "method_descriptor") := by show builtinType _ = _; rw [builtinType_eq_fast]; kernel_rfl
theorem type_search : typeOf (.builtin "re.Pattern.search") = pure (.type "method_descriptor") := by show builtinType _ = _; rw [builtinType_eq_fast]; kernel_rfl
theorem entry_sub : entryFor table "re.Pattern.sub" = some Builtin.«re.Pattern.sub» := entryFor_of_tree (by kernel_rfl)
theorem entry_search : entryFor table "re.Pattern.search" = some Builtin.«re.Pattern.search» := entryFor_of_tree (by kernel_rfl)
theorem entry_subLoop : entryFor table "re.Pattern.sub.loop" = some Builtin.«re.Pattern.sub.loop» := entryFor_of_tree (by kernel_rfl)
theorem plain_subLoop : plainId "re.Pattern.sub.loop" = true := by decide +kernel
theorem args_sub (a b c : Value) : argsOk "re.Pattern.sub" ⟨[a, b, c], []⟩ := by unfold argsOk; kernel_rfl
theorem args_search (a b : Value) : argsOk "re.Pattern.search" ⟨[a, b], []⟩ := by unfold argsOk; kernel_rfl
noncomputable def IsPat (h : Heap) (P : Addr) (code : Array Nat) (kind : Nat) : Prop :=
  ∃ pt fl t0 ct tk sl oc items n, h.get? P = some ⟨.type "re.Pattern", none, .fields #[pt, fl, .int 0 t0, .none, .none, .ref ct, .int (kind : Nat) tk], sl⟩ ∧ h.get? ct = some oc ∧ oc.data = .seq items n ∧ (items.map reRawOf).map (·.toNat) = code
theorem IsPat.keeps {h h' : Heap} {P : Addr} {code : Array Nat} {kind : Nat} (p : IsPat h P code kind) (k : ∀ a o, h.get? a = some o → h'.get? a = some o) : IsPat h' P code kind := by
  obtain ⟨pt, fl, t0, ct, tk, sl, oc, items, n, h1, h2, h3, h4⟩ := p
  exact ⟨pt, fl, t0, ct, tk, sl, oc, items, n, k _ _ h1, k _ _ h2, h3, h4⟩
section
variable {prog : Program} {w : World} {A : Around} {E : Value → Shared → Prop} {s : Shared} {P : Addr} {code : Array Nat} {kind : Nat}
theorem IsPat.typeIs (p : IsPat s.heap P code kind) : s.TypeIs (.ref P) "re.Pattern" := by
  obtain ⟨pt, fl, t0, ct, tk, sl, oc, items, n, h1, _⟩ := p
  exact ⟨_, h1, rfl⟩
theorem fields_at {a : Addr} {o : Obj} {vs : Array Value} {M : Model} {Q : Array Value → Shared → Prop} (ho : s.heap.get? a = some o) (hd : o.data = .fields vs) (q : Q vs s) : wpAny M A (fieldsOf (.ref a)) Q E s := by
  unfold fieldsOf
  refine wpAny_bind (wpAny_load ho ?_)
  rw [hd]; exact wpAny_pure q
theorem raw_items {a : Addr} {o : Obj} {vs : Array Value} {n : Nat} {M : Model} {Q : Array Int → Shared → Prop} (ho : s.heap.get? a = some o) (hd : o.data = .seq vs n) (q : Q (vs.map reRawOf) s) : wpAny M A (reRawItems (.ref a)) Q E s := by
  unfold reRawItems
  exact wpAny_bind (wpAny_seqItems ho hd (wpAny_pure q))
theorem search_none {x : Str} {t : Tok} {k : Nat} {Q : Value → Shared → Prop} (p : IsPat s.heap P code 0) (hx : x.length ≤ 16777216) (he : EndsIn k (forSearch code x.cps 0 0 x.cps.size false) none) (hk : k ≤ 2 ^ 62) (q : Q .none s) :
    wpAny (model prog w) A (call (.builtin "re.Pattern.search") [.ref P, .str x t]) Q E s := by
  refine wpAny_call_entry slot_search p.typeIs entry_search ?_ (args_search _ _)
  obtain ⟨pt, fl, t0, ct, tk, sl, oc, items, n, h1, h2, h3, h4⟩ := p
  unfold Builtin.«re.Pattern.search»
  refine wpAny_bind ?_
  unfold reTarget
  dsimp only
  refine wpAny_bind (wpAny_of_eq (a := [some (.str x t), none, none]) (by kernel_rfl) ?_)
  dsimp only
  refine wpAny_bind (wpAny_pure (wpAny_bind (wpAny_pure ?_)))
  refine wpAny_bind (fields_at h1 rfl ?_)
  refine wpAny_bind (wpAny_of_eq (a := (x.cps, 0)) (by rfl) ?_)
  dsimp only
  refine wpAny_bind (m := reNoCollectionInside _ _) (wpAny_pure ?_)
  refine wpAny_bind (raw_items h2 h3 (wpAny_pure ?_))
  rw [h4]
  unfold reAnswer
  dsimp only
  have e0 : min (0 : Int).toNat x.cps.size = 0 := by simp
  have e1 : min (2 ^ 63 - 1 : Int).toNat x.cps.size = x.cps.size := by
    have : x.cps.size ≤ 16777216 := hx
    omega
  rw [e0, e1]
  obtain ⟨m', r, ho⟩ := he
  refine wpAny_bind (toEnd r hk (.inr ho) ?_)
  rw [ho]
  exact wpAny_pure ⟨_, rfl, q⟩
end
end Mine
end
section
open PySem PySem.W PySem.Calls PyProof.Rows
set_option Elab.async false
set_option maxRecDepth 100000
set_option linter.unusedVariables false
namespace Mine
open PySem.Sre Builtin Builtin.Re
noncomputable def substF (next : Nat → Option (Nat × Nat)) (l rp : List Nat) : Nat → Nat → List Nat
  | 0, d => l.drop d
  | n + 1, d => match next d with
    | none => l.drop d
    | some (p, e) => (l.drop d).take (p - d) ++ (rp ++ substF next l rp n e)
noncomputable def cat (ts : List Str) : List Nat := ts.flatMap fun y => y.cps.toList
theorem cat_append (a b : List Str) : cat (a ++ b) = cat a ++ cat b := by simp [cat]
theorem glued_empty (sep : Str) (he : sep.cps = #[]) (ts : List Str) : Txt.join sep ts = tx (cat ts) := by
  unfold Txt.join Builtin.Str.glued
  refine Str.ext' ?_
  have gen : ∀ (r : List Str) (acc : Array Nat), r.foldl (fun acc p => acc ++ sep.cps ++ p.cps) acc = acc ++ (cat r).toArray := by
    intro r
    induction r with
    | nil => intro acc; simp [cat]
    | cons a r ih => intro acc; rw [List.foldl_cons, ih, he]; apply Array.ext'; simp [cat]
  cases ts with
  | nil => simp [cat, tx, Str.empty]
  | cons a r =>
    show (List.foldl _ a.cps r) = _
    rw [gen]; simp [cat, tx]
theorem joinOk_cat {sep : Str} (he : sep.cps = #[]) {ts : List Str} (h : (cat ts).length ≤ 16777216) : JoinOk sep ts = true := by
  unfold JoinOk
  have hl : sep.length = 0 := by unfold Str.length; rw [he]; rfl
  have gen : ∀ (r : List Str) (n : Nat), r.foldl (fun n p => n + p.length + sep.length) n = n + (cat r).length := by
    intro r
    induction r with
    | nil => intro n; simp [cat]
    | cons a r ih =>
      intro n
      rw [List.foldl_cons, ih, hl]
      have : (cat (a :: r)).length = a.length + (cat r).length := by simp [cat, Str.length]
      omega
  unfold Builtin.Str.tooLong
  rw [List.foldl_toArray, gen, sizeLine_eq, decide_eq_false (by omega)]
  rfl
theorem cat_length_le (a b : List Str) : (cat a).length ≤ (cat (a ++ b)).length := by rw [cat_append, List.length_append]; omega
theorem extract_list (x : Array Nat) (d p : Nat) : (x.extract d p).toList = (x.toList.drop d).take (p - d) := by simp
section
variable {prog : Program} {w : World} {A : Around} {P : Addr} {code : Array Nat}
theorem str_ok (x : Str) (t : Tok) : ∀ (M : Model) (A : Around) (E : Value → Shared → Prop) (s : Shared) (Q : Array Nat × Nat → Shared → Prop), Q (x.cps, 0) s → wpAny M A (reTextOf (.str x t)) Q E s := fun M A E s Q q => wpAny_of_eq (a := (x.cps, 0)) (by rfl) q
theorem whole_target {M : Model} {E : Value → Shared → Prop} {s : Shared} {x : Str} {t : Tok} {Q : ReTarget → Shared → Prop} (p : IsPat s.heap P code 0) (q : Q ⟨.ref P, .str x t, code, x.cps, 0, 0, 0, x.cps.size⟩ s) : wpAny M A (reWholeTarget (.ref P) (.str x t)) Q E s := by
  obtain ⟨pt, fl, t0, ct, tk, sl, oc, items, n, h1, h2, h3, h4⟩ := p
  unfold reWholeTarget
  refine wpAny_bind (fields_at h1 rfl ?_)
  refine wpAny_bind (wpAny_of_eq (a := (x.cps, 0)) (by rfl) ?_)
  dsimp only
  refine wpAny_bind (m := reNoCollectionInside _ _) (wpAny_pure ?_)
  refine wpAny_bind (raw_items h2 h3 (wpAny_pure ?_))
  rw [h4]
  exact q
theorem slice_ {M : Model} {E : Value → Shared → Prop} {s : Shared} {text : Array Nat} {b e : Nat} {Q : Value → Shared → Prop} (h : (text.extract b e).size ≤ 16777216) (q : Q (.str ⟨text.extract b e⟩ s.toks) { s with toks := s.toks + 1 }) : wpAny M A (reSlice text 0 b e) Q E s := by
  unfold reSlice
  rw [if_pos (show ((0 : Nat) == 0) = true from rfl)]
  exact wpAny_mkStr q (by rw [sizeLine_eq]; exact h)
noncomputable def cats (ps : List (List Nat × Tok)) : List Nat := ps.flatMap (·.1)
theorem cats_snoc (ps : List (List Nat × Tok)) (l : List Nat) (t : Tok) : cats (ps ++ [(l, t)]) = cats ps ++ l := by simp [cats]
noncomputable def vals (mk : List Nat → Tok → Value) (ps : List (List Nat × Tok)) : List Value := ps.map fun p => mk p.1 p.2
structure SubE (prog : Program) (w : World) (A : Around) (P : Addr) (code : Array Nat) (kind : Nat) (mk : List Nat → Tok → Value) (text : Array Nat) (SV RV : Value) (h₀ : Heap) : Prop where
  tgt : ∀ {E s Q}, (∀ a o, h₀.get? a = some o → s.heap.get? a = some o) → Q ⟨.ref P, SV, code, text, kind, 0, 0, text.size⟩ s → wpAny (model prog w) A (reWholeTarget (.ref P) SV) Q E s
  lit : reLiteralCannotBeTurned RV = pure ()
  non : (RV != .none) = true
  slice : ∀ {E s Q b e}, (text.extract b e).size ≤ 16777216 → Q (mk (text.extract b e).toList s.toks) { s with toks := s.toks + 1 } → wpAny (model prog w) A (reSlice text kind b e) Q E s
  join : ∀ {E s Q t D k} {ps : List (List Nat × Tok)}, s.heap.get? D = some (seqObj "list" (vals mk ps).toArray k) → (cats ps).length ≤ 16777216 → (∀ t' k', Q (mk (cats ps) t') { s with toks := k' }) →
    wpAny (model prog w) A (call (.builtin (if kind == 0 then "str.join" else "bytes.join")) [mk [] t, .ref D]) Q E s
noncomputable def slTail (text : Array Nat) (kind : Nat) (D : Addr) : Sem Fin := do
  let joiner ← reSlice text kind 0 0
  let out ← if ((← seqItems? (.ref D)).getD #[]).isEmpty then pure joiner
    else call (.builtin (if kind == 0 then "str.join" else "bytes.join")) [joiner, .ref D]
  ret out
noncomputable def slPut (P : Addr) (SV RV : Value) (D : Addr) (cnt : Int) (m : M) : Sem Fin := do
  if RV != .none then updateSeq D (·.push RV)
  again (.builtin "re.Pattern.sub.loop" ⟨[.ref P, SV, RV, rawInt 0, rawInt 0, rawInt (cnt + 1), rawInt m.handed, rawInt m.handed, .bool (m.handed == m.start), .ref D, .bool false], []⟩)
noncomputable def slCut (text : Array Nat) (kind : Nat) (D : Addr) (d e : Nat) (k : Sem Fin) : Sem Fin :=
  if d < e then (do let x ← reSlice text kind d e; updateSeq D (·.push x); k) else k
noncomputable def slTurn (P : Addr) (SV RV : Value) (D : Addr) (cnt : Int) (d : Nat) (t : ReTarget) : Option M → Sem Fin
  | some m => slCut t.text t.kind D d m.start (slPut P SV RV D cnt m)
  | none => slCut t.text t.kind D d t.lim (slTail t.text t.kind D)
theorem sl_eq (P : Addr) (SV RV : Value) (D : Addr) (cnt d : Nat) :
    Builtin.«re.Pattern.sub.loop» ⟨[.ref P, SV, RV, rawInt 0, rawInt 0, rawInt cnt, rawInt d, rawInt d, .bool false, .ref D, .bool false], []⟩ =
      (reWholeTarget (.ref P) SV >>= fun t => reLiteralCannotBeTurned RV >>= fun _ => reRunToEnd (forSearch t.code t.text t.groups d t.lim false) >>= slTurn P SV RV D cnt d t) := by
  unfold Builtin.«re.Pattern.sub.loop»
  refine congrArg (reWholeTarget (.ref P) SV >>= ·) (funext fun t => congrArg (reLiteralCannotBeTurned RV >>= ·) (funext fun _ => congrArg (reRunToEnd (forSearch t.code t.text t.groups d t.lim false) >>= ·) (funext fun r => ?_)))
  cases r <;> rfl
section
variable {kind : Nat} {mk : List Nat → Tok → Value} {text : Array Nat} {SV RV : Value} {h₀ : Heap} {E : Value → Shared → Prop} {s : Shared} {D : Addr} {k d e : Nat} {ps : List (List Nat × Tok)}
theorem sl_tail {Q : Fin → Shared → Prop} (G : SubE prog w A P code kind mk text SV RV h₀) (hD : s.heap.get? D = some (seqObj "list" (vals mk ps).toArray k)) (hz : (cats ps).length ≤ 16777216)
    (q : ∀ t' k', Q (.done (.ret (mk (cats ps) t'))) { s with toks := k' }) : wpAny (model prog w) A (slTail text kind D) Q E s := by
  have e0 : (text.extract 0 0).toList = [] := by simp
  refine wpAny_bind (G.slice (by simp) ?_)
  rw [e0]
  refine wpAny_bind (wpAny_seqItems hD rfl ?_)
  cases ps with
  | nil => exact wpAny_bind (wpAny_pure (wpAny_pure (q _ _)))
  | cons a r => exact wpAny_bind (G.join hD hz fun t' k' => wpAny_pure (q t' k'))
theorem sl_cut {K : Sem Fin} {Q : Fin → Shared → Prop} (G : SubE prog w A P code kind mk text SV RV h₀) (hD : s.heap.get? D = some (seqObj "list" (vals mk ps).toArray k)) (hz : text.size ≤ 16777216) (hp : ps.length < 16777216)
    (q : ∀ ps' k' s', cats ps' = cats ps ++ (text.toList.drop d).take (e - d) → ps'.length ≤ ps.length + 1 → s' = { s with heap := s'.heap, toks := s'.toks } → (∀ a o, a ≠ D → s.heap.get? a = some o → s'.heap.get? a = some o) → s'.heap.get? D = some (seqObj "list" (vals mk ps').toArray k') → wpAny (model prog w) A K Q E s') :
    wpAny (model prog w) A (slCut text kind D d e K) Q E s := by
  unfold slCut
  refine wpAny_ite ?_
  split
  · have hl : (vals mk ps).length = ps.length := by simp [vals]
    refine wpAny_bind (G.slice (by simp; omega) (wpAny_bind (wpAny_updateSeq hD rfl ?_ (by rw [List.size_toArray, hl, sizeLine_eq]; exact Nat.le_of_lt hp) (by rw [Array.size_push, List.size_toArray, hl, sizeLine_eq]; exact Nat.le_succ_of_le hp))))
    have D' := get?_update_seq hD fun xs => xs.push (mk (text.extract d e).toList s.toks)
    rw [List.push_toArray, show vals mk ps ++ [mk (text.extract d e).toList s.toks] = vals mk (ps ++ [((text.extract d e).toList, s.toks)]) by simp [vals]] at D'
    exact q _ _ _ (by rw [cats_snoc, extract_list]) (by simp) rfl (fun a o n e => (Heap.get?_update_ne _ _ _ _ n).trans e) D'
  · refine q ps k s ?_ (Nat.le_succ _) rfl (fun _ _ _ e => e) hD
    rw [show e - d = 0 by omega, List.take_zero, List.append_nil]
end
theorem sub_loopG {kind : Nat} {mk : List Nat → Tok → Value} {text : Array Nat} {rp : List Nat} {tr : Tok} {SV : Value} {D : Addr} {h₀ : Heap} {K : Nat} {next : Nat → Option (Nat × Nat)} (hK : K ≤ 2 ^ 62)
    (G : ∀ A, SubE prog w A P code kind mk text SV (mk rp tr) h₀)
    (hnext : ∀ d, d ≤ text.size → EndsIn K (forSearch code text 0 d text.size false) (next d)) (hord : ∀ d p e, d ≤ text.size → next d = some (p, e) → d ≤ p ∧ p < e ∧ e ≤ text.size) (hD : h₀.get? D = none) (hsz : text.size ≤ 16777216) :
    ∀ (n d cnt : Nat) (ps : List (List Nat × Tok)) (k : Nat) (s : Shared) (R' : Result → Shared → Prop), d ≤ text.size → text.size - d < n → ps.length + 2 * (text.size - d) + 2 ≤ 16777216 → (cats ps ++ substF next text.toList rp n d).length ≤ 16777216 →
      (∀ a o, h₀.get? a = some o → s.heap.get? a = some o) → s.heap.get? D = some (seqObj "list" (vals mk ps).toArray k) →
      (∀ t' h' k', (∀ a o, h₀.get? a = some o → h'.get? a = some o) → R' (.ok (.ret (mk (cats ps ++ substF next text.toList rp n d) t'))) { s with heap := h', toks := k' }) →
      codeAny (model prog w) A (.builtin "re.Pattern.sub.loop" ⟨[.ref P, SV, mk rp tr, rawInt 0, rawInt 0, rawInt cnt, rawInt d, rawInt d, .bool false, .ref D, .bool false], []⟩) R' s := by
  intro n
  induction n with
  | zero => intro d cnt ps k s R' hd hn; exact absurd hn (Nat.not_lt_zero _)
  | succ n ih =>
    intro d cnt ps k s R' hd hn hps htot keep hDs q
    have hDne : ∀ {a o}, h₀.get? a = some o → a ≠ D := fun {a o} e z => by rw [z, hD] at e; cases e
    refine codeAny_builtin entry_subLoop ?_
    rw [Around.under_plainId plain_subLoop, sl_eq]
    refine wpAny_bind ((G _).tgt keep (wpAny_bind (wpAny_of_eq (G A).lit (wpAny_bind ?_))))
    obtain ⟨m', r, ho⟩ := hnext d hd
    cases hnx : next d with
    | none =>
      rw [hnx] at ho
      rw [show substF next text.toList rp (n + 1) d = text.toList.drop d by simp only [substF, hnx]] at q htot
      refine toEnd r hK (.inr ho) ?_
      rw [ho]
      refine sl_cut (G _) hDs hsz (by omega) fun ps' k' s' hc hl es kk hD' => ?_
      rw [List.take_of_length_le (by simp)] at hc
      rw [← hc] at q htot
      exact sl_tail (G _) hD' htot fun t' k' => by rw [es]; exact q t' s'.heap k' fun a o e => kk a o (hDne e) (keep a o e)
    | some pe =>
      obtain ⟨p, e⟩ := pe
      obtain ⟨o1, o2, o3⟩ := hord d p e hd hnx
      rw [hnx] at ho
      obtain ⟨h1, h2, h3⟩ := ho
      rw [show substF next text.toList rp (n + 1) d = (text.toList.drop d).take (p - d) ++ (rp ++ substF next text.toList rp n e) by simp only [substF, hnx]] at q htot
      refine toEnd r hK (.inl h1) ?_
      rw [h1, if_pos rfl]
      show wpAny _ _ (slCut text kind D d m'.start (slPut P SV (mk rp tr) D cnt m')) _ _ s
      rw [h2]
      refine sl_cut (G _) hDs hsz (by omega) fun ps' k' s' hc hl es kk hD' => ?_
      unfold slPut
      rw [h3, h2, if_pos (G A).non, beq_false_of_ne (Nat.ne_of_gt o2)]
      have hv : (vals mk ps').length = ps'.length := by simp [vals]
      refine wpAny_bind (wpAny_updateSeq hD' rfl ?_ (by rw [List.size_toArray, hv, sizeLine_eq]; omega) (by rw [Array.size_push, List.size_toArray, hv, sizeLine_eq]; omega))
      refine wpAny_pure ⟨plainId_quiet plain_subLoop _, ?_⟩
      have D' := get?_update_seq hD' fun xs => xs.push (mk rp tr)
      rw [List.push_toArray, show vals mk ps' ++ [mk rp tr] = vals mk (ps' ++ [(rp, tr)]) by simp [vals]] at D'
      have ec : cats (ps' ++ [(rp, tr)]) ++ substF next text.toList rp n e = cats ps ++ ((text.toList.drop d).take (p - d) ++ (rp ++ substF next text.toList rp n e)) := by
        rw [cats_snoc, hc, List.append_assoc, List.append_assoc]
      refine ih e (cnt + 1) (ps' ++ [(rp, tr)]) _ _ R' o3 (by omega) (by rw [List.length_append]; simp only [List.length_cons, List.length_nil]; omega) (by rw [ec]; exact htot) (fun a o z => ?_) D' fun t' h' k' kk' => ?_
      · exact (Heap.get?_update_ne _ _ _ _ (hDne z)).trans (kk a o (hDne z) (keep a o z))
      · rw [ec, es]
        exact q t' h' k' kk'
theorem subE_str {t rp : List Nat} {tk tr : Tok} {h₀ : Heap} (p₀ : IsPat h₀ P code 0) : SubE prog w A P code 0 (fun l k => .str (tx l) k) t.toArray (.str (tx t) tk) (.str (tx rp) tr) h₀ where
  tgt keep q := whole_target (p₀.keeps keep) q
  lit := rfl
  non := rfl
  slice {E s Q b e} h q := slice_ h (by rw [show (⟨t.toArray.extract b e⟩ : Str) = tx (t.toArray.extract b e).toList from Str.ext' (by simp [tx])]; exact q)
  join {E s Q tj D k ps} hD hz q := by
    have e1 : vals (fun l k => .str (tx l) k) ps = strValues (ps.map fun p => (tx p.1, p.2)) := by simp [vals, strValues]
    have e2 : cat ((ps.map fun p => (tx p.1, p.2)).map (·.1)) = cats ps := by simp [cat, cats, List.flatMap_map, tx]
    rw [e1] at hD
    refine SC.join (isList hD) rfl (joinOk_cat rfl (by rw [e2]; exact hz)) fun t' k' => ?_
    rw [glued_empty (tx []) rfl, e2]
    exact q t' k'
noncomputable def slStart (P : Addr) (RV SV : Value) : Sem Fin := do
  let _ ← holding [RV] (reWholeTarget (.ref P) SV)
  let l ← newList []
  again (.builtin "re.Pattern.sub.loop" ⟨[.ref P, SV, RV, rawInt 0, rawInt 0, rawInt 0, rawInt 0, rawInt 0, .bool false, l, .bool false], []⟩)
theorem sub_runG {kind : Nat} {mk : List Nat → Tok → Value} {text : Array Nat} {rp : List Nat} {tr : Tok} {SV : Value} {K : Nat} {next : Nat → Option (Nat × Nat)} {s : Shared} {Q : Value → Shared → Prop} {E : Value → Shared → Prop} (hK : K ≤ 2 ^ 62)
    (G : ∀ A, SubE prog w A P code kind mk text SV (mk rp tr) s.heap) (pat : IsPat s.heap P code kind) (hs : Builtin.«re.Pattern.sub» ⟨[.ref P, mk rp tr, SV], []⟩ = slStart P (mk rp tr) SV)
    (hnext : ∀ d, d ≤ text.size → EndsIn K (forSearch code text 0 d text.size false) (next d)) (hord : ∀ d p e, d ≤ text.size → next d = some (p, e) → d ≤ p ∧ p < e ∧ e ≤ text.size) (hz : text.size ≤ 1000000)
    (hz2 : (substF next text.toList rp (text.size + 1) 0).length ≤ 16777216) (q : ∀ t' h' k', (∀ a o, s.heap.get? a = some o → h'.get? a = some o) → Q (mk (substF next text.toList rp (text.size + 1) 0) t') { s with heap := h', toks := k' }) :
    wpAny (model prog w) A (call (.builtin "re.Pattern.sub") [.ref P, mk rp tr, SV]) Q E s := by
  refine wpAny_call (codeAny_call_builtin slot_sub.plain entry_sub (slot_sub.check _ _ _ _ _ _ _ _ pat.typeIs (args_sub _ _ _) ?_))
  rw [hs]
  refine wpAny_bind (wpAny_holding ((G _).tgt (fun _ _ e => e) (wpAny_bind (wpAny_newObj_type ?_ (by size_fits)))))
  refine wpAny_pure ⟨plainId_quiet plain_subLoop _, ?_⟩
  refine sub_loopG hK G hnext hord ?_ (by omega) (text.size + 1) 0 0 [] 0 _ _ (Nat.zero_le _) (Nat.lt_succ_self _) (by rw [List.length_nil]; omega) hz2 (fun a o e => Heap.get?_push_of_some _ e) (Heap.get?_push_size _ rfl) fun t' h' k' kk => q t' h' k' kk
  cases e : s.heap.get? s.heap.objs.size with
  | none => rfl
  | some o => exact absurd (Heap.lt_size e) (Nat.lt_irrefl _)
theorem sub_eqS {rp t : Str} {kr k : Tok} (hr : rp.cps.contains 92 = false) : Builtin.«re.Pattern.sub» ⟨[.ref P, .str rp kr, .str t k], []⟩ = slStart P (.str rp kr) (.str t k) := by
  unfold Builtin.«re.Pattern.sub» reSubstitute
  have e2 : specialOf (.str rp kr) "__call__" = pure none := by show typeLookup (.type "str") "__call__" = _; rw [typeLookup_type, builtinLookup_eq_fast]; kernel_rfl
  have e3 : asStr? (.str rp kr) = pure (some rp) := rfl
  dsimp only
  rw [show reNamed "re.Pattern.sub" "sub" ["repl", "string", "count"] 2 [.str rp kr, .str t k] [] = pure [some (.str rp kr), some (.str t k), none] by kernel_rfl]
  rw [pure_bind]; dsimp only
  rw [pure_bind, e2, pure_bind]
  simp only [Option.isSome_none, Bool.false_eq_true, if_false]
  rw [e3, pure_bind]; dsimp only
  rw [pure_bind, hr]
  rfl
end
end Mine
end
section
open PySem PySem.W PySem.Calls PyProof.Rows
set_option Elab.async false
set_option maxRecDepth 100000
set_option linter.unusedVariables false
namespace Mine
open PySem.Sre Builtin Builtin.Re
noncomputable def eols : List Nat → List Nat
  | [] => []
  | [c] => if pEol c = true then [13, 10] else [c]
  | c :: d :: r => if c = 13 ∧ d = 10 then 13 :: 10 :: eols r else if pEol c = true then 13 :: 10 :: eols (d :: r) else c :: eols (d :: r)
noncomputable def dots : Bool → List Nat → List Nat
  | _, [] => []
  | b, c :: r => if (b && c == 46) = true then 46 :: 46 :: dots false r else c :: dots (c == 10) r
theorem eols_cons_plain {c : Nat} (h : pEol c = false) (b : List Nat) : eols (c :: b) = c :: eols b := by
  have h13 : c ≠ 13 := fun e => by subst e; simp [pEol] at h
  cases b with
  | nil => simp [eols, h]
  | cons d r => simp [eols, h, h13]
theorem eols_plain : ∀ (a b : List Nat), (∀ c ∈ a, pEol c = false) → eols (a ++ b) = a ++ eols b
  | [], b, _ => rfl
  | c :: a, b, h => by
    rw [List.cons_append, eols_cons_plain (h c (List.mem_cons_self ..)), eols_plain a b fun d hd => h d (List.mem_cons_of_mem _ hd)]
    rfl
theorem getD_list {x : Array Nat} {i : Nat} (h : i < x.size) : x.toList[i]? = some (x.getD i 0) := by simp [Array.getD, h]
theorem drop_split (l : List Nat) {d p : Nat} (h : d ≤ p) : l.drop d = (l.drop d).take (p - d) ++ l.drop p := by
  have := List.take_append_drop (p - d) (l.drop d)
  rw [List.drop_drop, show d + (p - d) = p by omega] at this
  exact this.symm
theorem take_mem {x : Array Nat} {P : Nat → Bool} {d p : Nat} (hp : p ≤ x.size) (h : ∀ i, d ≤ i → i < p → P (x.getD i 0) = false) : ∀ c ∈ (x.toList.drop d).take (p - d), P c = false := by
  intro c hc
  obtain ⟨i, hi, e⟩ := List.getElem_of_mem hc
  simp only [List.length_take, List.length_drop, Array.length_toList] at hi
  simp only [List.getElem_take, List.getElem_drop, Array.getElem_toList] at e
  have := h (d + i) (by omega) (by omega)
  rw [Array.getD, dif_pos (by omega)] at this
  have e2 : x.getInternal (d + i) (by omega) = c := e
  rw [e2] at this
  exact this
theorem nextEol_ord {x : Array Nat} {d p e : Nat} (hd : d ≤ x.size) (h : nextEol x d = some (p, e)) : d ≤ p ∧ p < e ∧ e ≤ x.size := by
  unfold nextEol at h
  simp only [Option.map_eq_some_iff] at h
  obtain ⟨q, hq, h⟩ := h
  obtain ⟨h1, h2, h3, h4⟩ := findFrom_some hq
  simp only [Prod.mk.injEq] at h
  obtain ⟨rfl, rfl⟩ := h
  by_cases hc : x.getD q 0 = 13 ∧ q + 1 < x.size ∧ x.getD (q + 1) 0 = 10
  · rw [if_pos hc]; have := hc.2.1; omega
  · rw [if_neg hc]; omega
theorem subst_eol (x : Array Nat) : ∀ (n d : Nat), d ≤ x.size → x.size - d < n → substF (nextEol x) x.toList [13, 10] n d = eols (x.toList.drop d)
  | 0, d, hd, hn => by omega
  | n + 1, d, hd, hn => by
    unfold substF
    cases hx : nextEol x d with
    | none =>
      simp only []
      unfold nextEol at hx
      simp only [Option.map_eq_none_iff] at hx
      have h := findFrom_end hx (by omega)
      have hm := take_mem (x := x) (P := pEol) (d := d) (p := x.size) (Nat.le_refl _) h
      rw [List.take_of_length_le (by simp)] at hm
      have := eols_plain (x.toList.drop d) [] hm
      simp [eols] at this
      exact this.symm
    | some pe =>
      obtain ⟨p, e⟩ := pe
      simp only []
      obtain ⟨o1, o2, o3⟩ := nextEol_ord hd hx
      rw [subst_eol x n e o3 (by omega), drop_split x.toList o1]
      unfold nextEol at hx
      simp only [Option.map_eq_some_iff] at hx
      obtain ⟨q, hq, hx⟩ := hx
      obtain ⟨h1, h2, h3, h4⟩ := findFrom_some hq
      cases hx
      rw [eols_plain _ _ (take_mem (by omega) h4)]
      have etake : List.take (p - d) (List.take (p - d) (x.toList.drop d) ++ x.toList.drop p) = List.take (p - d) (x.toList.drop d) := by
        rw [← drop_split x.toList h1]
      rw [etake]
      congr 1
      have ed : x.toList.drop p = x.getD p 0 :: x.toList.drop (p + 1) := by
        have hlt : p < x.toList.length := by simp; omega
        rw [List.drop_eq_getElem_cons hlt]
        congr 1
        simp [Array.getD, h2]
      rw [ed]
      by_cases hb : x.getD p 0 = 13 ∧ p + 1 < x.size ∧ x.getD (p + 1) 0 = 10
      · rw [if_pos hb]
        have ed2 : x.toList.drop (p + 1) = x.getD (p + 1) 0 :: x.toList.drop (p + 2) := by
          have hlt : p + 1 < x.toList.length := by simp; omega
          rw [List.drop_eq_getElem_cons hlt]
          congr 1
          simp [Array.getD, hb.2.1]
        rw [ed2]
        simp only [eols]
        rw [if_pos ⟨hb.1, hb.2.2⟩]
        rfl
      · rw [if_neg hb]
        by_cases hl : p + 1 < x.size
        · have ed2 : x.toList.drop (p + 1) = x.getD (p + 1) 0 :: x.toList.drop (p + 2) := by
            have hlt : p + 1 < x.toList.length := by simp; omega
            rw [List.drop_eq_getElem_cons hlt]
            congr 1
            simp [Array.getD, hl]
          rw [ed2]
          simp only [eols]
          rw [if_neg (fun h => hb ⟨h.1, hl, h.2⟩), if_pos h3]
          rfl
        · have : x.toList.drop (p + 1) = [] := List.drop_eq_nil_of_le (by simp; omega)
          rw [this]
          simp only [eols]
          rw [if_pos h3]
          rfl
noncomputable def bol (x : Array Nat) (d : Nat) : Bool := d == 0 || x.getD (d - 1) 0 == 10
theorem dots_step {x : Array Nat} {d : Nat} (h : d < x.size) : dots (bol x d) (x.toList.drop d) = if dotAt x d = true then 46 :: 46 :: dots (bol x (d + 1)) (x.toList.drop (d + 1)) else x.getD d 0 :: dots (bol x (d + 1)) (x.toList.drop (d + 1)) := by
  have hlt : d < x.toList.length := by simp; omega
  have ed : x.toList.drop d = x.getD d 0 :: x.toList.drop (d + 1) := by
    rw [List.drop_eq_getElem_cons hlt]
    congr 1
    simp [Array.getD, h]
  have eb : bol x (d + 1) = (x.getD d 0 == 10) := by unfold bol; simp
  have ea : dotAt x d = (bol x d && x.getD d 0 == 46) := by unfold dotAt bol; simp [h]
  rw [ed, eb, ea]
  simp only [dots]
  by_cases hc : (bol x d && x.getD d 0 == 46) = true
  · rw [if_pos hc, if_pos hc]
    simp only [Bool.and_eq_true, beq_iff_eq] at hc
    rw [hc.2]; rfl
  · rw [if_neg hc, if_neg hc]
theorem nextDot_facts {x : Array Nat} : ∀ {n d : Nat}, x.size < d + n → (∀ {p e}, nextDot x n d = some (p, e) → d ≤ p ∧ p < x.size ∧ e = p + 1 ∧ dotAt x p = true ∧ ∀ i, d ≤ i → i < p → dotAt x i = false) ∧ (nextDot x n d = none → ∀ i, d ≤ i → i < x.size → dotAt x i = false)
  | 0, d, hn => ⟨fun {p e} h => (by cases h), fun _ i h1 h2 => (by omega)⟩
  | n + 1, d, hn => by
    unfold nextDot
    by_cases hd : dotAt x d = true
    · rw [if_pos hd]
      refine ⟨fun {p e} h => ?_, fun h => (by cases h)⟩
      cases h
      refine ⟨Nat.le_refl _, ?_, rfl, hd, fun i h1 h2 => by omega⟩
      unfold dotAt at hd
      simp only [Bool.and_eq_true, decide_eq_true_eq] at hd
      exact hd.1.2
    · rw [if_neg hd]
      by_cases hl : d < x.size
      · rw [if_pos hl]
        obtain ⟨f1, f2⟩ := nextDot_facts (x := x) (n := n) (d := d + 1) (by omega)
        refine ⟨fun {p e} h => ?_, fun h i h1 h2 => ?_⟩
        · obtain ⟨a, b, c, e', g⟩ := f1 h
          refine ⟨by omega, b, c, e', fun i h1 h2 => ?_⟩
          by_cases q : i = d
          · subst q; simpa using hd
          · exact g i (by omega) h2
        · by_cases q : i = d
          · subst q; simpa using hd
          · exact f2 h i (by omega) h2
      · rw [if_neg hl]
        exact ⟨fun {p e} h => (by cases h), fun _ i h1 h2 => (by omega)⟩
theorem dots_plain {x : Array Nat} {p : Nat} (hp : p ≤ x.size) : ∀ (k d : Nat), p - d = k → d ≤ p → (∀ i, d ≤ i → i < p → dotAt x i = false) → dots (bol x d) (x.toList.drop d) = (x.toList.drop d).take (p - d) ++ dots (bol x p) (x.toList.drop p)
  | 0, d, hk, hd, h => by
    have : d = p := by omega
    subst this; simp
  | k + 1, d, hk, hd, h => by
    rw [dots_step (by omega), if_neg (by rw [h d (Nat.le_refl _) (by omega)]; simp), dots_plain hp k (d + 1) (by omega) (by omega) fun i h1 h2 => h i (by omega) h2]
    have hlt : d < x.toList.length := by simp; omega
    have ed : x.toList.drop d = x.getD d 0 :: x.toList.drop (d + 1) := by
      rw [List.drop_eq_getElem_cons hlt]
      congr 1
      simp [Array.getD, show d < x.size by omega]
    rw [ed, show p - d = (p - (d + 1)) + 1 by omega, List.take_succ_cons]
    rfl
noncomputable abbrev nextD (x : Array Nat) (d : Nat) : Option (Nat × Nat) := nextDot x (x.size + 1 - d) d
theorem nextD_ord {x : Array Nat} {d p e : Nat} (hd : d ≤ x.size) (h : nextD x d = some (p, e)) : d ≤ p ∧ p < e ∧ e ≤ x.size := by
  obtain ⟨h1, h2, h3, _⟩ := (nextDot_facts (by omega)).1 h
  omega
theorem subst_dot (x : Array Nat) : ∀ (n d : Nat), d ≤ x.size → x.size - d < n → substF (nextD x) x.toList [46, 46] n d = dots (bol x d) (x.toList.drop d)
  | 0, d, hd, hn => by omega
  | n + 1, d, hd, hn => by
    unfold substF
    cases hx : nextD x d with
    | none =>
      simp only []
      have h := (nextDot_facts (x := x) (n := x.size + 1 - d) (d := d) (by omega)).2 hx
      rw [dots_plain (Nat.le_refl _) _ d rfl hd h]
      have e1 : x.toList.drop x.size = [] := List.drop_eq_nil_of_le (by simp)
      rw [e1, List.take_of_length_le (by simp)]
      simp [dots]
    | some pe =>
      obtain ⟨p, e⟩ := pe
      simp only []
      obtain ⟨h1, h2, rfl, h3, h4⟩ := (nextDot_facts (by omega)).1 hx
      rw [subst_dot x n (p + 1) (by omega) (by omega), dots_plain (by omega) _ d rfl h1 h4, dots_step h2, if_pos h3]
      rfl
section
variable {c : Cx} {m : Loc} {led : Led} {x : V} {Q : V → Loc → Led → Prop} {P : Addr} {code : Array Nat}
inductive SubP (mk : List Nat → Tok → Value) (s : Shared) (l : List Nat) (v : Value) (s' : Shared) : Prop
  | mk (t' : Tok) : v = mk l t' → s' = { s with heap := s'.heap, toks := s'.toks } → (∀ a o, s.heap.get? a = some o → s'.heap.get? a = some o) → SubP mk s l v s'
theorem ca_sub {rv : V} {t rp : List Nat} {K : Nat} {next : Nat → Option (Nat × Nat)} (hK : K ≤ 2 ^ 62) (hp : ∀ h, c.K.In h → IsPat h P code 0)
    (hnext : ∀ d, d ≤ t.length → EndsIn K (forSearch code t.toArray 0 d t.length false) (next d)) (hord : ∀ d p e, d ≤ t.length → next d = some (p, e) → d ≤ p ∧ p < e ∧ e ≤ t.length)
    (hrv : IsS rv (tx rp) ∨ ∃ k, rv = .obj (.str (tx rp) k)) (hr : (tx rp).cps.contains 92 = false) (hx : IsS x (tx t)) (hz : t.length ≤ 1000000) (hz2 : (substF next t rp (t.length + 1) 0).length ≤ 16777216)
    (q : Q (.txt (tx (substF next t rp (t.length + 1) 0))) m led) : CA c (.builtin "re.Pattern.sub") [.obj (.ref P), rv, x] [] m led Q := by
  refine ca_3 fun bg s Z a1 a2 a3 B S r1 r2 r3 => ?_
  cases r1.inv
  obtain ⟨k, rfl⟩ := hx.of r3
  obtain ⟨kr, rfl⟩ : ∃ kr, _ = Value.str (tx rp) kr := by
    rcases hrv with h | ⟨kr, rfl⟩
    · exact h.of r2
    · cases r2.inv; exact ⟨kr, rfl⟩
  have pat := hp s.heap (B.at S).X
  refine wpAny_mono (wpAny_toks (Q := SubP (fun l k => .str (tx l) k) s (substF next t rp (t.length + 1) 0)) (sub_runG (text := t.toArray) (rp := rp) (next := next) hK (fun A => subE_str pat) pat (sub_eqS hr) hnext hord hz hz2 fun t' h' k' kk => ⟨t', rfl, rfl, kk⟩)) (fun v s' p => ?_) fun _ _ e => e
  obtain ⟨⟨t', rfl, e, kk⟩, tk⟩ := p
  exact ⟨.txt _, m, led, Z, Zle.refl _, e, ⟨S.keep kk, S.tk.mono tk⟩, .txt _ t', q⟩
end
end Mine
end
section
open PySem PySem.W PySem.Calls PyProof.Rows
set_option Elab.async false
set_option maxRecDepth 100000
set_option linter.unusedVariables false
namespace Mine
open Builtin
theorem forIn_steps {M : Model} {A : Around} {E : Value → Shared → Prop} {s : Shared} {β : Type} (st : Nat → β) {N : Nat} (f : Nat → β → Sem (ForInStep β))
    (h : ∀ k, k < N → wpAny M A (f k (st k)) (fun r s' => r = ForInStep.yield (st (k + 1)) ∧ s' = s) E s) : ∀ n k, k + n = N → wpAny M A (forIn (List.range' k n 1) (st k) f) (fun r s' => r = st N ∧ s' = s) E s
  | 0, k, hk => by
    have : k = N := by omega
    subst this
    exact wpAny_pure ⟨rfl, rfl⟩
  | n + 1, k, hk => by
    rw [List.range'_succ, List.forIn_cons]
    refine wpAny_bind (wpAny_mono (h k (by omega)) (fun r s' p => ?_) fun _ _ e => e)
    obtain ⟨rfl, rfl⟩ := p
    exact forIn_steps st f h n (k + 1) (by omega)
theorem take_eq {id : String} {b : Array UInt8} {t : Tok} : Bytes.takeBufferQuiet? id (.bytes b t) 0 = pure (some (b, none)) := by
  unfold Bytes.takeBufferQuiet? Bytes.takeBuffer?
  rw [KBy.special_eq KBy.look_buffer, KBy.own_buffer]
  have : Bytes.buffer? id (.bytes b t) ((0 : Int) == Bytes.fullReadOnly) = pure (some b) := by
    have e : ((0 : Int) == Bytes.fullReadOnly) = false := by decide
    rw [e]; exact KBy.buffer_eq
  simp only [pure_bind, Bool.not_true, Bool.false_eq_true, if_false]
  rw [this]
  rfl
noncomputable def bytValues (l : List (Array UInt8 × Tok)) : List Value := l.map fun p => .bytes p.1 p.2
noncomputable def catB (l : List (Array UInt8)) : Array UInt8 := l.foldl (· ++ ·) #[]
theorem slot_bjoin : Slot "bytes" "join" "bytes.join" :=
  .of (owner := "bytes") (n := "join") (by rw [typeLookup_type, builtinLookup_eq_fast]; kernel_rfl) (by decide +kernel) (by decide +kernel) (by decide +kernel)
    (by first | exact .inl (by decide +kernel) | exact .inr (by decide +kernel)) (by rw [isSubtype_type]; kernel_rfl)
theorem entry_bjoin : entryFor table "bytes.join" = some Builtin.«bytes.join» := entryFor_of_tree (by kernel_rfl)
theorem args_bjoin (a b : Value) : argsOk "bytes.join" ⟨[a, b], []⟩ := by
  unfold argsOk; rw [signature?_of (id := "bytes.join") (n := ['n', 'i', 'o', 'j']) (o := ['s', 'e', 't', 'y', 'b']) (by kernel_rfl) PySem.W.FB.owner_bytes]; kernel_rfl
section
variable {prog : Program} {w : World} {A : Around} {E : Value → Shared → Prop} {s : Shared}
theorem letGo_all {M : Model} {keep : List Value} {Q : Unit → Shared → Prop} (q : Q () s) : ∀ (l : List (Value × Option Value)), (∀ p ∈ l, p.2 = none) → wpAny M A (Bytes.joinLetGo l keep) Q E s
  | [], _ => by unfold Bytes.joinLetGo; exact wpAny_pure q
  | (x, w) :: r, h => by
    have : w = none := h _ (List.mem_cons_self ..)
    subst this
    unfold Bytes.joinLetGo
    exact wpAny_bind (wpAny_letGo (letGo_all q r fun p hp => h p (List.mem_cons_of_mem _ hp)))
theorem bytes_join {D : Addr} {ps : List (Array UInt8 × Tok)} {t : Tok} {Q : Value → Shared → Prop} (hl : s.heap.IsList D (bytValues ps).toArray) (hz : (ps.map (·.1.size)).sum ≤ 16777216)
    (q : ∀ t' k, Q (.bytes (catB (ps.map (·.1))) t') { s with toks := k }) : wpAny (model prog w) A (call (.builtin "bytes.join") [.bytes #[] t, .ref D]) Q E s := by
  obtain ⟨o, ho, hc, n, hd⟩ := id hl
  refine wpAny_call_entry slot_bjoin (typeIs_bytes _ _ _) entry_bjoin ?_ (args_bjoin _ _)
  unfold Builtin.«bytes.join» Bytes.joinM
  refine wpAny_bind (wpAny_of_eq (a := (.bytes #[] t, .ref D)) (by rfl) ?_)
  dsimp only
  rw [if_pos (show (Bytes.Kind.bytes == Bytes.Kind.bytes) = true from by decide)]
  refine wpAny_bind ?_
  unfold Bytes.joinItems
  refine wpAny_bind (wpAny_typeOf ⟨o, ho, hc⟩ ?_)
  rw [if_pos (by decide)]
  refine wpAny_pure ?_
  refine wpAny_bind (wpAny_seqItems ho hd ?_)
  dsimp only
  rw [if_pos (show (Bytes.Kind.bytes == Bytes.Kind.bytes) = true from by decide)]
  rcases ps with _ | ⟨p, _ | ⟨p2, r⟩⟩
  case cons.nil =>
    show wpAny _ _ (typeOf (.bytes p.1 p.2) >>= _) _ _ s
    refine wpAny_bind (wpAny_typeOf (typeIs_bytes _ _ _) ?_)
    rw [if_pos (by decide)]
    refine wpAny_bind (wpAny_rule (wpAny_pure ⟨_, rfl, ?_⟩))
    have e : catB ([p].map (·.1)) = p.1 := by simp [catB]
    rw [e] at q
    exact q p.2 s.toks
  case' nil => (show wpAny _ _ (forIn _ _ _ >>= _) _ _ s; generalize hps : ([] : List (Array UInt8 × Tok)) = ps at hl hd hz q ⊢)
  case' cons.cons => (show wpAny _ _ (forIn _ _ _ >>= _) _ _ s; generalize hps : p :: p2 :: r = ps at hl hd hz q ⊢)
  all_goals
    rw [KPc.range_list]
    have hN : (bytValues ps).toArray.size = ps.length := by simp [bytValues]
    let st : Nat → Array (Array UInt8) × List (Value × Option Value) := fun k => (((ps.take k).map (·.1)).toArray, (bytValues (ps.take k)).map fun v => (v, none))
    have h0 : ((#[], []) : Array (Array UInt8) × List (Value × Option Value)) = st 0 := by simp [st, bytValues]
    rw [h0]
    refine wpAny_bind (wpAny_mono (forIn_steps st (N := (bytValues ps).toArray.size) _ (fun k hk => ?_) _ 0 (by omega)) (fun r s' p => ?_) fun _ _ e => e)
    · first
      | (subst hps; exact absurd hk (Nat.not_lt_zero _))
      | (rw [hN] at hk
         refine wpAny_bind (wpAny_seqItems ho hd ?_)
         dsimp only
         have hany : ((st k).2.any fun x => x.1.onHeap) = false := by
           simp only [st, bytValues, List.any_map, List.map_map]
           rw [List.any_eq_false]
           intro x hx
           simp [Value.onHeap]
         rw [if_neg (by rw [hany]; decide)]
         have hget : (bytValues ps).toArray.getD k Value.none = .bytes ps[k].1 ps[k].2 := by simp [Array.getD, bytValues, hk]
         rw [hget]
         refine wpAny_bind (wpAny_holding (wpAny_of_eq take_eq ?_))
         dsimp only
         refine wpAny_bind (wpAny_seqItems ho hd ?_)
         dsimp only
         rw [if_neg (by simp)]
         refine wpAny_pure ⟨?_, rfl⟩
         congr 1
         simp only [st]
         have ht : ps.take (k + 1) = ps.take k ++ [ps[k]] := by rw [List.take_add_one]; simp [hk]
         rw [ht, bytValues, bytValues, List.map_append, List.map_append, List.map_append]
         exact Prod.ext (by simp only [List.push_toArray]; rfl) rfl)
    · obtain ⟨rfl, rfl⟩ := p
      have hst : st (bytValues ps).toArray.size = ((ps.map (·.1)).toArray, (bytValues ps).map fun v => (v, none)) := by
        rw [hN]; simp only [st]; rw [List.take_of_length_le (Nat.le_refl _)]
      rw [hst]
      refine wpAny_bind (wpAny_of_eq (a := #[]) (by rfl) ?_)
      have hsum : ∀ (l : List (Array UInt8)) (n : Nat), l.foldl (fun n p => n + p.size) n = n + (l.map (·.size)).sum := by
        intro l
        induction l with
        | nil => intro n; simp
        | cons a l ih => intro n; rw [List.foldl_cons, ih]; simp; omega
      rw [if_neg (by
        rw [KBy.tooLong_not]; simp
        show (ps.map (·.1)).toArray.foldl (fun a b => a + b.size) (0 * ((ps.map (·.1)).toArray.size - 1)) ≤ _
        rw [Nat.zero_mul, List.foldl_toArray, hsum, Nat.zero_add, List.map_map]
        exact hz)]
      have hj : Bytes.joined #[] (ps.map (·.1)).toArray.toList = catB (ps.map (·.1)) := by
        unfold Bytes.joined catB
        have gen : ∀ (l : List (Array UInt8)) (k : Nat) (acc : Array UInt8), (l.zipIdx k).foldl (fun out (p : Array UInt8 × Nat) => (if p.2 > 0 then out ++ #[] else out) ++ p.1) acc = l.foldl (· ++ ·) acc := by
          intro l
          induction l with
          | nil => intro k acc; rfl
          | cons a l ih =>
            intro k acc
            rw [List.zipIdx_cons, List.foldl_cons, ih, List.foldl_cons]
            simp
        exact gen _ 0 #[]
      have hcs : (catB (ps.map (·.1))).size ≤ 16777216 := by
        have gen : ∀ (l : List (Array UInt8)) (acc : Array UInt8), (l.foldl (· ++ ·) acc).size = acc.size + (l.map (·.size)).sum := by
          intro l
          induction l with
          | nil => intro acc; simp
          | cons a l ih => intro acc; rw [List.foldl_cons, ih]; simp; omega
        unfold catB
        rw [gen, List.map_map, Array.size_empty, Nat.zero_add]
        exact hz
      rw [hj]
      refine wpAny_bind (m := Bytes.Kind.new .bytes _) (wpAny_mkBytes ?_ (by rw [sizeLine_eq]; exact hcs))
      refine wpAny_bind (wpAny_holding (wpAny_point ?_))
      refine wpAny_bind (letGo_all ?_ _ (fun p hp => ?_))
      · exact wpAny_pure ⟨_, rfl, q _ _⟩
      · simp only [List.mem_map] at hp
        obtain ⟨v, _, rfl⟩ := hp
        rfl
end
end Mine
end
section
open PySem PySem.W PySem.Calls PyProof.Rows
set_option Elab.async false
set_option maxRecDepth 100000
set_option linter.unusedVariables false
namespace Mine
open PySem.Sre Builtin Builtin.Re
noncomputable def nats (b : Array UInt8) : Array Nat := b.map (·.toNat)
noncomputable def catN (ts : List (Array UInt8)) : List Nat := ts.flatMap fun y => (nats y).toList
theorem catN_append (a b : List (Array UInt8)) : catN (a ++ b) = catN a ++ catN b := by simp [catN]
theorem nats_back (b : Array UInt8) : (nats b).map (·.toUInt8) = b := by
  unfold nats
  rw [Array.map_map]
  conv => rhs; rw [← Array.map_id b]
  congr 1
  funext x
  show x.toNat.toUInt8 = x
  rw [Nat.toUInt8]; simp
theorem nats_extract (b : Array UInt8) (d p : Nat) : ((nats b).extract d p).map (·.toUInt8) = b.extract d p := by
  have h : (nats b).extract d p = nats (b.extract d p) := by unfold nats; simp
  rw [h, nats_back]
theorem catB_octets (ts : List (Array UInt8)) : catB ts = octets (catN ts) := by
  have gen : ∀ (l : List (Array UInt8)) (acc : Array UInt8), l.foldl (· ++ ·) acc = acc ++ octets (catN l) := by
    intro l
    induction l with
    | nil => intro acc; simp [catN, octets]
    | cons a l ih =>
      intro acc
      rw [List.foldl_cons, ih]
      have e : octets (catN (a :: l)) = a ++ octets (catN l) := by
        unfold octets catN
        rw [List.flatMap_cons, List.map_append]
        apply Array.ext'
        have := congrArg Array.toList (nats_back a)
        simp only [Array.toList_map] at this
        simp only [Array.toList_append]
        rw [this]
      rw [e, Array.append_assoc]
  unfold catB
  rw [gen]; simp
theorem catN_sizes (ps : List (Array UInt8 × Tok)) : (ps.map (·.1.size)).sum = (catN (ps.map (·.1))).length := by
  induction ps with
  | nil => rfl
  | cons p r ih => simp only [List.map_cons, List.sum_cons, ih, catN, List.flatMap_cons, List.length_append]; simp [nats]
section
variable {prog : Program} {w : World} {A : Around} {P : Addr} {code : Array Nat}
theorem whole_targetB {M : Model} {E : Value → Shared → Prop} {s : Shared} {x : Array UInt8} {t : Tok} {Q : ReTarget → Shared → Prop} (p : IsPat s.heap P code 1) (q : Q ⟨.ref P, .bytes x t, code, nats x, 1, 0, 0, (nats x).size⟩ s) : wpAny M A (reWholeTarget (.ref P) (.bytes x t)) Q E s := by
  obtain ⟨pt, fl, t0, ct, tk, sl, oc, items, n, h1, h2, h3, h4⟩ := p
  unfold reWholeTarget
  refine wpAny_bind (fields_at h1 rfl ?_)
  have hto : reTextOf (.bytes x t) = pure (nats x, 1) := by
    unfold reTextOf
    have : asStr? (.bytes x t) = pure none := rfl
    rw [this, KBy.quiet_eq]
    rfl
  refine wpAny_bind (wpAny_of_eq hto ?_)
  dsimp only
  have hno : reNoCollectionInside (.bytes x t) 1 = pure () := by
    unfold reNoCollectionInside
    rw [KBy.isInstance_eq]
    rfl
  refine wpAny_bind (wpAny_of_eq hno ?_)
  refine wpAny_bind (raw_items h2 h3 (wpAny_pure ?_))
  rw [h4]
  exact q
theorem slice_B {M : Model} {E : Value → Shared → Prop} {s : Shared} {x : Array UInt8} {b e : Nat} {Q : Value → Shared → Prop} (h : (x.extract b e).size ≤ 16777216) (q : Q (.bytes (x.extract b e) s.toks) { s with toks := s.toks + 1 }) : wpAny M A (reSlice (nats x) 1 b e) Q E s := by
  unfold reSlice
  rw [if_neg (show ¬ (((1 : Nat) == 0) = true) by decide), nats_extract]
  exact wpAny_mkBytes q (by rw [sizeLine_eq]; exact h)
theorem nats_octets {l : List Nat} (h : ∀ x ∈ l, x < 128) : nats (octets l) = l.toArray := by
  apply Array.ext'
  have := octets_back h
  unfold nats
  rw [Array.toList_map]
  exact this
theorem octets_extract {t : List Nat} {b e : Nat} : (octets t).extract b e = octets (t.toArray.extract b e).toList := by
  unfold octets
  apply Array.ext'
  simp
theorem subE_byt {t rp : List Nat} {tk tr : Tok} {h₀ : Heap} (p₀ : IsPat h₀ P code 1) (ht : ∀ x ∈ t, x < 128) : SubE prog w A P code 1 (fun l k => .bytes (octets l) k) t.toArray (.bytes (octets t) tk) (.bytes (octets rp) tr) h₀ where
  tgt {E s Q} keep q := whole_targetB (p₀.keeps keep) (by rw [nats_octets ht]; exact q)
  lit := by
    unfold reLiteralCannotBeTurned
    have : asStr? (.bytes (octets rp) tr) = pure none := rfl
    rw [this, KBy.isInstance_eq]
    rfl
  non := rfl
  slice {E s Q b e} h q := by
    have := slice_B (M := model prog w) (A := A) (E := E) (s := s) (x := octets t) (b := b) (e := e) (Q := Q) (by rw [octets_extract]; simpa [octets] using h) (by rw [octets_extract]; exact q)
    rw [nats_octets ht] at this
    exact this
  join {E s Q tj D k ps} hD hz q := by
    have e1 : vals (fun l k => .bytes (octets l) k) ps = bytValues (ps.map fun p => (octets p.1, p.2)) := by simp [vals, bytValues]
    have e2 : catB ((ps.map fun p => (octets p.1, p.2)).map (·.1)) = octets (cats ps) := by
      have gen : ∀ (l : List (List Nat × Tok)) (acc : Array UInt8), ((l.map fun p => (octets p.1, p.2)).map (·.1)).foldl (· ++ ·) acc = acc ++ octets (cats l) := by
        intro l
        induction l with
        | nil => intro acc; simp [cats, octets]
        | cons a l ih =>
          intro acc
          rw [List.map_cons, List.map_cons, List.foldl_cons, ih]
          have : octets (cats (a :: l)) = octets a.1 ++ octets (cats l) := by simp [cats, octets]
          rw [this, Array.append_assoc]
      unfold catB
      rw [gen]; simp
    have e3 : ((ps.map fun p => (octets p.1, p.2)).map (·.1.size)).sum = (cats ps).length := by
      rw [List.map_map]
      unfold cats
      rw [List.length_flatMap]
      congr 1
      refine List.map_congr_left fun p _ => ?_
      show (octets p.1).size = p.1.length
      simp [octets]
    rw [e1] at hD
    refine bytes_join (t := tj) (isList hD) (by rw [e3]; exact hz) fun t' k' => ?_
    rw [e2]
    exact q t' k'
theorem sub_eqB {rp t : Array UInt8} {kr k : Tok} (hr : rp.contains 92 = false) : Builtin.«re.Pattern.sub» ⟨[.ref P, .bytes rp kr, .bytes t k], []⟩ = slStart P (.bytes rp kr) (.bytes t k) := by
  unfold Builtin.«re.Pattern.sub» reSubstitute
  have e2 : specialOf (.bytes rp kr) "__call__" = pure none := by show typeLookup (.type "bytes") "__call__" = _; rw [typeLookup_type, builtinLookup_eq_fast]; kernel_rfl
  have e3 : asStr? (.bytes rp kr) = pure none := rfl
  dsimp only
  rw [show reNamed "re.Pattern.sub" "sub" ["repl", "string", "count"] 2 [.bytes rp kr, .bytes t k] [] = pure [some (.bytes rp kr), some (.bytes t k), none] by kernel_rfl]
  rw [pure_bind]; dsimp only
  rw [pure_bind, e2, pure_bind]
  simp only [Option.isSome_none, Bool.false_eq_true, if_false]
  rw [e3, pure_bind]; dsimp only
  rw [KBy.quiet_eq, pure_bind]; dsimp only
  rw [pure_bind, hr]
  rfl
end
section
variable {c : Cx} {m : Loc} {led : Led} {Q : V → Loc → Led → Prop} {P : Addr} {code : Array Nat}
theorem ca_subB {t rp : List Nat} {K : Nat} {next : Nat → Option (Nat × Nat)} (hK : K ≤ 2 ^ 62) (hp : ∀ h, c.K.In h → IsPat h P code 1) (ht : ∀ x ∈ t, x < 128) (hrp : ∀ x ∈ rp, x < 128)
    (hnext : ∀ d, d ≤ t.length → EndsIn K (forSearch code t.toArray 0 d t.length false) (next d)) (hord : ∀ d p e, d ≤ t.length → next d = some (p, e) → d ≤ p ∧ p < e ∧ e ≤ t.length)
    (hr : (octets rp).contains 92 = false) (hz : t.length ≤ 1000000) (hz2 : (substF next t rp (t.length + 1) 0).length ≤ 16777216)
    (q : Q (.bytes (octets (substF next t rp (t.length + 1) 0))) m led) : CA c (.builtin "re.Pattern.sub") [.obj (.ref P), .bytes (octets rp), .bytes (octets t)] [] m led Q := by
  refine ca_3 fun bg s Z a1 a2 a3 B S r1 r2 r3 => ?_
  cases r1.inv
  cases r2.inv with
  | mk kr =>
  cases r3.inv with
  | mk k =>
  have pat := hp s.heap (B.at S).X
  refine wpAny_mono (wpAny_toks (Q := SubP (fun l k => .bytes (octets l) k) s (substF next t rp (t.length + 1) 0)) (sub_runG (text := t.toArray) (rp := rp) (next := next) hK (fun A => subE_byt pat ht) pat (sub_eqB hr) hnext hord hz hz2 fun t' h' k' kk => ⟨t', rfl, rfl, kk⟩)) (fun v s' p => ?_) fun _ _ e => e
  obtain ⟨⟨t', rfl, e, kk⟩, tk⟩ := p
  exact ⟨.bytes _, m, led, Z, Zle.refl _, e, ⟨S.keep kk, S.tk.mono tk⟩, .bytes _ t', q⟩
end
end Mine
end
section
open PySem PySem.W PySem.Calls PyProof.Rows
set_option Elab.async false
set_option maxRecDepth 100000
set_option linter.unusedVariables false
namespace Mine
open Builtin
theorem type_getitem : typeOf (.builtin "list.__getitem__") = pure (.type "method_descriptor") := by show builtinType _ = _; rw [builtinType_eq_fast]; kernel_rfl
theorem slot_md_get : Slot "method_descriptor" "__get__" "method_descriptor.__get__" :=
  .of (owner := "method_descriptor") (n := "__get__") (by rw [typeLookup_type, builtinLookup_eq_fast]; kernel_rfl) (by decide +kernel) (by decide +kernel) (by decide +kernel)
    (by first | exact .inl (by decide +kernel) | exact .inr (by decide +kernel)) (by rw [isSubtype_type]; kernel_rfl)
theorem no_md_set : typeLookup (.type "method_descriptor") "__set__" = pure none := by rw [typeLookup_type, builtinLookup_eq_fast]; kernel_rfl
theorem no_md_del : typeLookup (.type "method_descriptor") "__delete__" = pure none := by rw [typeLookup_type, builtinLookup_eq_fast]; kernel_rfl
theorem entry_md_get : entryFor table "method_descriptor.__get__" = some Builtin.«method_descriptor.__get__» := entryFor_of_tree (by kernel_rfl)
theorem args_md_get (a b c : Value) : argsOk "method_descriptor.__get__" ⟨[a, b, c], []⟩ := by unfold argsOk; kernel_rfl
theorem owner_getitem : ".".intercalate ("list.__getitem__".cutAt '.').dropLast = "list" := by decide +kernel
theorem kind_hasattr : builtinKind "hasattr" = none := by decide +kernel
theorem plain_hasattr : plainId "hasattr" = true := by decide +kernel
theorem entry_hasattr : entryFor table "hasattr" = some Builtin.«hasattr» := entryFor_of_tree (by kernel_rfl)
theorem args_hasattr (a b : Value) : argsOk "hasattr" ⟨[a, b], []⟩ := by unfold argsOk; kernel_rfl
section
variable {prog : Program} {w : World} {A : Around} {E : Value → Shared → Prop} {h : Heap} {g : Array GenState} {d : Drawn} {t : Nat} {os : OsState} {a : Addr} {o : Obj}
theorem item_entry_list {tk : Tok} {vs : Array Value} {n : Nat} {Q : PySem.Fin → Shared → Prop} (hx : h.get? a = some { cls := .type "list", data := .seq vs n }) (hq : ∀ v h', (∀ b x, h.get? b = some x → h'.get? b = some x) → handedOut v = pure v → Q (.done (.ret v)) ⟨h', g, d, t, os⟩) :
    wpAny (model prog w) A (Builtin.«object.__getattribute__» ⟨[.ref a, .str "__getitem__" tk], []⟩) Q E ⟨h, g, d, t, os⟩ := by
  have hT : (⟨h, g, d, t, os⟩ : Shared).TypeIs (.ref a) "list" := ⟨_, hx, rfl⟩
  have hT5 : (⟨h, g, d, t, os⟩ : Shared).TypeIs (.builtin "list.__getitem__") "method_descriptor" := type_getitem
  have f4 := PySem.F.slot_list_getitem.lookup
  have f5 := type_getitem
  have f6 := slot_md_get.lookup
  have f7 := no_md_set
  have f8 := no_md_del
  repeat (any_goals (first | assumption | wp_step))
  refine codeAny_call_builtin slot_md_get.plain entry_md_get (slot_md_get.check _ _ _ _ _ _ _ _ hT5 (args_md_get _ _ _) ?_)
  have f9 : Manifest.toldItsClass.contains "list.__getitem__" = false := by decide +kernel
  unfold Builtin.«method_descriptor.__get__»
  refine wpAny_bind (wpAny_of_eq (a := (.builtin "list.__getitem__", some (.ref a), some (.type "list"))) (by kernel_rfl) ?_)
  dsimp only
  rw [f9]
  simp only [Bool.false_eq_true, if_false]
  refine wpAny_bind ?_
  show wpAny _ _ (isInstance (.ref a) (.type (".".intercalate ("list.__getitem__".cutAt '.').dropLast)) >>= _) _ _ _
  rw [owner_getitem]
  refine wpAny_bind (wpAny_isInstance (b := true) hT (by rw [isSubtype_type]; kernel_rfl) ?_)
  simp only [Bool.not_true, Bool.false_eq_true, if_false]
  refine wpAny_pure ?_
  refine wpAny_bind (wpAny_newObj_type ?_ (by size_fits))
  refine wpAny_pure ?_
  dsimp only
  exact wpAny_pure (hq _ _ (fun b x e => Heap.get?_push_of_some _ e) rfl)
theorem has_item_list {tk : Tok} {vs : Array Value} {n : Nat} {Q : Value → Shared → Prop} (hx : h.get? a = some { cls := .type "list", data := .seq vs n }) (hq : ∀ h', (∀ b x, h.get? b = some x → h'.get? b = some x) → Q (.bool true) ⟨h', g, d, t, os⟩) :
    wpAny (model prog w) A (call (.builtin "hasattr") [.ref a, .str "__getitem__" tk]) Q E ⟨h, g, d, t, os⟩ := by
  have hT : (⟨h, g, d, t, os⟩ : Shared).TypeIs (.ref a) "list" := ⟨_, hx, rfl⟩
  refine Calls.call_function_entry kind_hasattr plain_hasattr entry_hasattr (args_hasattr _ _) ?_
  have f2 := PySem.F.slot_list_getattribute.lookup
  have f3 := PySem.F.slot_list_getattribute.bind (.ref a)
  have f4 := PySem.F.slot_list_getitem.lookup
  have f10 : withoutEnding? "list.__getitem__" "#data" = none := by decide +kernel
  unfold Builtin.«hasattr»
  refine wpAny_bind (wpAny_of_eq (a := [.ref a, .str "__getitem__" tk]) (by kernel_rfl) ?_)
  dsimp only
  refine wpAny_bind (wpAny_of_eq (a := ()) (by kernel_rfl) ?_)
  rw [if_neg (show ¬ ((Value.ref a == Value.builtin "__main__.__loader__#opaque") = true) from Bool.false_ne_true)]
  refine wpAny_bind (wpAny_typeOf hT ?_)
  dsimp only
  refine wpAny_bind (wpAny_of_eq (a := some (Str.ofString "__getitem__")) (by rfl) ?_)
  dsimp only
  refine wpAny_bind (wpAny_of_eq f4 ?_)
  dsimp only
  refine wpAny_bind (wpAny_of_eq f2 ?_)
  rw [f10]
  simp only [Option.isSome_none, Bool.false_and, Bool.false_eq_true, if_false]
  refine wpAny_bind ?_
  show wpAny _ _ (asStr? (.str (Str.ofString "__getitem__") tk) >>= _) _ _ _
  refine wpAny_bind (wpAny_of_eq (a := some (Str.ofString "__getitem__")) (by rfl) ?_)
  dsimp only
  show wpAny _ _ (isInstance (.ref a) (.type "module") >>= _) _ _ _
  refine wpAny_bind (wpAny_isInstance (b := false) hT (by rw [isSubtype_type]; kernel_rfl) ?_)
  simp only [Bool.not_false, if_true]
  refine wpAny_pure ?_
  rw [if_neg (by decide)]
  refine wpAny_bind ?_
  unfold getAttrBy?
  refine wpAny_bind (wpAny_attempt ?_)
  unfold getAttrBy
  refine wpAny_holding (wpAny_bind (wpAny_typeOf hT (wpAny_bind (wpAny_of_eq f2 ?_))))
  dsimp only
  rw [if_neg (show ¬ ((onTheHeap (.type "list") && (Value.builtin "list.__getattribute__" == Value.builtin "object.__getattribute__")) = true) from Bool.false_ne_true)]
  unfold getAttrByItsOwn
  refine wpAny_bind (m := hookBefore (.type "list")) (wpAny_pure ?_)
  refine wpAny_bind (wpAny_attempt (wpAny_holding ?_))
  show wpAny _ _ (boundAndCalled (.builtin "list.__getattribute__") (.ref a) (.str (Str.ofString "__getitem__") tk)) _ _ _
  unfold boundAndCalled
  rw [f3]
  refine wpAny_bind (wpAny_pure ?_)
  refine wpAny_call (codeAny_call_builtin PySem.F.slot_list_getattribute.plain PySem.F.entry_list_ga (PySem.F.slot_list_getattribute.check _ _ _ _ _ _ _ _ hT (PySem.F.args_list_getattribute_2 _ _) (item_entry_list hx fun v h' k hv => ?_)))
  dsimp only
  rw [hv]
  refine wpAny_pure (wpAny_pure ?_)
  simp only [Option.isNone_some, Bool.false_and, Bool.false_eq_true, if_false]
  exact wpAny_pure ⟨_, rfl, hq h' k⟩
end
end Mine
end
section
open PySem PySem.W PySem.Calls PyProof.Rows
set_option Elab.async false
set_option maxRecDepth 100000
set_option linter.unusedVariables false
namespace Mine
open PySem.Sre Builtin Builtin.Re
section
variable {c : Cx} {bg : Bt} {Z : Zt} {m : Loc} {led : Led} {s : Shared} {Q : V → Loc → Led → Prop} {pos : Pos} {x y v : V}
theorem gm_pat {P : Addr} {code : Array Nat} {kind : Nat} {name : Str} {id : String} (hp : ∀ h, c.K.In h → IsPat h P code kind) (slot : Slot "re.Pattern" name id) (hty : typeOf (.builtin id) = pure (.type "method_descriptor")) : GM c (.obj (.ref P)) name led (.builtin id) := by
  intro pl bg m s Z b B S r
  cases r.inv
  obtain ⟨pt, fl, t0, ct, tk, sl, oc, items, n, ho, h1, h2, h3⟩ := hp s.heap (B.at S).X
  exact getMethod_builtin (T := "re.Pattern") ⟨_, ho, rfl⟩ plainAttrs_pattern slot hty (fun _ e => by cases e; exact ⟨_, ho, rfl⟩) ⟨rfl, rfl⟩
theorem ca_search {P : Addr} {code : Array Nat} {t : List Nat} {k : Nat} (hp : ∀ h, c.K.In h → IsPat h P code 0) (he : EndsIn k (forSearch code t.toArray 0 0 t.length false) none) (hk : k ≤ 2 ^ 62) (hz : t.length ≤ 1000000)
    (q : Q .none m led) : CA c (.builtin "re.Pattern.search") [.obj (.ref P), .str (tx t)] [] m led Q := by
  refine ca_2 fun bg s Z a1 a2 B S r1 r2 => ?_
  cases r1.inv
  cases r2.inv with
  | mk u hu =>
    refine search_none (hp s.heap (B.at S).X) (by rw [tx_length]; omega) (k := k) ?_ hk (Post.same S .none q)
    have : (tx t).cps.size = t.length := by simp [tx]
    rw [this]; exact he
theorem ca_has (il : IsL led x l) (q : Q (.bool true) m led) : CA c (.builtin "hasattr") [x, .str (Str.ofString "__getitem__")] [] m led Q := by
  refine ca_2 fun bg s Z a1 a2 B S r1 r2 => ?_
  obtain ⟨a, vs, n, rfl, ho, rs⟩ := il.at S.zk S.lk r1
  cases r2.inv with
  | mk u hu =>
    obtain ⟨h, g, d, t, os⟩ := s
    refine has_item_list ho fun h' k => ?_
    exact ⟨_, m, led, Z, Zle.refl _, rfl, ⟨S.keep k, S.tk⟩, .bool _, q⟩
theorem op_add_txt {X Y : Str} (hx : IsS x X) (hy : IsS y Y) (hz : X.length + Y.length ≤ 16777216) (q : Q (.txt (X ++ Y)) m led) : A2 c R (binaryOp .Add) x y m led Q := fun bg s Z a b B S ra rb => by
  obtain ⟨t, rfl⟩ := hx.of ra
  obtain ⟨u, rfl⟩ := hy.of rb
  refine P.add_str ?_
  split
  · rename_i h
    have e : X ++ Y = Y := by rw [str_empty h, Str.empty_append]
    rw [e] at q
    exact Post.same S (.txt Y u) q
  · split
    · rename_i h
      have e : X ++ Y = X := by rw [str_empty h, Str.append_empty]
      rw [e] at q
      exact Post.same S (.txt X t) q
    · exact ⟨by rw [Str.length_append, sizeLine_eq]; omega, Post.toks S (.txt _ _) q (Nat.le_succ _)⟩
theorem ca_str_txt {x C : Addr} {f : Addr} (i : IsI led x C) (hu : c.A.units < 4000) (hs : findIn c.K (.ref C) "__str__" = some (some (.ref f))) (hf : isFn c.K (.ref f) = true)
    (h : CA { c with A := c.A.in1.in1 } (.ref f) [.own x] [] m led fun r m led => ∃ y, IsS r y ∧ Q (.txt y) m led) : CA c (.type "str") [.own x] [] m led Q := by
  refine ca_1 fun bg s Z a1 B S r1 => ?_
  cases r1.inv
  obtain ⟨ox, od, I⟩ := i.at S.toSh
  refine kso_call (by show c.A.units + 1 + 1 < cLine; unfold cLine; omega) (B.at S).X I hs hf ?_
  refine wpAny_mono (h bg s Z _ _ B S (.cons (.own _) .nil) .nil) (fun r s' p => ?_) fun _ _ e => e
  obtain ⟨_, m', led', Z', z', e', S', r', y, hy, q⟩ := p
  obtain ⟨t, rfl⟩ := hy.of r'
  exact ⟨_, m', led', Z', z', e', S', .txt _ _, q⟩
theorem ca_eols {P : Addr} {rv : V} {t : List Nat} (hp : ∀ h, c.K.In h → IsPat h P cEol 0) (hrv : IsS rv (tx [13, 10]) ∨ ∃ k, rv = .obj (.str (tx [13, 10]) k)) (hx : IsS x (tx t)) (hz : t.length ≤ 1000000) (hz2 : (eols t).length ≤ 16777216)
    (q : Q (.txt (tx (eols t))) m led) : CA c (.builtin "re.Pattern.sub") [.obj (.ref P), rv, x] [] m led Q := by
  have hs : t.toArray.size = t.length := by simp
  have e : substF (nextEol t.toArray) t [13, 10] (t.length + 1) 0 = eols t := by
    have := subst_eol t.toArray (t.length + 1) 0 (Nat.zero_le _) (by rw [hs]; omega)
    simpa using this
  refine ca_sub (K := 30) (next := nextEol t.toArray) (rp := [13, 10]) (by decide) hp (fun d hd => ?_) (fun d p e' hd h => ?_) hrv (by decide +kernel) hx hz (by rw [e]; exact hz2) (by rw [e]; exact q)
  · rw [← hs] at hd ⊢
    exact search_eol hd
  · rw [← hs] at hd ⊢
    exact nextEol_ord hd h
theorem ca_dots {P : Addr} {rv : V} {t : List Nat} (hp : ∀ h, c.K.In h → IsPat h P cDot 0) (hrv : IsS rv (tx [46, 46])) (hx : IsS x (tx t)) (hz : t.length ≤ 1000000) (hz2 : (dots true t).length ≤ 16777216)
    (q : Q (.txt (tx (dots true t))) m led) : CA c (.builtin "re.Pattern.sub") [.obj (.ref P), rv, x] [] m led Q := by
  have hs : t.toArray.size = t.length := by simp
  have e : substF (nextD t.toArray) t [46, 46] (t.length + 1) 0 = dots true t := by
    have := subst_dot t.toArray (t.length + 1) 0 (Nat.zero_le _) (by rw [hs]; omega)
    simpa [bol] using this
  refine ca_sub (K := 4 * t.length + 8) (next := nextD t.toArray) (rp := [46, 46]) (by omega) hp (fun d hd => ?_) (fun d p e' hd h => ?_) (.inl hrv) (by decide +kernel) hx hz (by rw [e]; exact hz2) (by rw [e]; exact q)
  · rw [← hs] at hd ⊢
    exact search_dot hd
  · rw [← hs] at hd ⊢
    exact nextD_ord hd h
theorem ca_dotsB {P : Addr} {t : List Nat} (hp : ∀ h, c.K.In h → IsPat h P cDot 1) (ht : ∀ a ∈ t, a < 128) (hz : t.length ≤ 1000000) (hz2 : (dots true t).length ≤ 16777216)
    (q : Q (.bytes (octets (dots true t))) m led) : CA c (.builtin "re.Pattern.sub") [.obj (.ref P), .bytes (octets [46, 46]), .bytes (octets t)] [] m led Q := by
  have hs : t.toArray.size = t.length := by simp
  have e : substF (nextD t.toArray) t [46, 46] (t.length + 1) 0 = dots true t := by
    have := subst_dot t.toArray (t.length + 1) 0 (Nat.zero_le _) (by rw [hs]; omega)
    simpa [bol] using this
  refine ca_subB (K := 4 * t.length + 8) (next := nextD t.toArray) (rp := [46, 46]) (by omega) hp ht (by decide) (fun d hd => ?_) (fun d p e' hd h => ?_) (by decide +kernel) hz (by rw [e]; exact hz2) (by rw [e]; exact q)
  · rw [← hs] at hd ⊢
    exact search_dot hd
  · rw [← hs] at hd ⊢
    exact nextD_ord hd h
theorem ca_search_name {P : Addr} {t : List Nat} (hp : ∀ h, c.K.In h → IsPat h P cName 0) (h : ∀ a ∈ t, pName a = false) (hz : t.length ≤ 1000000) (q : Q .none m led) : CA c (.builtin "re.Pattern.search") [.obj (.ref P), .str (tx t)] [] m led Q := by
  have hs : t.toArray.size = t.length := by simp
  refine ca_search (k := 1) hp ?_ (by decide) hz q
  rw [← hs]
  refine search_name fun i hi => ?_
  rw [hs] at hi
  have : t.toArray.getD i 0 = t[i] := by simp [hi]
  rw [this]; exact h _ (List.getElem_mem hi)
theorem ca_search_value {P : Addr} {t : List Nat} (hp : ∀ h, c.K.In h → IsPat h P cValue 0) (h : ∀ a ∈ t, pValue a = false) (hz : t.length ≤ 1000000) (q : Q .none m led) : CA c (.builtin "re.Pattern.search") [.obj (.ref P), .str (tx t)] [] m led Q := by
  have hs : t.toArray.size = t.length := by simp
  refine ca_search (k := 1) hp ?_ (by decide) hz q
  rw [← hs]
  refine search_value fun i hi => ?_
  rw [hs] at hi
  have : t.toArray.getD i 0 = t[i] := by simp [hi]
  rw [this]; exact h _ (List.getElem_mem hi)
end
end Mine
end
section
open PySem PySem.W PySem.Calls PyProof.Rows
set_option Elab.async false
set_option maxRecDepth 100000
set_option linter.unusedVariables false
namespace Mine
structure Row4 where
  late : Int
  car : List Nat
  place : Int
  letter : List Nat
noncomputable def Row4.v (r : Row4) : V := .tup [.int r.late, .str (tx r.car), .int r.place, .str (tx r.letter)]
noncomputable def Row4.lt (a b : Row4) : Bool :=
  if (a.late == b.late) = true then (if a.car = b.car then (if (a.place == b.place) = true then (if a.letter = b.letter then false else decide (a.letter < b.letter)) else decide (a.place < b.place)) else decide (a.car < b.car)) else decide (a.late < b.late)
noncomputable def runT {α : Type} (less : Nat → Nat → Bool) : KasT α → α
  | .ret a => a
  | .ask i j k => runT less (k (less i j))
noncomputable def Row4.zero : Row4 := ⟨0, [], 0, []⟩
noncomputable def sort5 (ks : List Row4) : List Row4 := (runT (fun i j => (ks.getD i Row4.zero).lt (ks.getD j Row4.zero)) (kas_sort 5)).toList.map fun i => ks.getD i Row4.zero
noncomputable def okT : Nat → KasT (Array Nat) → Bool
  | _, .ret p => p.toList.all fun i => decide (i < 5)
  | 0, .ask .. => false
  | d + 1, .ask i j k => decide (i < 5) && decide (j < 5) && okT d (k true) && okT d (k false)
theorem ok5 : okT 30 (kas_sort 5) = true := by decide +kernel
section
variable {prog : Program} {w : World} {A : Around} {Z : Zt}
theorem tx_eq (a b : List Nat) : decide (tx a = tx b) = decide (a = b) := by
  by_cases h : a = b
  · subst h; simp
  · rw [decide_eq_false h, decide_eq_false fun e => h (tx_inj e)]
theorem tup4 {v : Value} {r : Row4} (h : R Z v r.v) : ∃ a n t1 t2 t3 t4, v = .ref a ∧ Z.ob a = some { cls := .type "tuple", data := .seq #[.int r.late t1, .str (tx r.car) t2, .int r.place t3, .str (tx r.letter) t4] n } := by
  have h : RTup Z "tuple" _ v := h.inv
  cases h with
  | mk a vs k e rs =>
    cases rs with
    | cons r1 rs =>
      cases rs.three with
      | mk v2 v3 v4 r2 r3 r4 =>
        cases r1.inv; cases r2.inv; cases r3.inv; cases r4.inv
        exact ⟨_, _, _, _, _, _, rfl, e⟩
theorem ask4 {a b : Row4} {va vb : Value} {s : Shared} {C : Bool → Shared → Prop} (zk : ∀ a o, Z.ob a = some o → s.heap.get? a = some o) (ra : R Z va a.v) (rb : R Z vb b.v) (q : C (a.lt b) s) :
    wpAny (model prog w) A (keyLt' (tuples' true) va vb) C (fun _ _ => False) s := by
  obtain ⟨x, n, t1, t2, t3, t4, rfl, ex⟩ := tup4 ra
  obtain ⟨y, k, u1, u2, u3, u4, rfl, ey⟩ := tup4 rb
  refine kat_lt (zk _ _ ex) rfl (zk _ _ ey) rfl ?_
  show KatLex _ _ _ _ _ _ [(_, _), (_, _), (_, _), (_, _)] 0 s
  refine kat_cons (wpAny_eqBool_int (kat_go (fun e1 => ?_) fun e1 => ?_))
  · refine kat_yes (kat_cons (wpAny_eqBool_str ?_))
    rw [tx_eq]
    refine kat_go (fun e2 => ?_) fun e2 => ?_
    · refine kat_yes (kat_cons (wpAny_eqBool_int (kat_go (fun e3 => ?_) fun e3 => ?_)))
      · refine kat_yes (kat_cons (wpAny_eqBool_str ?_))
        rw [tx_eq]
        refine kat_go (fun e4 => ?_) fun e4 => ?_
        · refine kat_yes (kat_nil ?_)
          have : a.lt b = false := by unfold Row4.lt; rw [if_pos e1, if_pos (of_decide_eq_true e2), if_pos e3, if_pos (of_decide_eq_true e4)]
          rw [this] at q; exact q
        · refine kat_no (kat_one _ _ (P.lt_str ?_))
          have : a.lt b = decide (a.letter < b.letter) := by unfold Row4.lt; rw [if_pos e1, if_pos (of_decide_eq_true e2), if_pos e3, if_neg (of_decide_eq_false e4)]
          rw [this] at q; exact q
      · refine kat_no (kat_one _ _ (P.lt_int ?_))
        have : a.lt b = decide (a.place < b.place) := by unfold Row4.lt; rw [if_pos e1, if_pos (of_decide_eq_true e2), if_neg (by rw [e3]; exact Bool.false_ne_true)]
        rw [this] at q; exact q
    · refine kat_no (kat_one _ _ (P.lt_str ?_))
      have : a.lt b = decide (a.car < b.car) := by unfold Row4.lt; rw [if_pos e1, if_neg (of_decide_eq_false e2)]
      rw [this] at q; exact q
  · refine kat_no ?_
    refine oneLt_int ?_
    have : a.lt b = decide (a.late < b.late) := by unfold Row4.lt; rw [if_neg (by rw [e1]; exact Bool.false_ne_true)]
    rw [this] at q; exact q
theorem asks5 {ks : List Row4} {vs : List Value} {s : Shared} {Q : Array Nat → Shared → Prop} (zk : ∀ a o, Z.ob a = some o → s.heap.get? a = some o) (r : Rs Z vs (ks.map Row4.v)) (h5 : ks.length = 5) :
    ∀ (d : Nat) (t : KasT (Array Nat)), okT d t = true → (∀ p : Array Nat, p = runT (fun i j => (ks.getD i Row4.zero).lt (ks.getD j Row4.zero)) t → (∀ i ∈ p.toList, i < 5) → Q p s) →
      t.kasWp (kas_ask prog w A (tuples' true) vs) Q s
  | _, .ret p, h, q => by
    refine q p rfl fun i hi => ?_
    have h' : (p.toList.all fun i => decide (i < 5)) = true := by
      rename_i d; cases d <;> exact h
    exact of_decide_eq_true (List.all_eq_true.mp h' i hi)
  | 0, .ask .., h, q => by cases h
  | d + 1, .ask i j k, h, q => by
    unfold okT at h
    simp only [Bool.and_eq_true, decide_eq_true_eq] at h
    obtain ⟨⟨⟨h1, h2⟩, h3⟩, h4⟩ := h
    have get : ∀ i, i < 5 → R Z (vs.getD i Value.none) (ks.getD i Row4.zero).v := fun i hi => by
      have e : (ks.map Row4.v)[i]? = some (ks.getD i Row4.zero).v := by
        rw [List.getElem?_map, List.getElem?_eq_getElem (by omega), List.getD_eq_getElem?_getD, List.getElem?_eq_getElem (by omega)]; rfl
      obtain ⟨v, e1, rv⟩ := r.get e
      rw [List.getD_eq_getElem?_getD, e1]; exact rv
    refine ask4 zk (get i h1) (get j h2) ?_
    refine asks5 zk r h5 d _ ?_ fun p hp hi => q p ?_ hi
    · cases ((ks.getD i Row4.zero).lt (ks.getD j Row4.zero)) <;> assumption
    · exact hp
end
section
variable {c : Cx} {bg : Bt} {m : Loc} {led : Led} {s : Shared} {Q : V → Loc → Led → Prop} {pos : Pos} {x y v : V} {l : List V} {Z : Zt}
theorem tups4 {h : Heap} (zk : ∀ a o, Z.ob a = some o → h.get? a = some o) : ∀ {vs : List Value} (ks : List Row4), Rs Z vs (ks.map Row4.v) → ∃ fs, KatTups h vs fs ∧ fs.length = ks.length ∧ ∀ v ∈ fs, ∃ i t, v = .int i t
  | _, [], .nil => ⟨[], KatTups.nil, rfl, fun v h => (by cases h)⟩
  | _, k :: ks, .cons r rs => by
    obtain ⟨fs, h1, h2, h3⟩ := tups4 zk ks rs
    obtain ⟨a, n, t1, t2, t3, t4, rfl, e⟩ := tup4 r
    refine ⟨.int k.late t1 :: fs, KatTups.cons (zk _ _ e) rfl rfl rfl h1, by simp [h2], fun v hv => ?_⟩
    rcases List.mem_cons.mp hv with rfl | hv
    · exact ⟨_, _, rfl⟩
    · exact h3 v hv
theorem ca_sorted4 {ks : List Row4} (il : IsL led x (ks.map Row4.v)) (h5 : ks.length = 5) (q : Q (.lst ((sort5 ks).map Row4.v)) m led) : CA c (.builtin "sorted") [x] [] m led Q := by
  refine ca_1 fun bg s Z a1 B S r1 => ?_
  obtain ⟨a, vs, n, rfl, ho, rs⟩ := il.at S.zk S.lk r1
  obtain ⟨mr, F, N, back⟩ := S.toSh.fr
  have hlen : vs.length = 5 := by rw [rs.length, List.length_map, h5]
  refine kat_sorted F N (isList ho) (by omega) (by omega) fun D e1 h' F' N' lo => ?_
  have zk' : ∀ a o, Z.ob a = some o → h'.get? a = some o := fun a o e => (N' (a, o) (.tail _ (allNews_mem (fun z => by subst z; rw [S.dloc.2.1] at e; cases e) (S.zk a o e)))).1
  obtain ⟨fs, t1, t2, t3⟩ := tups4 (h := h') zk' ks rs
  refine kat_kind (T := .type "int") t1 (by omega) (fun v hv => ?_) (by decide) ?_
  · obtain ⟨i, t, rfl⟩ := t3 v hv
    exact Looks.now
  · rw [hlen]
    rw [show (Value.type "int" != Value.type "tuple") = true by decide]
    refine asks5 (s := { s with heap := h' }) zk' rs h5 30 (kas_sort 5) ok5 fun p hp hi => ?_
    refine KasFin.intro F' N' (.head fun p hp => Nat.ne_of_lt (lo p hp)) fun h'' c' F'' N'' => ?_
    have S1 := back h'' [_] F'' N''
    have ho' := (N'' _ (.head _)).1
    have hL := (N'' _ (.head _)).2.1
    have dn : ∀ o, s.heap.get? D = some o → False := fun o e => Nat.lt_irrefl _ (lo (D, o) (allNews_mem hL e))
    have zn : Z.ob D = none := by
      cases e : Z.ob D with
      | none => rfl
      | some o => exact (dn o (S.zk _ _ e)).elim
    have le := zup_le (Z := Z) (W.listOf (List.toArray (p.toList.map fun i => vs.getD i Value.none)) c') zn
    refine ⟨.lst ((sort5 ks).map Row4.v), m, led, _, le, rfl, ⟨S1.zadd ho' zn ?_ ?_ hL ?_ (.inl ⟨_, _, rfl, .inr rfl⟩), S.tk.zup⟩, ?_, q⟩
    · cases e : bg D with
      | none => rfl
      | some o => exact (dn o (S.bgk _ _ e)).elim
    · cases e : led D with
      | none => rfl
      | some ao =>
        obtain ⟨o, e', _⟩ := S.lk _ _ e
        exact (dn o e').elim
    · intro y qy
      obtain ⟨r, ⟨o, e, _⟩, _⟩ := S.cel y _ qy
      exact dn _ e
    · refine .lst (zup_self ..) (Rs.mono le ?_)
      unfold sort5
      rw [← hp]
      have : ∀ l : List Nat, (∀ i ∈ l, i < 5) → Rs Z (l.map fun i => vs.getD i Value.none) ((l.map fun i => ks.getD i Row4.zero).map Row4.v) := by
        intro l
        induction l with
        | nil => intro _; exact .nil
        | cons i l ih =>
          intro h
          refine .cons ?_ (ih fun j hj => h j (.tail _ hj))
          have hi := h i (.head _)
          have e : (ks.map Row4.v)[i]? = some (ks.getD i Row4.zero).v := by
            rw [List.getElem?_map, List.getElem?_eq_getElem (by omega), List.getD_eq_getElem?_getD, List.getElem?_eq_getElem (by omega)]; rfl
          obtain ⟨v, e1, rv⟩ := rs.get e
          show R Z (vs.getD i Value.none) _
          rw [List.getD_eq_getElem?_getD, e1]; exact rv
      exact this _ hi
end
end Mine
end
section
open PySem PySem.W PySem.Calls PyProof.Rows
set_option Elab.async false
set_option maxRecDepth 100000
set_option linter.unusedVariables false
namespace Mine
noncomputable def okc (a : Nat) : Bool := a == 46 || a == 80 || a == 112 || a == 97 || a == 98 || a == 99 || a == 100
structure Ok (t : List Nat) : Prop where
  ch : ∀ a ∈ t, okc a = true
  len : t.length ≤ 100
theorem okc_cases {a : Nat} (h : okc a = true) : a = 46 ∨ a = 80 ∨ a = 112 ∨ a = 97 ∨ a = 98 ∨ a = 99 ∨ a = 100 := by
  unfold okc at h
  simp only [Bool.or_eq_true, beq_iff_eq] at h
  rcases h with (((((h | h) | h) | h) | h) | h) | h <;> subst h <;> simp
theorem okc_name {a : Nat} (h : okc a = true) : pName a = false := by
  rcases okc_cases h with h | h | h | h | h | h | h <;> subst h <;> decide
theorem okc_value {a : Nat} (h : okc a = true) : pValue a = false := by
  rcases okc_cases h with h | h | h | h | h | h | h <;> subst h <;> decide
theorem okc_ascii {a : Nat} (h : okc a = true) : a < 128 := by
  rcases okc_cases h with h | h | h | h | h | h | h <;> subst h <;> decide
theorem Ok.name {t : List Nat} (h : Ok t) : ∀ a ∈ t, pName a = false := fun a m => okc_name (h.ch a m)
theorem Ok.value {t : List Nat} (h : Ok t) : ∀ a ∈ t, pValue a = false := fun a m => okc_value (h.ch a m)
theorem Ok.ascii {t : List Nat} (h : Ok t) : ∀ a ∈ t, a < 128 := fun a m => okc_ascii (h.ch a m)
theorem lo1_okc {a : Nat} (h : okc a = true) : okc (lo1 a) = true := by
  rcases okc_cases h with h | h | h | h | h | h | h <;> subst h <;> decide
theorem Ok.lower {t : List Nat} (h : Ok t) : Ok (t.map lo1) := ⟨fun a m => by obtain ⟨b, hb, rfl⟩ := List.mem_map.mp m; exact lo1_okc (h.ch b hb), by rw [List.length_map]; exact h.len⟩
theorem kin_nil {α : Type} {P : Nat → α → Prop} : ∀ (L : Nat), ∀ x ∈ ([] : List α), P L x := fun _ x h => by cases h
theorem kin_cons {α : Type} {P : Nat → α → Prop} {a : α} {m : List α} (h : ∀ L, P L a) (k : ∀ (L : Nat), ∀ x ∈ m, P L x) : ∀ (L : Nat), ∀ x ∈ a :: m, P L x := fun L x hx => by
  rcases List.mem_cons.mp hx with rfl | hx
  · exact h L
  · exact k L x hx
theorem Less.nil (m : Loc) : Less [] m := fun x v h => by cases h
theorem Less.add {l m : Loc} {x : Str} {v : V} (h : m.lookup x = some v) (k : Less l m) : Less ((x, v) :: l) m := fun y u e => by
  rw [List.lookup_cons] at e
  split at e
  · rename_i z; cases e; rw [eq_of_beq z]; exact h
  · exact k y u e
theorem A1.less {α β : Type} {c : Cx} {rel : Zt → α → β → Prop} {t : Value → Sem α} {x : V} {m m₁ : Loc} {led : Led} {Q : β → Loc → Led → Prop} (h : A1 c rel t x m₁ led Q) (l : Less m₁ m) : A1 c rel t x m led Q :=
  fun bg s Z a B S r => h bg s Z a B (S.less l) r
theorem IsL.upd {led : Led} {hv : V} {l : List V} {dx : Addr} {d : List (Str × V)} {ao : AO} (h : IsL led hv l) (hd : led dx = some (.dict d)) : IsL (Mine.upd led dx ao) hv l := by
  rcases h with h | ⟨a, rfl, e⟩
  · exact .inl h
  · refine .inr ⟨a, rfl, ?_⟩
    unfold Mine.upd
    rw [if_neg fun z => by subst z; rw [hd] at e; cases e]; exact e
theorem upd_ne {led : Led} {x dx : Addr} {ao ao' : AO} (h : led x = some ao) (n : x ≠ dx) : upd led dx ao' x = some ao := by unfold upd; rw [if_neg n]; exact h
theorem upd_eq (led : Led) (x : Addr) (ao : AO) : upd led x ao x = some ao := by unfold upd; rw [if_pos rfl]
theorem ty_lower : typeOf (.builtin "str.lower") = pure (.type "method_descriptor") := by show builtinType _ = _; rw [builtinType_eq_fast]; kernel_rfl
theorem ty_append : typeOf (.builtin "list.append") = pure (.type "method_descriptor") := by show builtinType _ = _; rw [builtinType_eq_fast]; kernel_rfl
theorem ty_pop : typeOf (.builtin "list.pop") = pure (.type "method_descriptor") := by show builtinType _ = _; rw [builtinType_eq_fast]; kernel_rfl
theorem ty_join : typeOf (.builtin "str.join") = pure (.type "method_descriptor") := by show builtinType _ = _; rw [builtinType_eq_fast]; kernel_rfl
theorem ty_replace : typeOf (.builtin "str.replace") = pure (.type "method_descriptor") := by show builtinType _ = _; rw [builtinType_eq_fast]; kernel_rfl
theorem ty_split : typeOf (.builtin "str.split") = pure (.type "method_descriptor") := by show builtinType _ = _; rw [builtinType_eq_fast]; kernel_rfl
theorem ty_encode : typeOf (.builtin "str.encode") = pure (.type "method_descriptor") := by show builtinType _ = _; rw [builtinType_eq_fast]; kernel_rfl
theorem ty_decode : typeOf (.builtin "bytes.decode") = pure (.type "method_descriptor") := by show builtinType _ = _; rw [builtinType_eq_fast]; kernel_rfl
theorem gm_txt {c : Cx} {led : Led} {x : V} {y : Str} {name : Str} {id : String} (hx : IsS x y) (slot : Slot "str" name id) (hty : typeOf (.builtin id) = pure (.type "method_descriptor")) : GM c x name led (.builtin id) := by
  intro pl bg m s Z a B S r
  obtain ⟨t, rfl⟩ := hx.of r
  exact getMethod_builtin (T := "str") rfl PySem.F.plainAttrs_str slot hty (fun _ e => by cases e) ⟨rfl, rfl⟩
theorem range_all {α : Type} (l : List α) : ∀ n, (List.range' 0 n).filterMap (l[·]?) = l.take n := by
  intro n
  induction n generalizing l with
  | zero => simp
  | succ n ih =>
    cases l with
    | nil => simp
    | cons a l =>
      rw [List.range'_succ, List.filterMap_cons]
      simp only [List.getElem?_cons_zero, List.take_succ_cons]
      rw [← ih l, List.range'_eq_map_range, List.range'_eq_map_range, List.filterMap_map, List.filterMap_map]
      congr 1
      refine congrArg (fun f => List.filterMap f _) (funext fun i => ?_)
      simp [Nat.add_comm]
noncomputable abbrev Row := List Nat × List Nat
noncomputable def lw (t : List Nat) : List Nat := t.map lo1
noncomputable def look (rows : List Row) (nm : List Nat) : V := match rows.find? fun r => lw r.1 == nm with
  | some r => .str (tx r.2)
  | none => .none
noncomputable def rv (r : Row) : V := .tup [.str (tx r.1), .str (tx r.2)]
structure Oks (rows : List Row) : Prop where
  ok : ∀ r ∈ rows, Ok r.1 ∧ Ok r.2
  len : rows.length ≤ 20
structure HD (led : Led) (x dx : Addr) (hv : V) (rows : List Row) : Prop where
  i : led x = some (.inst 171 dx)
  d : led dx = some (.dict [("_headers", hv)])
  l : IsL led hv (rows.map rv)
  n : ∀ b, hv ≠ .obj b
theorem HD.isI {led : Led} {x dx : Addr} {hv : V} {rows : List Row} (h : HD led x dx hv rows) : IsI led x 171 := ⟨dx, _, h.i, h.d⟩
end Mine
end
section
open PySem PySem.W PySem.Calls PyProof.Rows
set_option Elab.async false
set_option maxRecDepth 100000
namespace Mine
theorem sr_one (a b : Nat) (h : a ≤ b) : sliceRange a b 1 = List.range' a (b - a) := by
  unfold sliceRange
  simp only [Int.zero_lt_one, if_true, gt_iff_lt, Int.add_sub_cancel, Int.ediv_one, Int.one_mul]
  have e : (if (a : Int) < b then ((b : Int) - a) else 0).toNat = b - a := by split <;> omega
  rw [e, List.range'_eq_map_range]
  refine List.map_congr_left fun k _ => ?_
  omega
theorem fm_range' {α : Type} (l : List α) (a n : Nat) : (List.range' a n).filterMap (l[·]?) = (l.drop a).take n := by
  rw [← range_all (l.drop a) n, List.range'_eq_map_range, List.range'_eq_map_range, List.filterMap_map, List.filterMap_map]
  refine congrArg (fun f => List.filterMap f _) (funext fun i => ?_)
  simp
theorem pick_all {α : Type} (l : List α) : pick l none none none = l := by
  show (sliceRange 0 (l.length : Int) 1).filterMap (l[·]?) = l
  have := sr_one 0 l.length (Nat.zero_le _)
  rw [show (sliceRange 0 (l.length : Int) 1) = List.range' 0 (l.length - 0) from this, fm_range']
  simp
theorem pick_last6 {α : Type} (l : List α) (h : 6 ≤ l.length) : pick l (some (-6)) none none = l.drop (l.length - 6) := by
  have e : sliceBounds (some (-6)) none none l.length = (((l.length - 6 : Nat) : Int), (l.length : Int), 1) := by
    unfold sliceBounds
    simp only [Option.getD_none, gt_iff_lt, Int.zero_lt_one, if_true]
    rw [if_pos (by decide)]
    refine Prod.ext ?_ rfl
    show max 0 (min ((-6 : Int) + l.length) l.length) = _
    omega
  unfold pick
  rw [e]
  dsimp only
  rw [sr_one _ _ (by omega), fm_range', List.take_of_length_le (by simp)]
theorem pick_but6 {α : Type} (l : List α) (h : 6 ≤ l.length) : pick l none (some (-6)) none = l.take (l.length - 6) := by
  have e : sliceBounds none (some (-6)) none l.length = (((0 : Nat) : Int), ((l.length - 6 : Nat) : Int), 1) := by
    unfold sliceBounds
    simp only [Option.getD_none, gt_iff_lt, Int.zero_lt_one, if_true]
    rw [if_pos (by decide)]
    have : max 0 (min ((-6 : Int) + l.length) l.length) = ((l.length - 6 : Nat) : Int) := by omega
    exact congrArg (fun z => ((0 : Int), z, (1 : Int))) this
  unfold pick
  rw [e]
  dsimp only
  rw [sr_one _ _ (by omega), fm_range']
  simp
theorem pick_rev5 {α : Type} (a b c d e : α) : pick [a, b, c, d, e] none none (some (-1)) = [e, d, c, b, a] := by
  have e1 : sliceRange (sliceBounds none none (some (-1)) 5).1 (sliceBounds none none (some (-1)) 5).2.1 (sliceBounds none none (some (-1)) 5).2.2 = [4, 3, 2, 1, 0] := by decide +kernel
  unfold pick
  show (sliceRange (sliceBounds none none (some (-1)) 5).1 (sliceBounds none none (some (-1)) 5).2.1 (sliceBounds none none (some (-1)) 5).2.2).filterMap _ = _
  rw [e1]
  rfl
theorem IsL.ext {led led' : Led} {hv : V} {l : List V} (h : IsL led hv l) (e : Ext led led') : IsL led' hv l := by
  rcases h with h | ⟨a, rfl, z⟩
  · exact .inl h
  · exact .inr ⟨a, rfl, e _ _ z⟩
theorem lk_nil {α : Type} {P : Str → α → Prop} : ∀ x a, List.lookup x ([] : List (Str × α)) = some a → P x a := fun x a h => by cases h
theorem lk_cons {α : Type} {P : Str → α → Prop} {k : Str} {v : α} {l : List (Str × α)} (h : P k v) (r : ∀ x a, l.lookup x = some a → P x a) : ∀ x a, List.lookup x ((k, v) :: l) = some a → P x a := fun x a e => by
  rw [List.lookup_cons] at e
  split at e
  · rename_i z; cases e; rw [eq_of_beq z]; exact h
  · exact r x a e
theorem ful_nil {α : Type} {P : Str → V → Prop} : ∀ x a v, List.lookup x ([] : List (Str × α)) = some a → P x v := fun x a v h => by cases h
theorem ful_cons {α : Type} {P : Str → V → Prop} {k : Str} {b : α} {l : List (Str × α)} (h : ∀ v, P k v) (r : ∀ x a v, l.lookup x = some a → P x v) : ∀ x a v, List.lookup x ((k, b) :: l) = some a → P x v := fun x a v e => by
  rw [List.lookup_cons] at e
  split at e
  · rename_i z; rw [eq_of_beq z]; exact h v
  · exact r x a v e
end Mine
end
section
open PySem PySem.W PySem.Calls PyProof.Rows
set_option Elab.async false
set_option maxRecDepth 100000
set_option linter.unusedVariables false
namespace Mine
noncomputable def has : List Nat → Nat → Bool
  | [], _ => false
  | q :: l, p => cond (Nat.beq q p) true (has l p)
noncomputable def ffrom (occ : List Nat) : Nat → Nat → Nat
  | 0, p => p
  | k + 1, p => cond (has occ p) (ffrom occ k p.succ) p
noncomputable def occs : List Nat → List Nat → List Nat
  | occ, [] => occ
  | occ, p :: ws => occs (ffrom occ 4 p :: occ) ws
noncomputable def frees : List Nat → List Nat → Bool
  | _, [] => true
  | occ, p :: ws => cond (has occ (ffrom occ 4 p)) false (frees (ffrom occ 4 p :: occ) ws)
noncomputable def countN (n : Nat) : List Nat → Nat
  | [] => 0
  | w :: ws => cond (Nat.beq w n) (countN n ws).succ (countN n ws)
noncomputable def takenP (ws : List Nat) (place : Nat) : Nat → Nat → Bool
  | 0, _ => false
  | n + 1, acc => cond (Nat.ble place.succ (Nat.add (Nat.add acc (countN n.succ ws)) n.succ)) true (takenP ws place n (Nat.add acc (countN n.succ ws)))
noncomputable def placesF (ws : List Nat) : Nat → List Nat → List Nat
  | 0, acc => acc
  | n + 1, acc => cond (takenP ws n.succ n.succ 0) (placesF ws n (n.succ :: acc)) (placesF ws n acc)
noncomputable def ins (a : Nat) : List Nat → List Nat
  | [] => [a]
  | b :: l => cond (Nat.ble a b) (a :: b :: l) (b :: ins a l)
noncomputable def isort : List Nat → List Nat
  | [] => []
  | a :: l => ins a (isort l)
noncomputable def eqs : List Nat → List Nat → Bool
  | [], [] => true
  | a :: l, b :: k => cond (Nat.beq a b) (eqs l k) false
  | _, _ => false
noncomputable abbrev Pc := Nat × Nat
noncomputable def any1 : List Pc → Nat → Bool
  | [], _ => false
  | q :: l, p => cond (Nat.beq q.1 p) true (any1 l p)
noncomputable def round1 : List Pc → List Pc → List Pc → List Pc × List Pc
  | lot, left, [] => (lot, left)
  | lot, left, k :: road => cond (any1 lot k.1) (round1 lot (left ++ [k]) road) (round1 (lot ++ [k]) left road)
noncomputable def further : List Pc → List Pc
  | [] => []
  | k :: l => (k.1 + 1, k.2) :: further l
noncomputable def allR : Nat → List Pc → List Pc → List Pc
  | 0, _, _ => []
  | h + 1, lot, road => match round1 lot [] road with
    | (lot', []) => lot'
    | (lot', k :: left) => allR h lot' (further (k :: left))
structure Bk where
  late : Nat
  car : Nat
  place : Nat
noncomputable def sel (place : Nat) : List Pc → List Pc
  | [] => []
  | k :: l => cond (Nat.beq k.1 place) (k :: sel place l) (sel place l)
noncomputable def lastOf : List Pc → Option (List Pc × Pc)
  | [] => none
  | k :: l => match lastOf l with
    | none => some ([], k)
    | some (i, z) => some (k :: i, z)
noncomputable def brk (rev : List Pc) : List Pc → List Nat → List Bk
  | _, [] => []
  | waiting, place :: ps => match lastOf (waiting ++ sel place rev) with
    | none => brk rev [] ps
    | some (i, k) => ⟨place - k.1, k.2, place⟩ :: brk rev i ps
noncomputable def Bk.lt (a b : Bk) : Bool := cond (Nat.beq a.late b.late) (cond (Nat.beq a.car b.car) (Nat.ble (a.place + 1) b.place) (Nat.ble (a.car + 1) b.car)) (Nat.ble (a.late + 1) b.late)
noncomputable def Bk.zero : Bk := ⟨0, 0, 0⟩
noncomputable def sortB (ks : List Bk) : List Bk := (runT (fun i j => (ks.getD i Bk.zero).lt (ks.getD j Bk.zero)) (kas_sort 5)).toList.map fun i => ks.getD i Bk.zero
noncomputable def eqp : List Pc → List Bk → Bool
  | [], [] => true
  | a :: l, b :: k => cond (Nat.beq a.1 b.place) (cond (Nat.beq a.2 b.car) (eqp l k) false) false
  | _, _ => false
noncomputable def rowsOf (a b c d e : Nat) : List Pc := [(a, 0), (b, 1), (c, 2), (d, 3), (e, 4)]
noncomputable def chk1 (a b c d e : Nat) : Bool := cond (frees [] [a, b, c, d, e]) (eqs (isort (occs [] [a, b, c, d, e])) (placesF [a, b, c, d, e] 9 [])) false
noncomputable def chk2 (a b c d e : Nat) : Bool := eqp (allR 5 [] (rowsOf a b c d e)) (sortB (brk (rowsOf a b c d e).reverse [] [1, 2, 3, 4, 5, 6, 7, 8, 9]))
noncomputable def chk3 (a b c d e : Nat) : Bool := eqs (isort ((allR 5 [] (rowsOf a b c d e)).map (·.1))) (isort (occs [] [a, b, c, d, e]))
noncomputable def chk4 (a b c d e : Nat) : Bool := Nat.beq (brk (rowsOf a b c d e).reverse [] [1, 2, 3, 4, 5, 6, 7, 8, 9]).length 5
noncomputable def chk (a b c d e : Nat) : Bool := cond (chk1 a b c d e) (cond (chk2 a b c d e) (cond (chk3 a b c d e) (chk4 a b c d e) false) false) false
noncomputable def upto5 (f : Nat → Bool) : Bool := cond (f 1) (cond (f 2) (cond (f 3) (cond (f 4) (f 5) false) false) false) false
noncomputable def chkAll (f : Nat → Nat → Nat → Nat → Nat → Bool) (a b : Nat) : Bool := upto5 fun c => upto5 fun d => upto5 fun e => f a b c d e
theorem eqs_eq : ∀ {l k : List Nat}, eqs l k = true → l = k
  | [], [], _ => rfl
  | [], _ :: _, h => by cases h
  | _ :: _, [], h => by cases h
  | a :: l, b :: k, h => by
    unfold eqs at h
    cases e : Nat.beq a b with
    | true => rw [e] at h; rw [Nat.eq_of_beq_eq_true e, eqs_eq h]
    | false => rw [e] at h; cases h
theorem eqp_eq : ∀ {l : List Pc} {k : List Bk}, eqp l k = true → l = k.map fun z => (z.place, z.car)
  | [], [], _ => rfl
  | [], _ :: _, h => by cases h
  | _ :: _, [], h => by cases h
  | (a, a') :: l, b :: k, h => by
    unfold eqp at h
    cases e : Nat.beq a b.place with
    | true =>
      rw [e] at h
      cases e' : Nat.beq a' b.car with
      | true =>
        rw [e'] at h
        rw [List.map_cons, ← eqp_eq h, Nat.eq_of_beq_eq_true e, Nat.eq_of_beq_eq_true e']
      | false => rw [e'] at h; cases h
    | false => rw [e] at h; cases h
theorem upto5_at {f : Nat → Bool} (h : upto5 f = true) : ∀ a, 1 ≤ a → a ≤ 5 → f a = true := by
  unfold upto5 at h
  intro a h1 h2
  cases e1 : f 1 <;> rw [e1] at h <;> simp only [cond_true, cond_false] at h
  · cases h
  cases e2 : f 2 <;> rw [e2] at h <;> simp only [cond_true, cond_false] at h
  · cases h
  cases e3 : f 3 <;> rw [e3] at h <;> simp only [cond_true, cond_false] at h
  · cases h
  cases e4 : f 4 <;> rw [e4] at h <;> simp only [cond_true, cond_false] at h
  · cases h
  have : a = 1 ∨ a = 2 ∨ a = 3 ∨ a = 4 ∨ a = 5 := by omega
  rcases this with rfl | rfl | rfl | rfl | rfl <;> assumption
theorem chkAll_at {f : Nat → Nat → Nat → Nat → Nat → Bool} {a b : Nat} (h : chkAll f a b = true) {c d e : Nat} (hc : 1 ≤ c ∧ c ≤ 5) (hd : 1 ≤ d ∧ d ≤ 5) (he : 1 ≤ e ∧ e ≤ 5) : f a b c d e = true :=
  upto5_at (upto5_at (upto5_at h c hc.1 hc.2) d hd.1 hd.2) e he.1 he.2
theorem nbeq {a b : Nat} (h : a ≠ b) : Nat.beq a b = false := by
  cases e : Nat.beq a b with
  | false => rfl
  | true => exact absurd (Nat.eq_of_beq_eq_true e) h
noncomputable def cnt (f place : Nat) (ws : List Nat) : Nat := (ws.filter fun w => decide (f ≤ w ∧ w ≤ place)).length
theorem cnt_step {f place : Nat} (h : f ≤ place) : ∀ ws, cnt f place ws = cnt (f + 1) place ws + countN f ws := by
  intro ws
  induction ws with
  | nil => rfl
  | cons w ws ih =>
    unfold cnt at *
    rw [List.filter_cons, List.filter_cons]
    unfold countN
    rcases Nat.lt_trichotomy w f with hw | hw | hw
    · rw [if_neg (by simp; omega), if_neg (by simp; omega)]
      have : Nat.beq w f = false := nbeq (by omega)
      rw [this]; exact ih
    · subst hw
      rw [if_pos (by simp; omega), if_neg (by simp; omega)]
      have : Nat.beq w w = true := Nat.beq_refl w
      rw [this]; simp only [List.length_cons, ih, cond_true]; omega
    · by_cases hp : w ≤ place
      · rw [if_pos (by simp; omega), if_pos (by simp; omega)]
        have : Nat.beq w f = false := nbeq (by omega)
        rw [this]; simp only [List.length_cons, ih, cond_false]; omega
      · rw [if_neg (by simp; omega), if_neg (by simp; omega)]
        have : Nat.beq w f = false := nbeq (by omega)
        rw [this]; exact ih
theorem takenP_iff (ws : List Nat) (place : Nat) : ∀ n acc, n ≤ place → acc = cnt (n + 1) place ws → (takenP ws place n acc = true ↔ ∃ f, 1 ≤ f ∧ f ≤ n ∧ place < cnt f place ws + f)
  | 0, acc, _, _ => ⟨fun h => (by cases h), fun ⟨f, h1, h2, _⟩ => (by omega)⟩
  | n + 1, acc, hn, ha => by
    unfold takenP
    have e : Nat.add acc (countN n.succ ws) = cnt (n + 1) place ws := by
      rw [ha, cnt_step (f := n + 1) hn]; rfl
    rw [e]
    cases hb : Nat.ble place.succ (Nat.add (cnt (n + 1) place ws) n.succ) with
    | true =>
      have := Nat.le_of_ble_eq_true hb
      exact ⟨fun _ => ⟨n + 1, by omega, Nat.le_refl _, this⟩, fun _ => rfl⟩
    | false =>
      have hb' : ¬ place.succ ≤ Nat.add (cnt (n + 1) place ws) n.succ := fun h => by rw [Nat.ble_eq_true_of_le h] at hb; cases hb
      show takenP ws place n _ = true ↔ _
      rw [takenP_iff ws place n _ (by omega) rfl]
      constructor
      · rintro ⟨f, h1, h2, h3⟩; exact ⟨f, h1, by omega, h3⟩
      · rintro ⟨f, h1, h2, h3⟩
        rcases Nat.lt_or_ge f (n + 1) with h | h
        · exact ⟨f, h1, by omega, h3⟩
        · have : f = n + 1 := by omega
          subst this
          exact absurd h3 hb'
theorem cnt_over (place : Nat) (ws : List Nat) : cnt (place + 1) place ws = 0 := by
  unfold cnt
  rw [List.filter_eq_nil_iff.mpr]; rfl
  intro a _
  simp; omega
noncomputable def tk (ws : List Nat) (i : Nat) : List Nat := (List.range' 1 i).filter fun p => takenP ws p p 0
theorem placesF_tk (ws : List Nat) : ∀ n acc, placesF ws n acc = tk ws n ++ acc
  | 0, acc => rfl
  | n + 1, acc => by
    unfold placesF
    rw [placesF_tk ws n, placesF_tk ws n]
    unfold tk
    rw [List.range'_concat, List.filter_append]
    cases h : takenP ws n.succ n.succ 0 with
    | true =>
      have h' : takenP ws (1 + 1 * n) (1 + 1 * n) 0 = true := by rw [show 1 + 1 * n = n.succ by omega]; exact h
      rw [List.filter_cons, if_pos h']
      simp only [cond_true, List.filter_nil, List.append_assoc, List.cons_append, List.nil_append]
      rw [show 1 + 1 * n = n.succ by omega]
    | false =>
      have h' : takenP ws (1 + 1 * n) (1 + 1 * n) 0 = false := by rw [show 1 + 1 * n = n.succ by omega]; exact h
      rw [List.filter_cons, if_neg (by rw [h']; decide)]
      simp only [cond_false, List.filter_nil, List.append_nil]
end Mine
end
section
open PySem PySem.W PySem.Calls PyProof.Rows
set_option Elab.async false
set_option maxRecDepth 100000
namespace Mine
theorem chk_1_1 : chkAll chk 1 1 = true := by decide +kernel
theorem chk_1_2 : chkAll chk 1 2 = true := by decide +kernel
theorem chk_1_3 : chkAll chk 1 3 = true := by decide +kernel
theorem chk_1_4 : chkAll chk 1 4 = true := by decide +kernel
theorem chk_1_5 : chkAll chk 1 5 = true := by decide +kernel
theorem chk_2_1 : chkAll chk 2 1 = true := by decide +kernel
theorem chk_2_2 : chkAll chk 2 2 = true := by decide +kernel
theorem chk_2_3 : chkAll chk 2 3 = true := by decide +kernel
theorem chk_2_4 : chkAll chk 2 4 = true := by decide +kernel
theorem chk_2_5 : chkAll chk 2 5 = true := by decide +kernel
theorem chk_3_1 : chkAll chk 3 1 = true := by decide +kernel
theorem chk_3_2 : chkAll chk 3 2 = true := by decide +kernel
theorem chk_3_3 : chkAll chk 3 3 = true := by decide +kernel
theorem chk_3_4 : chkAll chk 3 4 = true := by decide +kernel
theorem chk_3_5 : chkAll chk 3 5 = true := by decide +kernel
theorem chk_4_1 : chkAll chk 4 1 = true := by decide +kernel
theorem chk_4_2 : chkAll chk 4 2 = true := by decide +kernel
theorem chk_4_3 : chkAll chk 4 3 = true := by decide +kernel
theorem chk_4_4 : chkAll chk 4 4 = true := by decide +kernel
theorem chk_4_5 : chkAll chk 4 5 = true := by decide +kernel
theorem chk_5_1 : chkAll chk 5 1 = true := by decide +kernel
theorem chk_5_2 : chkAll chk 5 2 = true := by decide +kernel
theorem chk_5_3 : chkAll chk 5 3 = true := by decide +kernel
theorem chk_5_4 : chkAll chk 5 4 = true := by decide +kernel
theorem chk_5_5 : chkAll chk 5 5 = true := by decide +kernel
theorem chk_at {a b c d e : Nat} (ha : 1 ≤ a ∧ a ≤ 5) (hb : 1 ≤ b ∧ b ≤ 5) (hc : 1 ≤ c ∧ c ≤ 5) (hd : 1 ≤ d ∧ d ≤ 5) (he : 1 ≤ e ∧ e ≤ 5) : chk a b c d e = true := by
  refine chkAll_at ?_ hc hd he
  have h1 : a = 1 ∨ a = 2 ∨ a = 3 ∨ a = 4 ∨ a = 5 := by omega
  have h2 : b = 1 ∨ b = 2 ∨ b = 3 ∨ b = 4 ∨ b = 5 := by omega
  rcases h1 with rfl | rfl | rfl | rfl | rfl <;> rcases h2 with rfl | rfl | rfl | rfl | rfl
  · exact chk_1_1
  · exact chk_1_2
  · exact chk_1_3
  · exact chk_1_4
  · exact chk_1_5
  · exact chk_2_1
  · exact chk_2_2
  · exact chk_2_3
  · exact chk_2_4
  · exact chk_2_5
  · exact chk_3_1
  · exact chk_3_2
  · exact chk_3_3
  · exact chk_3_4
  · exact chk_3_5
  · exact chk_4_1
  · exact chk_4_2
  · exact chk_4_3
  · exact chk_4_4
  · exact chk_4_5
  · exact chk_5_1
  · exact chk_5_2
  · exact chk_5_3
  · exact chk_5_4
  · exact chk_5_5
end Mine
end
section
open PySem PySem.W PySem.Calls PyProof.Rows
set_option Elab.async false
set_option maxRecDepth 100000
set_option linter.unusedVariables false
namespace Mine
noncomputable abbrev Car := Nat × Nat × Nat
noncomputable def figB (f mv : Nat) : Bool := f / 2 ^ mv % 2 == 1
noncomputable def park (f : Nat) : Nat → List Car → Nat → Car → List Car × Nat
  | 0, lot, mv, _ => (lot, mv)
  | k + 1, lot, mv, (p, l, c) => match lot.find? (fun r => r.1 == p) with
    | none => (lot ++ [(p, l, c)], mv)
    | some r => if figB f mv = true then park f k (lot.filter (fun r => r.1 != p) ++ [(p, l, c)]) (mv + 1) (p + 1, l, r.2.2) else park f k lot (mv + 1) (p + 1, l, c)
noncomputable def pl (lot : List Car) : List Nat := lot.map (·.1)
noncomputable def cs (lot : List Car) : List Nat := lot.map (·.2.2)
noncomputable def Fr (k : Nat) (lot : List Car) (p : Nat) : Prop := has (pl lot) (ffrom (pl lot) k p) = false
theorem has_iff : ∀ (l : List Nat) (p : Nat), has l p = true ↔ p ∈ l
  | [], p => ⟨fun h => (by cases h), fun h => (by cases h)⟩
  | q :: l, p => by
    unfold has
    cases e : Nat.beq q p with
    | true => exact ⟨fun _ => by rw [Nat.eq_of_beq_eq_true e]; exact .head _, fun _ => rfl⟩
    | false =>
      show has l p = true ↔ _
      rw [has_iff l p]
      constructor
      · exact .tail _
      · intro h
        rcases List.mem_cons.mp h with rfl | h
        · rw [Nat.beq_refl] at e; cases e
        · exact h
theorem has_congr {o o' : List Nat} (h : ∀ q, q ∈ o ↔ q ∈ o') (p : Nat) : has o p = has o' p := by
  rw [Bool.eq_iff_iff, has_iff, has_iff]; exact h p
theorem ffrom_congr {o o' : List Nat} (h : ∀ q, q ∈ o ↔ q ∈ o') : ∀ k p, ffrom o k p = ffrom o' k p
  | 0, p => rfl
  | k + 1, p => by
    unfold ffrom
    rw [has_congr h, ffrom_congr h k]
theorem Fr.congr {k : Nat} {lot lot' : List Car} {p : Nat} (h : ∀ q, q ∈ pl lot ↔ q ∈ pl lot') (f : Fr k lot p) : Fr k lot' p := by
  unfold Fr at *
  rw [← has_congr h, ← ffrom_congr h]; exact f
theorem find_none {lot : List Car} {p : Nat} : lot.find? (fun r => r.1 == p) = none ↔ p ∉ pl lot := by
  rw [List.find?_eq_none]
  unfold pl
  constructor
  · intro h m
    obtain ⟨r, hr, rfl⟩ := List.mem_map.mp m
    exact h r hr (by simp)
  · intro h r hr e
    exact h (List.mem_map.mpr ⟨r, hr, by simpa using e⟩)
theorem find_some {lot : List Car} {p : Nat} {r : Car} (h : lot.find? (fun r => r.1 == p) = some r) : r ∈ lot ∧ r.1 = p :=
  ⟨List.mem_of_find?_eq_some h, by simpa using List.find?_some h⟩
theorem find_perm : ∀ {lot : List Car} {p : Nat} {r : Car}, (pl lot).Nodup → lot.find? (fun r => r.1 == p) = some r → lot.Perm (r :: lot.filter (fun r => r.1 != p))
  | [], p, r, _, h => by cases h
  | a :: lot, p, r, nd, h => by
    unfold pl at nd
    rw [List.map_cons, List.nodup_cons] at nd
    by_cases e : a.1 = p
    · rw [List.find?_cons_of_pos (by simp [e])] at h
      cases h
      rw [List.filter_cons_of_neg (by simp [e])]
      have : lot.filter (fun r => r.1 != p) = lot := List.filter_eq_self.mpr fun b hb => by
        have : b.1 ≠ p := fun z => nd.1 (List.mem_map.mpr ⟨b, hb, by rw [z, e]⟩)
        simp [this]
      rw [this]
    · rw [List.find?_cons_of_neg (by simp [e])] at h
      rw [List.filter_cons_of_pos (by simp [e])]
      exact ((find_perm nd.2 h).cons a).trans (List.Perm.swap ..)
theorem moved {lot : List Car} {p l c : Nat} {r : Car} (nd : (pl lot).Nodup) (h : lot.find? (fun r => r.1 == p) = some r) :
    (pl (lot.filter (fun r => r.1 != p) ++ [(p, l, c)])).Perm (pl lot) ∧ (r.2.2 :: cs (lot.filter (fun r => r.1 != p) ++ [(p, l, c)])).Perm (c :: cs lot) := by
  have hp := find_perm nd h
  have e := (find_some h).2
  constructor
  · have h1 := hp.map (·.1)
    unfold pl
    rw [List.map_append]
    refine (List.perm_append_comm).trans (List.Perm.trans ?_ h1.symm)
    show (p :: _).Perm (r.1 :: _)
    rw [e]
    exact List.Perm.refl _
  · have h1 := hp.map (·.2.2)
    unfold cs
    rw [List.map_append]
    have h2 : (c :: lot.map (·.2.2)).Perm (c :: r.2.2 :: (lot.filter (fun r => r.1 != p)).map (·.2.2)) := h1.cons c
    refine List.Perm.trans ?_ h2.symm
    refine List.Perm.trans ?_ (List.Perm.swap ..)
    exact (List.perm_append_comm).cons _
theorem Fr.step {k : Nat} {lot : List Car} {p : Nat} (f : Fr k lot p) (h : p ∈ pl lot) : ∃ k', k = k' + 1 ∧ Fr k' lot (p + 1) ∧ ffrom (pl lot) k p = ffrom (pl lot) k' (p + 1) := by
  have hh := (has_iff _ _).mpr h
  cases k with
  | zero =>
    unfold Fr ffrom at f
    rw [hh] at f; cases f
  | succ k =>
    have e : ffrom (pl lot) (k + 1) p = ffrom (pl lot) k (p + 1) := by
      show cond (has (pl lot) p) _ _ = _
      rw [hh]; rfl
    refine ⟨k, rfl, ?_, e⟩
    unfold Fr at *
    rw [← e]; exact f
theorem ffrom_free {lot : List Nat} {k p : Nat} (h : p ∉ lot) : ffrom lot k p = p := by
  have : has lot p = false := by
    cases e : has lot p with
    | false => rfl
    | true => exact absurd ((has_iff _ _).mp e) h
  cases k with
  | zero => rfl
  | succ k => show cond (has lot p) _ _ = _; rw [this]; rfl
structure OkC (k : Car) : Prop where
  p : 1 ≤ k.1
  l : k.2.1 = 112 ∨ k.2.1 = 80
  c : k.2.2 < 5
theorem park_spec (f : Nat) : ∀ (k : Nat) (lot : List Car) (mv p l c : Nat), (pl lot).Nodup → Fr k lot p → (∀ r ∈ lot, OkC r) → OkC (p, l, c) →
    (pl (park f (k + 1) lot mv (p, l, c)).1).Perm (ffrom (pl lot) k p :: pl lot) ∧ (park f (k + 1) lot mv (p, l, c)).2 + p = mv + ffrom (pl lot) k p ∧ (cs (park f (k + 1) lot mv (p, l, c)).1).Perm (c :: cs lot) ∧ ∀ r ∈ (park f (k + 1) lot mv (p, l, c)).1, OkC r := by
  intro k
  induction k with
  | zero =>
    intro lot mv p l c nd fr ok okc
    have hn : p ∉ pl lot := fun h => by
      have := (has_iff _ _).mpr h
      unfold Fr ffrom at fr
      rw [this] at fr; cases fr
    unfold park
    rw [find_none.mpr hn]
    dsimp only
    refine ⟨?_, rfl, ?_, fun r hr => ?_⟩
    · unfold pl; rw [List.map_append]; exact List.perm_append_comm
    · unfold cs; rw [List.map_append]; exact List.perm_append_comm
    · rcases List.mem_append.mp hr with hr | hr
      · exact ok r hr
      · simp only [List.mem_cons, List.not_mem_nil, or_false] at hr
        subst hr; exact okc
  | succ k ih =>
    intro lot mv p l c nd fr ok okc
    unfold park
    cases e : lot.find? (fun r => r.1 == p) with
    | none =>
      have hn := find_none.mp e
      dsimp only
      rw [ffrom_free hn]
      refine ⟨?_, rfl, ?_, fun r hr => ?_⟩
      · unfold pl; rw [List.map_append]; exact List.perm_append_comm
      · unfold cs; rw [List.map_append]; exact List.perm_append_comm
      · rcases List.mem_append.mp hr with hr | hr
        · exact ok r hr
        · simp only [List.mem_cons, List.not_mem_nil, or_false] at hr
          subst hr; exact okc
    | some r =>
      obtain ⟨hr, he⟩ := find_some e
      have hm : p ∈ pl lot := List.mem_map.mpr ⟨r, hr, he⟩
      obtain ⟨k', hk, fr', ef⟩ := fr.step hm
      cases hk
      dsimp only
      split
      · obtain ⟨m1, m2⟩ := moved (l := l) (c := c) nd e
        have nd' := m1.nodup_iff.mpr nd
        have mem : ∀ q, q ∈ pl lot ↔ q ∈ pl (lot.filter (fun r => r.1 != p) ++ [(p, l, c)]) := fun q => m1.symm.mem_iff
        obtain ⟨h1, h2, h3, h4⟩ := ih _ (mv + 1) (p + 1) l r.2.2 nd' (fr'.congr mem) (fun z hz => by
          rcases List.mem_append.mp hz with hz | hz
          · exact ok z (List.mem_filter.mp hz).1
          · simp only [List.mem_cons, List.not_mem_nil, or_false] at hz
            subst hz; exact okc) ⟨Nat.le_add_left _ _, okc.l, (ok r hr).c⟩
        rw [← ffrom_congr mem] at h1 h2
        rw [ef]
        exact ⟨h1.trans (m1.cons _), by omega, h3.trans m2, h4⟩
      · obtain ⟨h1, h2, h3, h4⟩ := ih lot (mv + 1) (p + 1) l c nd fr' ok ⟨Nat.le_add_left _ _, okc.l, okc.c⟩
        rw [ef]
        exact ⟨h1, by omega, h3, h4⟩
noncomputable def parks (f : Nat) : List Car × Nat → List Car → List Car × Nat
  | s, [] => s
  | s, k :: cars => parks f (park f 5 s.1 s.2 k) cars
theorem ffrom_ge (o : List Nat) : ∀ k p, p ≤ ffrom o k p ∧ ffrom o k p ≤ p + k
  | 0, p => ⟨Nat.le_refl _, Nat.le_refl _⟩
  | k + 1, p => by
    unfold ffrom
    cases has o p with
    | true =>
      have := ffrom_ge o k p.succ
      simp only [cond_true]
      omega
    | false => simp only [cond_false]; omega
structure Good (occ : List Nat) (s : List Car × Nat) (done : List Car) : Prop where
  perm : (pl s.1).Perm occ
  nd : occ.Nodup
  mv : s.2 + (pl done).sum = occ.sum
  cars : (cs s.1).Perm (cs done)
  ok : ∀ r ∈ s.1, OkC r
theorem Good.step {f : Nat} {occ : List Nat} {s : List Car × Nat} {done : List Car} {k : Car} (g : Good occ s done) (h : has occ (ffrom occ 4 k.1) = false) (ok : OkC k) :
    Fr 4 s.1 k.1 ∧ Good (ffrom occ 4 k.1 :: occ) (park f 5 s.1 s.2 k) (done ++ [k]) := by
  have mem : ∀ q, q ∈ occ ↔ q ∈ pl s.1 := fun q => g.perm.symm.mem_iff
  have fr : Fr 4 s.1 k.1 := by
    unfold Fr
    rw [← has_congr mem, ← ffrom_congr mem]; exact h
  obtain ⟨p, l, c⟩ := k
  obtain ⟨h1, h2, h3, h4⟩ := park_spec f 4 s.1 s.2 p l c (g.perm.nodup_iff.mpr g.nd) fr g.ok ok
  rw [← ffrom_congr mem] at h1 h2
  refine ⟨fr, h1.trans (g.perm.cons _), ?_, ?_, ?_, h4⟩
  · rw [List.nodup_cons]
    refine ⟨fun m => ?_, g.nd⟩
    rw [(has_iff _ _).mpr m] at h; cases h
  · have := g.mv
    have h2' : (park f 5 s.1 s.2 (p, l, c)).2 + p = s.2 + ffrom occ 4 p := h2
    unfold pl at *
    rw [List.map_append, List.sum_append, List.sum_cons]
    simp only [List.map_cons, List.map_nil, List.sum_cons, List.sum_nil]
    omega
  · unfold cs at *
    rw [List.map_append]
    exact (h3.trans (g.cars.cons _)).trans (List.perm_append_comm (l₁ := [c]))
end Mine
end
section
open PySem PySem.W PySem.Calls PyProof.Rows
set_option Elab.async false
set_option maxRecDepth 100000
set_option maxHeartbeats 8000000
namespace Mine
noncomputable abbrev hd.row : RowW := PySem.Challenge.rw_ti0033_01.row.toRowW
noncomputable def hd.top (i : Nat) : Option Stmt := hd.row.prog.main.body[i]?
noncomputable def hd.meth (j : Nat) : Option Stmt := match hd.top 5 with
  | some (.ClassDef _ _ _ b ..) => b[j]?
  | _ => none
noncomputable def hd.fn (s : Option Stmt) (qual : Str) (dV pm : Value) (code : Addr) : Obj := match s with
  | some (.FunctionDef n ps b _ _ _ sc ..) => { cls := .type "function", data := .func { name := n, qualname := qual, params := ps, body := .stmts b, scope := sc, globals := 3, closure := [], defaults := dV, kwdefaults := .none, pyModule := pm, code := .ref code } }
  | _ => { cls := .none, data := .plain }
noncomputable abbrev hd.en (P : Params) (k : Str) (t : Tok) (v : Value) : DictEntry := { hash := PyData.keyHash P k, key := .str k t, val := v }
noncomputable def hd.heap_39 : Params → Frag := fun P =>
  (nat_lit 2, { cls := .none, data := Data.dict #[hd.en P "\x69mport.loaded._sre" 183 (.bool true), hd.en P "class._frozen_importlib.BuiltinImporter" 185 (.ref 14), hd.en P "watched.\x69mport" 206 (.ref 18), hd.en P "class._frozen_importlib.ModuleSpec" 216 (.ref 22), hd.en P "sys.modules.booked-epoch" 245 (.int 3 0), hd.en P "\x69mport.later-laid._sre" 270 (.bool true), hd.en P "watched.library" 272 (.ref 27), hd.en P "watched.library-objects" 0 (.str "\x0c" 0), hd.en P "watched.library-deep._sre" 273 (.str "\x04\x00\x00\x0b\x04\x00\x00\x0b\x04\x00\x00\x03\x04\x00\x00\x0b\x08\x04dict\x02" 0)] 9 }) ::
  (nat_lit 3, { cls := .type "dict", data := Data.dict #[hd.en P "__name__" 165 (.str "law_ti0033_01" 652), hd.en P "__doc__" 166 (.none), hd.en P "__package__" 167 (.none), hd.en P "__loader__" 168 (.builtin "__main__.__loader__#opaque"), hd.en P "__spec__" 169 (.none), hd.en P "__annotations__" 170 (.ref 6), hd.en P "__builtins__" 171 (.ref 4), hd.en P "__file__" 173 (.str "/claim/cut.py" 172), hd.en P "__cached__" 174 (.none), hd.en P "_sre" 275 (.ref 12), hd.en P "_wall" 288 (.ref 38), hd.en P "_name_disallowed_re" 316 (.ref 43), hd.en P "_value_disallowed_re" 350 (.ref 48), hd.en P "Headers" 507 (.ref 171), hd.en P "not_" 516 (.ref 182), hd.en P "concat" 525 (.ref 189), hd.en P "contains" 533 (.ref 196), hd.en P "countOf" 543 (.ref 203), hd.en P "setitem" 552 (.ref 210), hd.en P "_twin_re_1" 570 (.ref 215), hd.en P "_twin_re_2" 586 (.ref 220), hd.en P "_twin_re_3" 628 (.ref 225), hd.en P "CRLF" 630 (.str "\x0d\n" 629), hd.en P "quotedata" 637 (.ref 232), hd.en P "_quote_periods" 644 (.ref 239), hd.en P "_fix_eols" 651 (.ref 246), hd.en P "_law_sent" 659 (.ref 251), hd.en P "_law_one_by_one" 674 (.ref 258), hd.en P "_law_all_at_once" 688 (.ref 265), hd.en P "_law_plain" 694 (.ref 270), hd.en P "_law_brackets" 700 (.ref 275), hd.en P "_law_places" 706 (.ref 280), hd.en P "_law_holds" 712 (.ref 285), hd.en P "law" 718 (.ref 290)] 34 }) ::
  (nat_lit 32, { cls := .type "tuple", data := Data.seq #[] }) ::
  (nat_lit 34, { cls := .type "tuple", data := Data.seq #[.str "k" 285] }) ::
  (nat_lit 35, { cls := .type "tuple", data := Data.seq #[] }) ::
  (nat_lit 37, { cls := .type "code", data := Data.fields #[.str "_wall" 282, .str "_wall" 283, .str "/claim/cut.py" 284, .int 2 0, .int 1 0, .int 0 0, .int 0 0, .int 3 0, .ref 32, .bool true, .int 276 0, .ref 33, .none, .ref 34, .ref 35, .ref 36, .int 286 0, .int 2 0, .str "/claim/cut.py" 287] }) ::
  (nat_lit 38, hd.fn (hd.top 1) "_wall" .none (.str "__main__" 164) 37) ::
  (nat_lit 42, { cls := .type "tuple", data := Data.seq #[.int 14 0, .int 10 0, .int 4 0, .int 1 0, .int 1 0, .int 22 0, .int 0 0, .int 31 0, .int 16 0, .int 127 0, .int 0 0, .int 13 0, .int 7 0, .int 22 0, .int 0 0, .int 31 0, .int 16 0, .int 127 0, .int 0 0, .int 1 0] }) ::
  (nat_lit 43, { cls := .type "re.Pattern", data := Data.fields #[.str "[\\x00-\\x1F\\x7F]" 292, .int 32 315, .int 0 0, .none, .none, .ref 42, .int 0 0] }) ::
  (nat_lit 47, { cls := .type "tuple", data := Data.seq #[.int 14 0, .int 14 0, .int 4 0, .int 1 0, .int 1 0, .int 9 0, .int 4294966783 0, .int 0 0, .int 0 0, .int 2147483648 0, .int 0 0, .int 0 0, .int 0 0, .int 0 0, .int 0 0, .int 13 0, .int 11 0, .int 9 0, .int 4294966783 0, .int 0 0, .int 0 0, .int 2147483648 0, .int 0 0, .int 0 0, .int 0 0, .int 0 0, .int 0 0, .int 1 0] }) ::
  (nat_lit 48, { cls := .type "re.Pattern", data := Data.fields #[.str "[\\x00-\\x08\\x0A-\\x1F\\x7F]" 318, .int 32 349, .int 0 0, .none, .none, .ref 47, .int 0 0] }) ::
  (nat_lit 56, { cls := .type "tuple", data := Data.seq #[.none] }) ::
  (nat_lit 57, { cls := .type "tuple", data := Data.seq #[] }) ::
  (nat_lit 59, { cls := .type "tuple", data := Data.seq #[.str "self" 366, .str "headers" 367, .str "k" 368, .str "v" 369] }) ::
  (nat_lit 60, { cls := .type "tuple", data := Data.seq #[] }) ::
  (nat_lit 62, { cls := .type "code", data := Data.fields #[.str "__init__" 363, .str "Headers.__init__" 364, .str "/claim/cut.py" 365, .int 10 0, .int 2 0, .int 0 0, .int 0 0, .int 3 0, .ref 57, .bool true, .int 276 0, .ref 58, .none, .ref 59, .ref 60, .ref 61, .int 370 0, .int 10 0, .str "/claim/cut.py" 371] }) ::
  (nat_lit 63, hd.fn (hd.meth 0) "Headers.__init__" (.ref 56) (.str "cpy313.wsgiref.headers" 289) 62) ::
  (nat_lit 64, { cls := .type "tuple", data := Data.seq #[] }) ::
  (nat_lit 66, { cls := .type "tuple", data := Data.seq #[.str "self" 376, .str "value" 377, .str "name" 378, .str "regex" 379] }) ::
  (nat_lit 67, { cls := .type "tuple", data := Data.seq #[] }) ::
  (nat_lit 69, { cls := .type "code", data := Data.fields #[.str "_convert_string_type" 373, .str "Headers._convert_string_type" 374, .str "/claim/cut.py" 375, .int 20 0, .int 2 0, .int 0 0, .int 1 0, .int 3 0, .ref 64, .bool true, .int 276 0, .ref 65, .none, .ref 66, .ref 67, .ref 68, .int 380 0, .int 20 0, .str "/claim/cut.py" 381] }) ::
  (nat_lit 70, hd.fn (hd.meth 1) "Headers._convert_string_type" .none (.str "cpy313.wsgiref.headers" 289) 69) ::
  (nat_lit 71, { cls := .type "tuple", data := Data.seq #[] }) ::
  (nat_lit 73, { cls := .type "tuple", data := Data.seq #[.str "self" 386] }) ::
  (nat_lit 74, { cls := .type "tuple", data := Data.seq #[] }) ::
  (nat_lit 76, { cls := .type "code", data := Data.fields #[.str "__len__" 383, .str "Headers.__len__" 384, .str "/claim/cut.py" 385, .int 28 0, .int 1 0, .int 0 0, .int 0 0, .int 3 0, .ref 71, .bool true, .int 276 0, .ref 72, .none, .ref 73, .ref 74, .ref 75, .int 387 0, .int 28 0, .str "/claim/cut.py" 388] }) ::
  (nat_lit 77, hd.fn (hd.meth 2) "Headers.__len__" .none (.str "cpy313.wsgiref.headers" 289) 76) ::
  (nat_lit 78, { cls := .type "tuple", data := Data.seq #[] }) ::
  (nat_lit 80, { cls := .type "tuple", data := Data.seq #[.str "self" 393, .str "name" 394, .str "val" 395] }) ::
  (nat_lit 81, { cls := .type "tuple", data := Data.seq #[] }) ::
  (nat_lit 83, { cls := .type "code", data := Data.fields #[.str "__setitem__" 390, .str "Headers.__setitem__" 391, .str "/claim/cut.py" 392, .int 31 0, .int 3 0, .int 0 0, .int 0 0, .int 3 0, .ref 78, .bool true, .int 276 0, .ref 79, .none, .ref 80, .ref 81, .ref 82, .int 396 0, .int 31 0, .str "/claim/cut.py" 397] }) ::
  (nat_lit 84, hd.fn (hd.meth 3) "Headers.__setitem__" .none (.str "cpy313.wsgiref.headers" 289) 83) ::
  (nat_lit 85, { cls := .type "tuple", data := Data.seq #[] }) ::
  (nat_lit 88, { cls := .type "code", data := Data.fields #[.str "__delitem__" 399, .str "Headers.__delitem__" 400, .str "/claim/cut.py" 401, .int 35 0, .int 2 0, .int 0 0, .int 0 0, .int 3 0, .ref 85, .bool true, .int 276 0, .ref 86, .none, .none, .none, .ref 87, .int 402 0, .int 35 0, .str "/claim/cut.py" 403] }) ::
  (nat_lit 89, hd.fn (hd.meth 4) "Headers.__delitem__" .none (.str "cpy313.wsgiref.headers" 289) 88) ::
  (nat_lit 90, { cls := .type "tuple", data := Data.seq #[] }) ::
  (nat_lit 92, { cls := .type "tuple", data := Data.seq #[.str "self" 408, .str "name" 409] }) ::
  (nat_lit 93, { cls := .type "tuple", data := Data.seq #[] }) ::
  (nat_lit 95, { cls := .type "code", data := Data.fields #[.str "__getitem__" 405, .str "Headers.__getitem__" 406, .str "/claim/cut.py" 407, .int 39 0, .int 2 0, .int 0 0, .int 0 0, .int 3 0, .ref 90, .bool true, .int 276 0, .ref 91, .none, .ref 92, .ref 93, .ref 94, .int 410 0, .int 39 0, .str "/claim/cut.py" 411] }) ::
  (nat_lit 96, hd.fn (hd.meth 5) "Headers.__getitem__" .none (.str "cpy313.wsgiref.headers" 289) 95) ::
  (nat_lit 97, { cls := .type "tuple", data := Data.seq #[] }) ::
  (nat_lit 99, { cls := .type "tuple", data := Data.seq #[.str "self" 416, .str "name" 417] }) ::
  (nat_lit 100, { cls := .type "tuple", data := Data.seq #[] }) ::
  (nat_lit 102, { cls := .type "code", data := Data.fields #[.str "__contains__" 413, .str "Headers.__contains__" 414, .str "/claim/cut.py" 415, .int 42 0, .int 2 0, .int 0 0, .int 0 0, .int 3 0, .ref 97, .bool true, .int 276 0, .ref 98, .none, .ref 99, .ref 100, .ref 101, .int 418 0, .int 42 0, .str "/claim/cut.py" 419] }) ::
  (nat_lit 103, hd.fn (hd.meth 6) "Headers.__contains__" .none (.str "cpy313.wsgiref.headers" 289) 102) ::
  (nat_lit 104, { cls := .type "tuple", data := Data.seq #[] }) ::
  (nat_lit 106, { cls := .type "tuple", data := Data.seq #[.str "self" 424, .str "name" 425] }) ::
  (nat_lit 107, { cls := .type "tuple", data := Data.seq #[] }) ::
  (nat_lit 109, { cls := .type "code", data := Data.fields #[.str "get_all" 421, .str "Headers.get_all" 422, .str "/claim/cut.py" 423, .int 45 0, .int 2 0, .int 0 0, .int 0 0, .int 3 0, .ref 104, .bool true, .int 276 0, .ref 105, .none, .ref 106, .ref 107, .ref 108, .int 426 0, .int 45 0, .str "/claim/cut.py" 427] }) ::
  (nat_lit 110, hd.fn (hd.meth 7) "Headers.get_all" .none (.str "cpy313.wsgiref.headers" 289) 109) ::
  (nat_lit 111, { cls := .type "tuple", data := Data.seq #[.none] }) ::
  (nat_lit 112, { cls := .type "tuple", data := Data.seq #[] }) ::
  (nat_lit 114, { cls := .type "tuple", data := Data.seq #[.str "self" 432, .str "name" 433, .str "default" 434, .str "k" 435, .str "v" 436] }) ::
  (nat_lit 115, { cls := .type "tuple", data := Data.seq #[] }) ::
  (nat_lit 117, { cls := .type "code", data := Data.fields #[.str "get" 429, .str "Headers.get" 430, .str "/claim/cut.py" 431, .int 48 0, .int 3 0, .int 0 0, .int 0 0, .int 3 0, .ref 112, .bool true, .int 276 0, .ref 113, .none, .ref 114, .ref 115, .ref 116, .int 437 0, .int 48 0, .str "/claim/cut.py" 438] }) ::
  (nat_lit 118, hd.fn (hd.meth 8) "Headers.get" (.ref 111) (.str "cpy313.wsgiref.headers" 289) 117) ::
  (nat_lit 119, { cls := .type "tuple", data := Data.seq #[] }) ::
  (nat_lit 122, { cls := .type "code", data := Data.fields #[.str "keys" 440, .str "Headers.keys" 441, .str "/claim/cut.py" 442, .int 55 0, .int 1 0, .int 0 0, .int 0 0, .int 3 0, .ref 119, .bool true, .int 276 0, .ref 120, .none, .none, .none, .ref 121, .int 443 0, .int 55 0, .str "/claim/cut.py" 444] }) ::
  (nat_lit 123, hd.fn (hd.meth 9) "Headers.keys" .none (.str "cpy313.wsgiref.headers" 289) 122) ::
  (nat_lit 124, { cls := .type "tuple", data := Data.seq #[] }) ::
  (nat_lit 127, { cls := .type "code", data := Data.fields #[.str "values" 446, .str "Headers.values" 447, .str "/claim/cut.py" 448, .int 58 0, .int 1 0, .int 0 0, .int 0 0, .int 3 0, .ref 124, .bool true, .int 276 0, .ref 125, .none, .none, .none, .ref 126, .int 449 0, .int 58 0, .str "/claim/cut.py" 450] }) ::
  (nat_lit 128, hd.fn (hd.meth 10) "Headers.values" .none (.str "cpy313.wsgiref.headers" 289) 127) ::
  (nat_lit 129, { cls := .type "tuple", data := Data.seq #[] }) ::
  (nat_lit 131, { cls := .type "tuple", data := Data.seq #[.str "self" 455] }) ::
  (nat_lit 132, { cls := .type "tuple", data := Data.seq #[] }) ::
  (nat_lit 134, { cls := .type "code", data := Data.fields #[.str "items" 452, .str "Headers.items" 453, .str "/claim/cut.py" 454, .int 61 0, .int 1 0, .int 0 0, .int 0 0, .int 3 0, .ref 129, .bool true, .int 276 0, .ref 130, .none, .ref 131, .ref 132, .ref 133, .int 456 0, .int 61 0, .str "/claim/cut.py" 457] }) ::
  (nat_lit 135, hd.fn (hd.meth 11) "Headers.items" .none (.str "cpy313.wsgiref.headers" 289) 134) ::
  (nat_lit 136, { cls := .type "tuple", data := Data.seq #[] }) ::
  (nat_lit 138, { cls := .type "tuple", data := Data.seq #[.str "self" 462] }) ::
  (nat_lit 139, { cls := .type "tuple", data := Data.seq #[] }) ::
  (nat_lit 141, { cls := .type "code", data := Data.fields #[.str "__repr__" 459, .str "Headers.__repr__" 460, .str "/claim/cut.py" 461, .int 64 0, .int 1 0, .int 0 0, .int 0 0, .int 3 0, .ref 136, .bool true, .int 276 0, .ref 137, .none, .ref 138, .ref 139, .ref 140, .int 463 0, .int 64 0, .str "/claim/cut.py" 464] }) ::
  (nat_lit 142, hd.fn (hd.meth 12) "Headers.__repr__" .none (.str "cpy313.wsgiref.headers" 289) 141) ::
  (nat_lit 143, { cls := .type "tuple", data := Data.seq #[] }) ::
  (nat_lit 146, { cls := .type "code", data := Data.fields #[.str "__str__" 466, .str "Headers.__str__" 467, .str "/claim/cut.py" 468, .int 67 0, .int 1 0, .int 0 0, .int 0 0, .int 3 0, .ref 143, .bool true, .int 276 0, .ref 144, .none, .none, .none, .ref 145, .int 469 0, .int 67 0, .str "/claim/cut.py" 470] }) ::
  (nat_lit 147, hd.fn (hd.meth 13) "Headers.__str__" .none (.str "cpy313.wsgiref.headers" 289) 146) ::
  (nat_lit 148, { cls := .type "tuple", data := Data.seq #[] }) ::
  (nat_lit 150, { cls := .type "tuple", data := Data.seq #[.str "self" 475] }) ::
  (nat_lit 151, { cls := .type "tuple", data := Data.seq #[] }) ::
  (nat_lit 153, { cls := .type "code", data := Data.fields #[.str "__bytes__" 472, .str "Headers.__bytes__" 473, .str "/claim/cut.py" 474, .int 70 0, .int 1 0, .int 0 0, .int 0 0, .int 3 0, .ref 148, .bool true, .int 276 0, .ref 149, .none, .ref 150, .ref 151, .ref 152, .int 476 0, .int 70 0, .str "/claim/cut.py" 477] }) ::
  (nat_lit 154, hd.fn (hd.meth 14) "Headers.__bytes__" .none (.str "cpy313.wsgiref.headers" 289) 153) ::
  (nat_lit 155, { cls := .type "tuple", data := Data.seq #[] }) ::
  (nat_lit 157, { cls := .type "tuple", data := Data.seq #[.str "self" 482, .str "name" 483, .str "value" 484, .str "result" 485] }) ::
  (nat_lit 158, { cls := .type "tuple", data := Data.seq #[] }) ::
  (nat_lit 160, { cls := .type "code", data := Data.fields #[.str "setdefault" 479, .str "Headers.setdefault" 480, .str "/claim/cut.py" 481, .int 73 0, .int 3 0, .int 0 0, .int 0 0, .int 3 0, .ref 155, .bool true, .int 276 0, .ref 156, .none, .ref 157, .ref 158, .ref 159, .int 486 0, .int 73 0, .str "/claim/cut.py" 487] }) ::
  (nat_lit 161, hd.fn (hd.meth 15) "Headers.setdefault" .none (.str "cpy313.wsgiref.headers" 289) 160) ::
  (nat_lit 162, { cls := .type "tuple", data := Data.seq #[] }) ::
  (nat_lit 164, { cls := .type "tuple", data := Data.seq #[.str "self" 492, .str "_name" 493, .str "_value" 494, .str "_params" 495] }) ::
  (nat_lit 165, { cls := .type "tuple", data := Data.seq #[] }) ::
  (nat_lit 167, { cls := .type "code", data := Data.fields #[.str "add_header" 489, .str "Headers.add_header" 490, .str "/claim/cut.py" 491, .int 81 0, .int 3 0, .int 0 0, .int 0 0, .int 11 0, .ref 162, .bool true, .int 276 0, .ref 163, .none, .ref 164, .ref 165, .ref 166, .int 496 0, .int 81 0, .str "/claim/cut.py" 497] }) ::
  (nat_lit 168, hd.fn (hd.meth 16) "Headers.add_header" .none (.str "cpy313.wsgiref.headers" 289) 167) ::
  (nat_lit 169, { cls := .type "tuple", data := Data.seq #[.str "_headers" 499] }) ::
  (nat_lit 170, { cls := .type "dict", data := Data.dict #[hd.en P "__module__" 358 (.str "cpy313.wsgiref.headers" 289), hd.en P "__firstlineno__" 362 (.int 8 361), hd.en P "__init__" 372 (.ref 63), hd.en P "_convert_string_type" 382 (.ref 70), hd.en P "__len__" 389 (.ref 77), hd.en P "__setitem__" 398 (.ref 84), hd.en P "__delitem__" 404 (.ref 89), hd.en P "__getitem__" 412 (.ref 96), hd.en P "__contains__" 420 (.ref 103), hd.en P "get_all" 428 (.ref 110), hd.en P "get" 439 (.ref 118), hd.en P "keys" 445 (.ref 123), hd.en P "values" 451 (.ref 128), hd.en P "items" 458 (.ref 135), hd.en P "__repr__" 465 (.ref 142), hd.en P "__str__" 471 (.ref 147), hd.en P "__bytes__" 478 (.ref 154), hd.en P "setdefault" 488 (.ref 161), hd.en P "add_header" 498 (.ref 168), hd.en P "__static_attributes__" 500 (.ref 169), hd.en P "__dict__" 502 (.ref 172), hd.en P "__weakref__" 504 (.ref 173), hd.en P "__doc__" 505 (.none)] 4 }) ::
  (nat_lit 171, { cls := .type "type", data := Data.cls { name := "Headers", bases := [.type "object"], mro := [.ref 171, .type "object"], ns := 170, qualname := "Headers" }, slots := #[none, none, some (.str "Headers" 351), some (.str "Headers" 359), some (.builtin "object.__new__"), some (.bool true)] }) ::
  (nat_lit 172, { cls := .type "getset_descriptor", data := Data.fields #[.str "__dict__" 501, .ref 171, .builtin "function.__dict__", .builtin "function.__dict__#set"] }) ::
  (nat_lit 173, { cls := .type "getset_descriptor", data := Data.fields #[.str "__weakref__" 503, .ref 171, .builtin "ExceptionGroup.__weakref__", .none] }) ::
  (nat_lit 176, { cls := .type "tuple", data := Data.seq #[] }) ::
  (nat_lit 178, { cls := .type "tuple", data := Data.seq #[.str "a" 513] }) ::
  (nat_lit 179, { cls := .type "tuple", data := Data.seq #[] }) ::
  (nat_lit 181, { cls := .type "code", data := Data.fields #[.str "not_" 510, .str "not_" 511, .str "/claim/cut.py" 512, .int 84 0, .int 1 0, .int 0 0, .int 0 0, .int 3 0, .ref 176, .bool true, .int 276 0, .ref 177, .none, .ref 178, .ref 179, .ref 180, .int 514 0, .int 84 0, .str "/claim/cut.py" 515] }) ::
  (nat_lit 182, hd.fn (hd.top 7) "not_" .none (.str "cpy313.operator" 508) 181) ::
  (nat_lit 183, { cls := .type "tuple", data := Data.seq #[] }) ::
  (nat_lit 185, { cls := .type "tuple", data := Data.seq #[.str "a" 520, .str "b" 521, .str "msg" 522] }) ::
  (nat_lit 186, { cls := .type "tuple", data := Data.seq #[] }) ::
  (nat_lit 188, { cls := .type "code", data := Data.fields #[.str "concat" 517, .str "concat" 518, .str "/claim/cut.py" 519, .int 86 0, .int 2 0, .int 0 0, .int 0 0, .int 3 0, .ref 183, .bool true, .int 276 0, .ref 184, .none, .ref 185, .ref 186, .ref 187, .int 523 0, .int 86 0, .str "/claim/cut.py" 524] }) ::
  (nat_lit 189, hd.fn (hd.top 8) "concat" .none (.str "cpy313.operator" 508) 188) ::
  (nat_lit 190, { cls := .type "tuple", data := Data.seq #[] }) ::
  (nat_lit 192, { cls := .type "tuple", data := Data.seq #[.str "a" 529, .str "b" 530] }) ::
  (nat_lit 193, { cls := .type "tuple", data := Data.seq #[] }) ::
  (nat_lit 195, { cls := .type "code", data := Data.fields #[.str "contains" 526, .str "contains" 527, .str "/claim/cut.py" 528, .int 91 0, .int 2 0, .int 0 0, .int 0 0, .int 3 0, .ref 190, .bool true, .int 276 0, .ref 191, .none, .ref 192, .ref 193, .ref 194, .int 531 0, .int 91 0, .str "/claim/cut.py" 532] }) ::
  (nat_lit 196, hd.fn (hd.top 9) "contains" .none (.str "cpy313.operator" 508) 195) ::
  (nat_lit 197, { cls := .type "tuple", data := Data.seq #[] }) ::
  (nat_lit 199, { cls := .type "tuple", data := Data.seq #[.str "a" 537, .str "b" 538, .str "count" 539, .str "i" 540] }) ::
  (nat_lit 200, { cls := .type "tuple", data := Data.seq #[] }) ::
  (nat_lit 202, { cls := .type "code", data := Data.fields #[.str "countOf" 534, .str "countOf" 535, .str "/claim/cut.py" 536, .int 93 0, .int 2 0, .int 0 0, .int 0 0, .int 3 0, .ref 197, .bool true, .int 276 0, .ref 198, .none, .ref 199, .ref 200, .ref 201, .int 541 0, .int 93 0, .str "/claim/cut.py" 542] }) ::
  (nat_lit 203, hd.fn (hd.top 10) "countOf" .none (.str "cpy313.operator" 508) 202) ::
  (nat_lit 204, { cls := .type "tuple", data := Data.seq #[] }) ::
  (nat_lit 206, { cls := .type "tuple", data := Data.seq #[.str "a" 547, .str "b" 548, .str "c" 549] }) ::
  (nat_lit 207, { cls := .type "tuple", data := Data.seq #[] }) ::
  (nat_lit 209, { cls := .type "code", data := Data.fields #[.str "setitem" 544, .str "setitem" 545, .str "/claim/cut.py" 546, .int 99 0, .int 3 0, .int 0 0, .int 0 0, .int 3 0, .ref 204, .bool true, .int 276 0, .ref 205, .none, .ref 206, .ref 207, .ref 208, .int 550 0, .int 99 0, .str "/claim/cut.py" 551] }) ::
  (nat_lit 210, hd.fn (hd.top 11) "setitem" .none (.str "cpy313.operator" 508) 209) ::
  (nat_lit 214, { cls := .type "tuple", data := Data.seq #[.int 14 0, .int 4 0, .int 0 0, .int 1 0, .int 1 0, .int 6 0, .int 1 0, .int 16 0, .int 46 0, .int 1 0] }) ::
  (nat_lit 215, { cls := .type "re.Pattern", data := Data.fields #[.str "(?m)^\\." 556, .int 40 569, .int 0 0, .none, .none, .ref 214, .int 0 0] }) ::
  (nat_lit 219, { cls := .type "tuple", data := Data.seq #[.int 14 0, .int 4 0, .int 0 0, .int 1 0, .int 1 0, .int 6 0, .int 1 0, .int 16 0, .int 46 0, .int 1 0] }) ::
  (nat_lit 220, { cls := .type "re.Pattern", data := Data.fields #[.bytes #[40, 63, 109, 41, 94, 92, 46] 572, .int 8 585, .int 0 0, .none, .none, .ref 219, .int 1 0] }) ::
  (nat_lit 224, { cls := .type "tuple", data := Data.seq #[.int 14 0, .int 9 0, .int 4 0, .int 1 0, .int 2 0, .int 16 0, .int 10 0, .int 16 0, .int 13 0, .int 0 0, .int 7 0, .int 7 0, .int 16 0, .int 13 0, .int 16 0, .int 10 0, .int 15 0, .int 18 0, .int 5 0, .int 16 0, .int 10 0, .int 15 0, .int 13 0, .int 11 0, .int 16 0, .int 13 0, .int 5 0, .int 5 0, .int 0 0, .int 16 0, .int 10 0, .int 1 0, .int 15 0, .int 2 0, .int 0 0, .int 1 0] }) ::
  (nat_lit 225, { cls := .type "re.Pattern", data := Data.fields #[.str "(?:\\r\\n|\\n|\\r(?!\\n))" 588, .int 32 627, .int 0 0, .none, .none, .ref 224, .int 0 0] }) ::
  (nat_lit 226, { cls := .type "tuple", data := Data.seq #[] }) ::
  (nat_lit 228, { cls := .type "tuple", data := Data.seq #[.str "data" 634] }) ::
  (nat_lit 229, { cls := .type "tuple", data := Data.seq #[] }) ::
  (nat_lit 231, { cls := .type "code", data := Data.fields #[.str "quotedata" 631, .str "quotedata" 632, .str "/claim/cut.py" 633, .int 106 0, .int 1 0, .int 0 0, .int 0 0, .int 3 0, .ref 226, .bool true, .int 276 0, .ref 227, .none, .ref 228, .ref 229, .ref 230, .int 635 0, .int 106 0, .str "/claim/cut.py" 636] }) ::
  (nat_lit 232, hd.fn (hd.top 17) "quotedata" .none (.str "cpy313.smtplib" 553) 231) ::
  (nat_lit 233, { cls := .type "tuple", data := Data.seq #[] }) ::
  (nat_lit 235, { cls := .type "tuple", data := Data.seq #[.str "bindata" 641] }) ::
  (nat_lit 236, { cls := .type "tuple", data := Data.seq #[] }) ::
  (nat_lit 238, { cls := .type "code", data := Data.fields #[.str "_quote_periods" 638, .str "_quote_periods" 639, .str "/claim/cut.py" 640, .int 108 0, .int 1 0, .int 0 0, .int 0 0, .int 3 0, .ref 233, .bool true, .int 276 0, .ref 234, .none, .ref 235, .ref 236, .ref 237, .int 642 0, .int 108 0, .str "/claim/cut.py" 643] }) ::
  (nat_lit 239, hd.fn (hd.top 18) "_quote_periods" .none (.str "cpy313.smtplib" 553) 238) ::
  (nat_lit 240, { cls := .type "tuple", data := Data.seq #[] }) ::
  (nat_lit 242, { cls := .type "tuple", data := Data.seq #[.str "data" 648] }) ::
  (nat_lit 243, { cls := .type "tuple", data := Data.seq #[] }) ::
  (nat_lit 245, { cls := .type "code", data := Data.fields #[.str "_fix_eols" 645, .str "_fix_eols" 646, .str "/claim/cut.py" 647, .int 110 0, .int 1 0, .int 0 0, .int 0 0, .int 3 0, .ref 240, .bool true, .int 276 0, .ref 241, .none, .ref 242, .ref 243, .ref 244, .int 649 0, .int 110 0, .str "/claim/cut.py" 650] }) ::
  (nat_lit 246, hd.fn (hd.top 19) "_fix_eols" .none (.str "cpy313.smtplib" 553) 245) ::
  (nat_lit 247, { cls := .type "tuple", data := Data.seq #[] }) ::
  (nat_lit 250, { cls := .type "code", data := Data.fields #[.str "_law_sent" 654, .str "_law_sent" 655, .str "/claim/cut.py" 656, .int 113 0, .int 2 0, .int 0 0, .int 0 0, .int 3 0, .ref 247, .bool true, .int 276 0, .ref 248, .none, .none, .none, .ref 249, .int 657 0, .int 113 0, .str "/claim/cut.py" 658] }) ::
  (nat_lit 251, hd.fn (hd.top 21) "_law_sent" .none (.str "law_ti0033_01" 652) 250) ::
  (nat_lit 252, { cls := .type "tuple", data := Data.seq #[] }) ::
  (nat_lit 254, { cls := .type "tuple", data := Data.seq #[.str "cars" 663, .str "figures" 664, .str "way" 665, .str "lot" 666, .str "moves" 667, .str "name" 668, .str "car" 669, .str "step" 670, .str "there" 671] }) ::
  (nat_lit 255, { cls := .type "tuple", data := Data.seq #[] }) ::
  (nat_lit 257, { cls := .type "code", data := Data.fields #[.str "_law_one_by_one" 660, .str "_law_one_by_one" 661, .str "/claim/cut.py" 662, .int 124 0, .int 3 0, .int 0 0, .int 0 0, .int 3 0, .ref 252, .bool true, .int 276 0, .ref 253, .none, .ref 254, .ref 255, .ref 256, .int 672 0, .int 124 0, .str "/claim/cut.py" 673] }) ::
  (nat_lit 258, hd.fn (hd.top 22) "_law_one_by_one" .none (.str "law_ti0033_01" 652) 257) ::
  (nat_lit 259, { cls := .type "tuple", data := Data.seq #[] }) ::
  (nat_lit 261, { cls := .type "tuple", data := Data.seq #[.str "cars" 678, .str "way" 679, .str "lot" 680, .str "road" 681, .str "hour" 682, .str "left" 683, .str "name" 684, .str "car" 685] }) ::
  (nat_lit 262, { cls := .type "tuple", data := Data.seq #[] }) ::
  (nat_lit 264, { cls := .type "code", data := Data.fields #[.str "_law_all_at_once" 675, .str "_law_all_at_once" 676, .str "/claim/cut.py" 677, .int 138 0, .int 2 0, .int 0 0, .int 0 0, .int 3 0, .ref 259, .bool true, .int 276 0, .ref 260, .none, .ref 261, .ref 262, .ref 263, .int 686 0, .int 138 0, .str "/claim/cut.py" 687] }) ::
  (nat_lit 265, hd.fn (hd.top 23) "_law_all_at_once" .none (.str "law_ti0033_01" 652) 264) ::
  (nat_lit 266, { cls := .type "tuple", data := Data.seq #[] }) ::
  (nat_lit 269, { cls := .type "code", data := Data.fields #[.str "_law_plain" 689, .str "_law_plain" 690, .str "/claim/cut.py" 691, .int 151 0, .int 2 0, .int 0 0, .int 0 0, .int 3 0, .ref 266, .bool true, .int 276 0, .ref 267, .none, .none, .none, .ref 268, .int 692 0, .int 151 0, .str "/claim/cut.py" 693] }) ::
  (nat_lit 270, hd.fn (hd.top 24) "_law_plain" .none (.str "law_ti0033_01" 652) 269) ::
  (nat_lit 271, { cls := .type "tuple", data := Data.seq #[] }) ::
  (nat_lit 274, { cls := .type "code", data := Data.fields #[.str "_law_brackets" 695, .str "_law_brackets" 696, .str "/claim/cut.py" 697, .int 163 0, .int 1 0, .int 0 0, .int 0 0, .int 3 0, .ref 271, .bool true, .int 276 0, .ref 272, .none, .none, .none, .ref 273, .int 698 0, .int 163 0, .str "/claim/cut.py" 699] }) ::
  (nat_lit 275, hd.fn (hd.top 25) "_law_brackets" .none (.str "law_ti0033_01" 652) 274) ::
  (nat_lit 276, { cls := .type "tuple", data := Data.seq #[] }) ::
  (nat_lit 279, { cls := .type "code", data := Data.fields #[.str "_law_places" 701, .str "_law_places" 702, .str "/claim/cut.py" 703, .int 171 0, .int 1 0, .int 0 0, .int 0 0, .int 3 0, .ref 276, .bool true, .int 276 0, .ref 277, .none, .none, .none, .ref 278, .int 704 0, .int 171 0, .str "/claim/cut.py" 705] }) ::
  (nat_lit 280, hd.fn (hd.top 26) "_law_places" .none (.str "law_ti0033_01" 652) 279) ::
  (nat_lit 281, { cls := .type "tuple", data := Data.seq #[] }) ::
  (nat_lit 284, { cls := .type "code", data := Data.fields #[.str "_law_holds" 707, .str "_law_holds" 708, .str "/claim/cut.py" 709, .int 178 0, .int 3 0, .int 0 0, .int 0 0, .int 3 0, .ref 281, .bool true, .int 276 0, .ref 282, .none, .none, .none, .ref 283, .int 710 0, .int 178 0, .str "/claim/cut.py" 711] }) ::
  (nat_lit 285, hd.fn (hd.top 27) "_law_holds" .none (.str "law_ti0033_01" 652) 284) ::
  (nat_lit 286, { cls := .type "tuple", data := Data.seq #[] }) ::
  (nat_lit 289, { cls := .type "code", data := Data.fields #[.str "law" 713, .str "law" 714, .str "/claim/cut.py" 715, .int 188 0, .int 1 0, .int 0 0, .int 0 0, .int 3 0, .ref 286, .bool true, .int 276 0, .ref 287, .none, .none, .none, .ref 288, .int 716 0, .int 188 0, .str "/claim/cut.py" 717] }) ::
  (nat_lit 290, hd.fn (hd.top 28) "law" .none (.str "law_ti0033_01" 652) 289) :: []
noncomputable def hd.view_39 : Program := view hd.row.prog [0, 1, 3, 4, 5, 7, 8, 9, 10, 11, 13, 14, 15, 16, 17, 18, 19, 21, 22, 23, 24, 25, 26, 27, 28]
noncomputable abbrev hd.loose : List Str := [Str.ofString "_name_disallowed_re", Str.ofString "_value_disallowed_re", Str.ofString "_twin_re_1", Str.ofString "_twin_re_2", Str.ofString "_twin_re_3"]
noncomputable abbrev hd.hook : Hook := kHook hd.heap_39 [2, 3, 32, 34, 35, 37, 38, 42, 43, 47, 48, 56, 57, 59, 60, 62, 63, 64, 66, 67, 69, 70, 71, 73, 74, 76, 77, 78, 80, 81, 83, 84, 85, 88, 89, 90, 92, 93, 95, 96, 97, 99, 100, 102, 103, 104, 106, 107, 109, 110, 111, 112, 114, 115, 117, 118, 119, 122, 123, 124, 127, 128, 129, 131, 132, 134, 135, 136, 138, 139, 141, 142, 143, 146, 147, 148, 150, 151, 153, 154, 155, 157, 158, 160, 161, 162, 164, 165, 167, 168, 169, 170, 171, 172, 173, 176, 178, 179, 181, 182, 183, 185, 186, 188, 189, 190, 192, 193, 195, 196, 197, 199, 200, 202, 203, 204, 206, 207, 209, 210, 214, 215, 219, 220, 224, 225, 226, 228, 229, 231, 232, 233, 235, 236, 238, 239, 240, 242, 243, 245, 246, 247, 250, 251, 252, 254, 255, 257, 258, 259, 261, 262, 264, 265, 266, 269, 270, 271, 274, 275, 276, 279, 280, 281, 284, 285, 286, 289, 290] (fun _ => by kernel_rfl)
open PySem.W.Fast in
theorem hd.fast {p q : Program} {loose : List Str} {Xt : Shared → Bool} {α : Type} {Yf : Shared → α} {Ya : World → α} {N : Nat} {g0 : Bool}
    (h : ∀ w, (((tw10274390034422433532 tw14364793385576792824 (opening p) w N (tw1435165496053646825 (opening p)).1 (tw1435165496053646825 (opening p)).2).bind (tw14289696077712309145 p)).bind fun s₀ =>
      match s₀.heap.isNs mainGlobals && s₀.gens.size == 0 with
      | true => (tw14082659384304107361 tw14364793385576792824 p w s₀.heap.objs.size (s₀.heap.nsMap mainGlobals "__annotations__") N s₀ (topStub p)).bind fun s₁ => match staticsOk (tw5923862056798008813 p.main.body) s₀.heap s₁.heap && namesBound p s₁.heap && gensDone s₁ && laidKept s₀.heap s₁.heap with
          | true => some s₁
          | false => none
      | false => none).map (fun s => (tw4187177175401517315 q loose (tw5923862056798008813 p.main.body) Xt g0 s, Yf s)) = some (openGood q loose, Ya w)) : LeftO p q loose Xt Yf Ya N g0 := fun w => by
  have h := h w
  rw [← te10274390034422433532, ← te14364793385576792824, ← te1435165496053646825, ← te14289696077712309145, ← te14082659384304107361, ← te5923862056798008813, ← te4187177175401517315] at h
  exact h
theorem hd.left : LeftO hd.row.prog hd.view_39 hd.loose (fun s => xlAt hd.view_39 [] s && recOk (RowW.records hd.row) s) (Hook.obs hd.hook) (Hook.val hd.hook) 3366 := hd.fast fun w => by kernel_rfl
theorem hd.said : OpenLaw.wellSaid PySem.Challenge.rw_ti0033_01 = true := by
  rw [PySem.W.Fast.te9446332074065402090]
  delta PySem.W.Fast.tw9446332074065402090
  repeat' (first | (with_reducible refine look_both ?_ ?_) | delta PySem.W.Fast.tw17960256430627541270 | delta PySem.W.Fast.tw2436336058641802641 | delta PySem.W.Fast.tw12908688711261696721)
  all_goals decide +kernel
noncomputable def hd.fd : DefRec := ((defOf hd.view_39 (Str.ofString "law")).get (by kernel_rfl)).1
theorem hd.fd_name : hd.fd.name = Str.ofString "law" := by kernel_rfl
theorem hd (walk : WalkO hd.view_39 hd.loose (XL hd.view_39 []) (Hook.says hd.hook) hd.row hd.fd [] fun f vs => PySem.call f vs) : PySem.Challenge.rw_ti0033_01.Holds :=
  holds_law hd.said fun said => holds_open (r := PySem.Challenge.rw_ti0033_01.row) (q := hd.view_39) (loose := hd.loose) (Xt := fun s => xlAt hd.view_39 [] s && recOk (RowW.records hd.row) s) (XP := XL hd.view_39 []) (Yf := Hook.obs hd.hook) (Ya := Hook.val hd.hook) (YP := Hook.says hd.hook) (N := 3366)
    hd.left (Hook.of hd.hook) (Hook.keeps hd.hook) (fun s e => xl_of s (Bool.and_eq_true_iff.mp e).1) XL.keeps (by kernel_rfl) (by kernel_rfl) (by kernel_rfl) (fun s e => recFacts_of (Bool.and_eq_true_iff.mp e).2) (by kernel_rfl) said (by kernel_rfl)
    ⟨rfl, rfl, rfl, rfl, rfl, by decide +kernel⟩ (by w_witness2) walk
end Mine
end
section
open PySem PySem.W PySem.Calls PyProof.Rows
set_option Elab.async false
set_option maxRecDepth 100000
set_option linter.unusedVariables false
set_option maxHeartbeats 4000000
set_option compiler.extract_closed false
namespace Mine
local macro_rules | `(tactic| walk_at "is") => `(tactic| ((try dsimp only [cxC]); k_is))
local macro_rules | `(tactic| walk_at "ih") => `(tactic| (show hasDictIn (Cx.K _) _ = true; (try dsimp only [cxC]); k_is))
local macro_rules | `(tactic| walk_at "fb") => `(tactic| (
  intro s Z as ks X ra rk
  repeat (first | cases ‹Ks _ _ (_ :: _)› | cases ‹Ks _ _ []›)
  repeat (first | cases ‹Rs _ _ (_ :: _)› | cases ‹Rs _ _ []›)
  first | refine ⟨_, BindsTo.of_eq (by rfl), ?_⟩ | refine ⟨_, BindsTo.of_defaults rfl (X _ _ (by k_is)) rfl (by rfl) (by rfl), ?_⟩
  repeat (first | exact Bs.nil | refine Bs.cons (by assumption) ?_)))
local macro_rules | `(tactic| walk_at "f7") => `(tactic| (
  · exact nd_of rfl
  · decide
  · exact kin_of fun _ => rfl
  · rfl
  · rfl
  · rfl))
local macro_rules | `(tactic| walk_at "fs") => `(tactic| (
  · first | exact fb_1 (fun _ => rfl) | exact fb_2 (fun _ _ => rfl) | exact fb_3 (fun _ _ _ => rfl) | walk_at "fb"
  walk_at "f7"))
local macro_rules | `(tactic| walk_at "nm") => `(tactic| first
  | refine name_local rfl rfl ?_ rfl rfl
  | refine name_cell rfl rfl ?_ rfl rfl rfl
  | refine name_global (by walk_at "is") rfl rfl ?_ rfl rfl
  | refine name_builtin (by walk_at "is") rfl rfl rfl rfl ?_ rfl rfl (by decide)
  | refine name_debug ?_)
local macro_rules | `(tactic| walk_at "st") => `(tactic| first
  | (with_reducible show EV _ (.Name _ _) _ _ _); walk_at "nm"
  | (with_reducible show EV _ (.Constant (.int _) _ _) _ _ _); refine const_int ?_
  | (with_reducible show EV _ (.Constant (.str _) _ _) _ _ _); refine const_str ?_
  | (with_reducible show EV _ (.Constant .none _ _) _ _ _); refine const_none ?_
  | (with_reducible show EV _ (.Constant (.bool _) _ _) _ _ _); refine const_bool ?_
  | (with_reducible show EV _ (.Constant (.bytes _) _ _) _ _ _); refine const_bytes ?_
  | (with_reducible show EV _ (.BinOp _ _ _ _) _ _ _); refine binop ?_
  | (with_reducible show EV _ (.Compare _ [_] [_] _) _ _ _); refine compare1 ?_ rfl
  | (with_reducible show EV _ (.UnaryOp _ _ _) _ _ _); refine unop ?_
  | (with_reducible show EV _ (.IfExp _ _ _ _) _ _ _); refine ifexp ?_
  | (with_reducible show EV _ (.BoolOp .And [_, _] _) _ _ _); refine ev_and ?_
  | (with_reducible show EV _ (.Tuple _ _ _) _ _ _); refine tuple_ ?_
  | (with_reducible show EV _ (.Call (.Attribute _ _ _) _ _ _) _ _ _); refine ev_meth ?_ rfl rfl
  | (with_reducible show EV _ (.Call (.Name _ _) _ _ _) _ _ _); refine ev_call ?_ rfl rfl
  | (with_reducible show AWs _ _ [] _ _ _); refine aws_nil ?_
  | (with_reducible show AWs _ _ (_ :: _) _ _ _); refine aws_cons ?_ rfl
  | (with_reducible show AAr _ _ _ [] [] _ _ _); refine aar_nil ?_
  | (with_reducible show AAr _ _ _ (_ :: _) [] _ _ _); refine aar_pos ?_ rfl
  | (with_reducible show AAr _ _ _ (_ :: _) [_] _ _ _); refine aar_kw1 ?_ rfl
  | (with_reducible show XS _ [] _ _ _); refine xs_nil ?_
  | (with_reducible show XS _ (_ :: _) _ _ _); refine xs_cons ?_
  | (with_reducible show EX _ (.Return (some _) _) _ _ _); refine ex_return ?_
  | (with_reducible show EX _ (.Break _) _ _ _); refine ex_break ?_
  | (with_reducible show EX _ (.If _ _ _ _) _ _ _); refine ex_if ?_
  | (with_reducible show EX _ (.Assign [.Name _ _] _ _) _ _ _); refine ex_assign ?_ rfl
  | (with_reducible show TR _ (.Compare _ [_] [_] _) _ _ _); refine tr_compare ?_ rfl
  | (with_reducible show TR _ (.UnaryOp .Not _ _) _ _ _); refine tr_not ?_
  | (with_reducible show TR _ (.BoolOp .Or [_, _] _) _ _ _); refine tr_or ?_
  | (with_reducible show TR _ (.Name _ _) _ _ _); refine tr_value ?_ rfl
  | (with_reducible show TR _ (.Constant _ _ _) _ _ _); refine tr_value ?_ rfl
  | (with_reducible show TR _ (.Call _ _ _ _) _ _ _); refine tr_value ?_ rfl
  | (with_reducible show AN _ _ _ _ _ _); first | refine an_local rfl rfl ?_ | refine an_cell rfl rfl rfl ?_
  | (with_reducible show AT _ (.Name _ _) _ _ _ _); refine at_name ?_
  | (with_reducible show CI _ [] _ _ _); refine ci_nil ?_
  | (with_reducible show CI _ [_] _ _ _); refine ci_one ?_
  | (with_reducible show EP _ none _ _ _); refine ep_none ?_
  | (with_reducible show EP _ (some _) _ _ _); refine ep_some ?_
  | (with_reducible show Then _ _ _ _ _ _); dsimp only [Then]
  | (with_reducible show RetQ _ _ _ _); dsimp only [RetQ]
  | (with_reducible show AIO _ _ _ _ _ _); dsimp only [AIO]
  | (with_reducible show Turn _ _ _ _ _ _); dsimp only [Turn]
  | (with_reducible show TurnW _ _ _ _ _ _); dsimp only [TurnW])
local macro_rules | `(tactic| walk_at "go") => `(tactic| repeat walk_at "st")
local macro_rules | `(tactic| walk_at "cf") => `(tactic| refine ⟨_, rfl, keep_K (by walk_at "is"), ?_⟩)
local macro_rules | `(tactic| walk_at "cb") => `(tactic| refine ⟨_, rfl, keep_builtin, ?_⟩)
local macro_rules | `(tactic| walk_at "ct") => `(tactic| refine ⟨_, rfl, keep_type, ?_⟩)
local macro_rules | `(tactic| walk_at "ls") => `(tactic| (repeat (first | exact Less.nil _ | refine Less.add rfl ?_)))
local macro_rules | `(tactic| walk_at "hd") => `(tactic| (refine ev_attr ?_ rfl ⟨_, _, rfl⟩; walk_at "nm"; refine ⟨_, _, _, _, _, rfl, HD.i ‹HD _ _ _ _ _›, HD.d ‹HD _ _ _ _ _›, rfl, by walk_at "is", by walk_at "ih", by walk_at "is", HD.n ‹HD _ _ _ _ _›, ?_⟩))
local macro_rules | `(tactic| walk_at "hm") => `(tactic| refine ⟨_, gm_inst (HD.i ‹HD _ _ _ _ _›) (HD.d ‹HD _ _ _ _ _›) (by rfl) (by walk_at "is") (by walk_at "is") (by walk_at "is") (by walk_at "is"), keep_K (by walk_at "is"), ?_⟩)
local macro_rules | `(tactic| walk_at "clo") => `(tactic| (
  refine ⟨rfl, ?_, fun _ => rfl, fun _ => rfl, rfl, by decide, ?_, ?_⟩
  · repeat (first | exact lk_nil | refine lk_cons rfl ?_)
  · intro y e; first | (cases e; done) | (cases e; rfl)
  · repeat (first | exact lk_nil | refine lk_cons ⟨rfl, rfl, rfl, by decide⟩ ?_)))
local macro_rules | `(tactic| walk_at "ful") => `(tactic| repeat (first | exact ful_nil | refine ful_cons (fun v e2 e3 => e2) ?_))
local macro_rules | `(tactic| walk_at "it0") => `(tactic| refine ⟨.inr (.inl ⟨_, rfl⟩), op_item_tup (k := 0) IsI_.int rfl (by simp) rfl ?_⟩)
local macro_rules | `(tactic| walk_at "it1") => `(tactic| refine ⟨.inr (.inl ⟨_, rfl⟩), op_item_tup (k := 1) IsI_.int rfl (by simp) rfl ?_⟩)
local macro_rules | `(tactic| walk_at "it2") => `(tactic| refine ⟨.inr (.inl ⟨_, rfl⟩), op_item_tup (k := 2) IsI_.int rfl (by simp) rfl ?_⟩)
example : 1 = 1 ∧ (PySem.Challenge.rw_ti0033_01.Holds → Mine.hd.heap_39 = Mine.hd.heap_39) := by
  k_fill
  exact ⟨rfl, fun _ => rfl⟩
section
section
variable {P : Params} {n : Nat} {led : Led} {Q : V → Led → Prop} {prog : Program} {w : World}
local macro_rules | `(tactic| walk_at "hd") => `(tactic| (refine ev_attr ?_ rfl ⟨_, _, rfl⟩; walk_at "nm"; refine ⟨_, _, _, _, _, rfl, HD.i ‹HD _ _ _ _ _›, HD.d ‹HD _ _ _ _ _›, rfl, by walk_at "is", by walk_at "ih", by walk_at "is", HD.n ‹HD _ _ _ _ _›, ?_⟩))
theorem fs_len {x dx : Addr} {hv : V} {rows : List Row} (h : HD led x dx hv rows) (hr : Oks rows) (q : Q (.int rows.length) led) : FS prog w (Mine.hd.heap_39 P) (n+1) (.ref 77) [.own x] [] led Q := by
  refine fs_def (m₀ := [("self", .own x)]) (by k_is) (by k_is) ?_ ?_ ?_ ?_ ?_ ?_ ?_ ?_
  walk_at "fs"
  intro A L oA
  walk_at "go"
  walk_at "cb"
  walk_at "go"
  walk_at "hd"
  walk_at "go"
  refine ca_len h.l ?_ ?_
  · rw [List.length_map]; have := hr.len; omega
  · walk_at "go"
    rw [List.length_map]; exact q
theorem pat_name (h : Heap) (X : (Mine.hd.heap_39 P).In h) : IsPat h 43 cName 0 := by
  refine ⟨_, _, _, _, _, _, _, _, _, X _ _ (by k_is), X _ _ (by k_is), rfl, by decide +kernel⟩
theorem pat_value (h : Heap) (X : (Mine.hd.heap_39 P).In h) : IsPat h 48 cValue 0 := by
  refine ⟨_, _, _, _, _, _, _, _, _, X _ _ (by k_is), X _ _ (by k_is), rfl, by decide +kernel⟩
theorem fs_cvt {x : V} {t : List Nat} {b : Bool} (ht : Ok t) (q : Q (.str (tx t)) led) : FS prog w (Mine.hd.heap_39 P) (n+1) (.ref 70) [x, .str (tx t)] [("name", .bool b)] led Q := by
  refine fs_def (m₀ := [("self", x), ("value", .str (tx t)), ("name", .bool b)]) (by k_is) (by k_is) ?_ ?_ ?_ ?_ ?_ ?_ ?_ ?_
  walk_at "fs"
  intro A L oA
  walk_at "go"
  walk_at "ct"
  walk_at "go"
  refine ca_type_str ?_
  walk_at "go"
  refine op_is_type ?_
  refine ⟨_, rfl, ?_⟩
  rw [if_pos (by decide)]
  walk_at "go"
  refine truth_bool ?_
  have hz := ht.len
  cases b with
  | true =>
    rw [if_pos rfl]
    walk_at "go"
    refine ⟨_, gm_pat pat_name slot_search type_search, keep_builtin, ?_⟩
    walk_at "go"
    refine ca_search_name pat_name ht.name (by omega) ?_
    refine truth_none ?_
    rw [if_neg (by decide)]
    walk_at "go"
    exact q
  | false =>
    rw [if_neg (by decide)]
    walk_at "go"
    refine ⟨_, gm_pat pat_value slot_search type_search, keep_builtin, ?_⟩
    walk_at "go"
    refine ca_search_value pat_value ht.value (by omega) ?_
    refine truth_none ?_
    rw [if_neg (by decide)]
    walk_at "go"
    exact q
end
end
section
section
variable {P : Params} {n : Nat} {led : Led} {Q : V → Led → Prop} {prog : Program} {w : World}
theorem fs_init {x dx : Addr} {hv : V} {rows : List Row} (hl : IsL led hv (rows.map rv)) (hr : Oks rows) (hs : Solid hv) (hnb : ∀ b, hv ≠ .obj b) (hi : led x = some (.inst 171 dx)) (hd : led dx = some (.dict []))
    (q : Q .none (upd led dx (.dict [("_headers", hv)]))) : FS prog w (Mine.hd.heap_39 P) (n+2) (.ref 63) [.own x, hv] [] led Q := by
  refine fs_def (m₀ := [("self", .own x), ("headers", hv)]) (by k_is) (by k_is) ?_ ?_ ?_ ?_ ?_ ?_ ?_ ?_
  walk_at "fs"
  intro A L oA
  walk_at "go"
  refine op_isnot_solid hs ?_
  refine ⟨_, rfl, ?_⟩
  rw [if_pos rfl]
  walk_at "go"
  walk_at "ct"
  walk_at "go"
  refine ca_type_list hl ?_
  walk_at "go"
  refine op_isnot_type ?_
  refine ⟨_, rfl, ?_⟩
  rw [if_neg (by decide)]
  walk_at "go"
  refine ex_assign_attr ?_ rfl
  walk_at "go"
  refine at_attr ?_
  walk_at "go"
  refine ⟨x, 171, dx, rfl, hi, hd, by walk_at "is", by walk_at "is", by walk_at "is", by walk_at "ih", ?_⟩
  walk_at "go"
  refine truth_bool ?_
  rw [if_pos rfl]
  walk_at "go"
  refine ex_for oA.hh ?_ fun _ => rfl
  walk_at "go"
  have hl' := hl.upd (ao := .dict [("_headers", hv)]) hd
  have hD : HD (upd led dx (.dict [("_headers", hv)])) x dx hv rows := ⟨upd_ne hi (by intro z; subst z; rw [hi] at hd; cases hd), upd_eq _ _ _, hl', hnb⟩
  refine ⟨_, _, src_isl hl', fun i m led' => Less [("self", .own x)] m ∧ led' = upd led dx (.dict [("_headers", hv)]), ⟨by walk_at "ls", rfl⟩, fun i m led' h => h.2 ▸ hl', fun i d m led' he h => ?_, fun m led' h => ?_⟩
  · obtain ⟨h1, rfl⟩ := h
    obtain ⟨r, hr1, rfl⟩ : ∃ r, r ∈ rows ∧ d = rv r := by
      have := List.mem_of_getElem? he
      obtain ⟨r, h1, h2⟩ := List.mem_map.mp this
      exact ⟨r, h1, h2.symm⟩
    refine A1.less ?_ h1
    unfold rv
    refine at_tuple oA.hh rfl rfl ?_
    walk_at "go"
    refine ex_drop ?_ rfl rfl
    walk_at "go"
    walk_at "hm"
    walk_at "go"
    refine ca_of (fs_cvt (hr.ok r hr1).1 ?_) oA
    refine ⟨.inr ⟨_, rfl⟩, ?_⟩
    walk_at "go"
    refine ex_drop ?_ rfl rfl
    walk_at "go"
    walk_at "hm"
    walk_at "go"
    refine ca_of (fs_cvt (hr.ok r hr1).2 ?_) oA
    refine ⟨.inr ⟨_, rfl⟩, ?_⟩
    walk_at "go"
    exact ⟨by walk_at "ls", rfl⟩
  · obtain ⟨h1, rfl⟩ := h
    walk_at "go"
    exact q
theorem fs_init0 {x dx : Addr} (hi : led x = some (.inst 171 dx)) (hd : led dx = some (.dict []))
    (q : ∀ a, led a = none → Q .none (upd (upd led a (.list [])) dx (.dict [("_headers", .own a)]))) : FS prog w (Mine.hd.heap_39 P) (n+2) (.ref 63) [.own x] [] led Q := by
  refine fs_def (m₀ := [("self", .own x), ("headers", .none)]) (by k_is) (by k_is) ?_ ?_ ?_ ?_ ?_ ?_ ?_ ?_
  · intro s Z as ks X ra rk
    cases rk
    cases ra with
    | cons r1 ra =>
      cases ra
      refine ⟨_, BindsTo.of_defaults rfl (X _ _ (by k_is)) rfl (by rfl) (by rfl), ?_⟩
      exact .cons r1 (.cons .none .nil)
  walk_at "f7"
  intro A L oA
  walk_at "go"
  refine op_isnot_none ?_
  refine ⟨_, rfl, ?_⟩
  rw [if_neg (by decide)]
  refine list_own ?_
  walk_at "go"
  refine ⟨Nat.zero_le _, fun a ha => ?_⟩
  walk_at "go"
  walk_at "ct"
  walk_at "go"
  refine ca_type_list (IsL.own (upd_eq _ _ _)) ?_
  walk_at "go"
  refine op_isnot_type ?_
  refine ⟨_, rfl, ?_⟩
  rw [if_neg (by decide)]
  walk_at "go"
  refine ex_assign_attr ?_ rfl
  walk_at "go"
  refine at_attr ?_
  walk_at "go"
  have hxa : x ≠ a := by intro z; subst z; rw [hi] at ha; cases ha
  have hda : dx ≠ a := by intro z; subst z; rw [hd] at ha; cases ha
  have hxd : x ≠ dx := by intro z; subst z; rw [hi] at hd; cases hd
  refine ⟨x, 171, dx, rfl, upd_ne hi hxa, upd_ne hd hda, by walk_at "is", by walk_at "is", by walk_at "is", by walk_at "ih", ?_⟩
  walk_at "go"
  refine truth_bool ?_
  rw [if_pos rfl]
  walk_at "go"
  refine ex_for oA.hh ?_ fun _ => rfl
  walk_at "go"
  have hl : IsL (upd (upd led a (.list [])) dx (.dict [("_headers", .own a)])) (.own a) [] := .own (upd_ne (upd_eq _ _ _) (Ne.symm hda))
  refine ⟨_, _, src_isl hl, fun i m led' => led' = (upd (upd led a (.list [])) dx (.dict [("_headers", .own a)])), rfl, fun i m led' h => h ▸ hl, fun i d m led' he h => (by cases he), fun m led' h => ?_⟩
  subst h
  walk_at "go"
  exact q a ha
theorem fs_make_l {hv : V} {rows : List Row} (hl : IsL led hv (rows.map rv)) (hr : Oks rows) (hs : Solid hv) (hnb : ∀ b, hv ≠ .obj b)
    (q : ∀ x dx led', Ext led led' → HD led' x dx hv rows → Q (.own x) led') : FS prog w (Mine.hd.heap_39 P) (n+3) (.ref 171) [hv] [] led Q := by
  refine fs_make (fI := 63) (by k_is) (by k_is) (by k_is) fun x dx hx hd hxd => ?_
  have e1 : Ext led (upd (upd led dx (.dict [])) x (.inst 171 dx)) := fun a ao e => upd_ne (upd_ne e (by intro z; subst z; rw [hd] at e; cases e)) (by intro z; subst z; rw [hx] at e; cases e)
  have hl1 : IsL (upd (upd led dx (.dict [])) x (.inst 171 dx)) hv (rows.map rv) := by
    rcases hl with h | ⟨a, rfl, e⟩
    · exact .inl h
    · exact .inr ⟨a, rfl, e1 _ _ e⟩
  have hdd : (upd (upd led dx (.dict [])) x (.inst 171 dx)) dx = some (.dict []) := upd_ne (upd_eq _ _ _) (Ne.symm hxd)
  refine fs_init hl1 hr hs hnb (upd_eq _ _ _) hdd ⟨rfl, q x dx _ (fun a ao e => upd_ne (e1 a ao e) (by intro z; subst z; rw [hd] at e; cases e)) ⟨upd_ne (upd_eq _ _ _) hxd, upd_eq _ _ _, hl1.upd hdd, hnb⟩⟩
theorem fs_make0 (q : ∀ x dx a led', Ext led led' → HD led' x dx (.own a) [] → led a = none → led x = none → led dx = none → Q (.own x) led') : FS prog w (Mine.hd.heap_39 P) (n+3) (.ref 171) [] [] led Q := by
  refine fs_make (fI := 63) (by k_is) (by k_is) (by k_is) fun x dx hx hd hxd => ?_
  have e1 : Ext led (upd (upd led dx (.dict [])) x (.inst 171 dx)) := fun a ao e => upd_ne (upd_ne e (by intro z; subst z; rw [hd] at e; cases e)) (by intro z; subst z; rw [hx] at e; cases e)
  have hdd : (upd (upd led dx (.dict [])) x (.inst 171 dx)) dx = some (.dict []) := upd_ne (upd_eq _ _ _) (Ne.symm hxd)
  refine fs_init0 (upd_eq _ _ _) hdd fun a ha => ⟨rfl, q x dx a _ (fun b ao e => upd_ne (upd_ne (e1 b ao e) (by intro z; subst z; rw [e1 _ _ e] at ha; cases ha)) (by intro z; subst z; rw [hd] at e; cases e)) ⟨upd_ne (upd_ne (upd_eq _ _ _) ?_) hxd, upd_eq _ _ _, .own (upd_ne (upd_eq _ _ _) ?_), fun b => by intro h; cases h⟩ ?_ hx hd⟩
  · intro z; subst z; rw [upd_eq] at ha; cases ha
  · intro z; subst z; rw [hdd] at ha; cases ha
  · cases e : led a with
    | none => rfl
    | some ao => rw [e1 _ _ e] at ha; cases ha
end
end
section
section
variable {P : Params} {n : Nat} {led : Led} {Q : V → Led → Prop} {prog : Program} {w : World}
theorem find_here {α : Type} {p : α → Bool} {l : List α} {i : Nat} {r : α} (h : (l.take i).find? p = none) (e : l[i]? = some r) (hp : p r = true) : l.find? p = some r := by
  rw [List.find?_eq_some_iff_append]
  refine ⟨hp, l.take i, l.drop (i + 1), ?_, fun a ha => ?_⟩
  · obtain ⟨hi, rfl⟩ := List.getElem?_eq_some_iff.mp e
    simp
  · have := List.find?_eq_none.mp h a ha
    simp at this
    simp [this]
theorem find_next {α : Type} {p : α → Bool} {l : List α} {i : Nat} {r : α} (h : (l.take i).find? p = none) (e : l[i]? = some r) (hp : p r = false) : (l.take (i + 1)).find? p = none := by
  rw [List.take_add_one, e, List.find?_append, h]
  simp [hp]
theorem rv_at {rows : List Row} {i : Nat} {d : V} (e : (rows.map rv)[i]? = some d) : ∃ r, r ∈ rows ∧ rows[i]? = some r ∧ d = rv r := by
  rw [List.getElem?_map] at e
  cases h : rows[i]? with
  | none => rw [h] at e; cases e
  | some r => rw [h] at e; cases e; exact ⟨r, List.mem_of_getElem? h, rfl, rfl⟩
theorem fs_get {x dx : Addr} {hv : V} {rows : List Row} {t : List Nat} (h : HD led x dx hv rows) (hr : Oks rows) (ht : Ok t) (q : Q (look rows (lw t)) led) : FS prog w (Mine.hd.heap_39 P) (n+2) (.ref 118) [.own x, .str (tx t)] [] led Q := by
  refine fs_def (m₀ := [("self", .own x), ("name", .str (tx t)), ("default", .none)]) (by k_is) (by k_is) ?_ ?_ ?_ ?_ ?_ ?_ ?_ ?_
  · intro s Z as ks X ra rk
    cases rk
    cases ra with
    | cons r1 ra =>
      cases ra with
      | cons r2 ra =>
        cases ra
        refine ⟨_, BindsTo.of_defaults rfl (X _ _ (by k_is)) rfl (by rfl) (by rfl), ?_⟩
        exact .cons r1 (.cons r2 (.cons .none .nil))
  walk_at "f7"
  intro A L oA
  walk_at "go"
  walk_at "hm"
  walk_at "go"
  refine ⟨_, gm_str F.slot_str_lower ty_lower, keep_builtin, ?_⟩
  walk_at "go"
  have hz := ht.len
  refine ca_lower ht.ascii (by omega) ?_
  walk_at "go"
  refine ca_of (fs_cvt ht.lower ?_) oA
  walk_at "go"
  refine ex_for oA.hh ?_ fun _ => rfl
  walk_at "hd"
  refine ⟨_, _, src_isl h.l, fun i m led' => Less [("name", .str (tx (lw t))), ("default", .none)] m ∧ led' = led ∧ (rows.take i).find? (fun r => lw r.1 == lw t) = none, ⟨by walk_at "ls", rfl, rfl⟩, fun i m led' h' => h'.2.1 ▸ h.l, fun i d m led' he h' => ?_, fun m led' h' => ?_⟩
  · obtain ⟨h1, rfl, h2⟩ := h'
    obtain ⟨r, hr1, hr2, rfl⟩ := rv_at he
    have ok := hr.ok r hr1
    refine A1.less ?_ h1
    unfold rv
    refine at_tuple oA.hh rfl rfl ?_
    walk_at "go"
    refine ⟨_, gm_str F.slot_str_lower ty_lower, keep_builtin, ?_⟩
    walk_at "go"
    have := ok.1.len
    refine ca_lower ok.1.ascii (by omega) ?_
    walk_at "go"
    refine op_eq_str ?_
    refine ⟨_, rfl, ?_⟩
    rw [tx_beq]
    cases hc : lw r.1 == lw t with
    | true =>
      rw [if_pos (show (List.map lo1 r.1 == lw t) = true from hc)]
      walk_at "go"
      have : look rows (lw t) = .str (tx r.2) := by unfold look; rw [find_here h2 hr2 hc]
      rw [this] at q; exact q
    | false =>
      rw [if_neg (show ¬ (List.map lo1 r.1 == lw t) = true from fun z => by rw [show (lw r.1 == lw t) = true from z] at hc; cases hc)]
      walk_at "go"
      exact ⟨by walk_at "ls", rfl, find_next h2 hr2 hc⟩
  · obtain ⟨h1, rfl, h2⟩ := h'
    refine AW.less ?_ h1
    walk_at "go"
    rw [List.length_map, List.take_length] at h2
    have : look rows (lw t) = .none := by unfold look; rw [h2]
    rw [this] at q; exact q
theorem fs_contains {x dx : Addr} {hv : V} {rows : List Row} {t : List Nat} (h : HD led x dx hv rows) (hr : Oks rows) (ht : Ok t) (q : Q (.bool (rows.find? fun r => lw r.1 == lw t).isSome) led) : FS prog w (Mine.hd.heap_39 P) (n+3) (.ref 103) [.own x, .str (tx t)] [] led Q := by
  refine fs_def (m₀ := [("self", .own x), ("name", .str (tx t))]) (by k_is) (by k_is) ?_ ?_ ?_ ?_ ?_ ?_ ?_ ?_
  walk_at "fs"
  intro A L oA
  walk_at "go"
  walk_at "hm"
  walk_at "go"
  refine ca_of (fs_get h hr ht ?_) oA
  walk_at "go"
  unfold look
  cases e : rows.find? fun r => lw r.1 == lw t with
  | none =>
    rw [e] at q
    refine op_isnot_none ?_
    walk_at "go"
    exact q
  | some r =>
    rw [e] at q
    refine op_isnot_solid True.intro ?_
    walk_at "go"
    exact q
noncomputable def fst? : V → Option V
  | .tup (a :: _) => some a
  | _ => none
theorem fs_keys {x dx : Addr} {hv : V} {rows : List Row} (h : HD led x dx hv rows) (hr : Oks rows) (q : Q (.lst (rows.map fun r => .str (tx r.1))) led) : FS prog w (Mine.hd.heap_39 P) (n+1) (.ref 123) [.own x] [] led Q := by
  refine fs_def (m₀ := [("self", .own x)]) (by k_is) (by k_is) ?_ ?_ ?_ ?_ ?_ ?_ ?_ ?_
  walk_at "fs"
  intro A L oA
  walk_at "go"
  refine ev_comp oA.hh rfl rfl (by decide) ?_ fun _ => rfl
  walk_at "hd"
  have hz := hr.len
  refine ⟨_, _, none, [], fst?, src_isl h.l, h.l, fun led' e => ?_, ?_, ⟨rfl, fun x a e => (by cases e), fun _ => rfl, fun _ => rfl, rfl, by decide, fun y e => (by cases e), fun x v e => (by cases e)⟩, fun x a v e => (by cases e), fun C cl' i d led' he hx hcl => ?_, ?_⟩
  · exact h.l.ext e
  · rw [sizeLine_eq, List.length_map]; omega
  · subst hcl
    obtain ⟨r, hr1, hr2, rfl⟩ := rv_at he
    unfold Each rv
    refine at_tuple oA.hh rfl rfl ?_
    walk_at "go"
    rw [if_pos rfl]
    walk_at "go"
    exact ⟨by walk_at "ls", rfl, rfl⟩
  · walk_at "go"
    have : (rows.map rv).filterMap fst? = rows.map fun r => V.str (tx r.1) := by
      rw [List.filterMap_map, ← List.filterMap_eq_map]; rfl
    rw [this]; exact q
theorem fs_items {x dx : Addr} {hv : V} {rows : List Row} (h : HD led x dx hv rows) (hr : Oks rows) (q : Q (.lst (rows.map rv)) led) : FS prog w (Mine.hd.heap_39 P) (n+1) (.ref 135) [.own x] [] led Q := by
  refine fs_def (m₀ := [("self", .own x)]) (by k_is) (by k_is) ?_ ?_ ?_ ?_ ?_ ?_ ?_ ?_
  walk_at "fs"
  intro A L oA
  walk_at "go"
  have hz := hr.len
  refine ev_slice ?_ fun o b => ⟨_, rfl⟩
  walk_at "hd"
  walk_at "go"
  refine ⟨.inl ⟨_, h.l⟩, gs_list h.l (by rw [List.length_map]; omega) (by decide) ?_⟩
  walk_at "go"
  rw [pick_all]; exact q
theorem rv_push (rows : List Row) (a b : List Nat) : rows.map rv ++ [.tup [.str (tx a), .str (tx b)]] = (rows ++ [(a, b)]).map rv := by
  rw [List.map_append]; rfl
theorem fs_setdefault {x dx a : Addr} {rows : List Row} {t u : List Nat} (h : HD led x dx (.own a) rows) (hr : Oks rows) (ht : Ok t) (hu : Ok u)
    (q : match rows.find? fun r => lw r.1 == lw t with
      | some r => Q (.str (tx r.2)) led
      | none => Q (.str (tx u)) (upd led a (.list ((rows ++ [(t, u)]).map rv)))) : FS prog w (Mine.hd.heap_39 P) (n+3) (.ref 161) [.own x, .str (tx t), .str (tx u)] [] led Q := by
  refine fs_def (m₀ := [("self", .own x), ("name", .str (tx t)), ("value", .str (tx u))]) (by k_is) (by k_is) ?_ ?_ ?_ ?_ ?_ ?_ ?_ ?_
  walk_at "fs"
  intro A L oA
  walk_at "go"
  walk_at "hm"
  walk_at "go"
  refine ca_of (fs_get h hr ht ?_) oA
  walk_at "go"
  have hz := hr.len
  unfold look
  cases e : rows.find? fun r => lw r.1 == lw t with
  | none =>
    rw [e] at q
    refine op_is_none ?_
    refine ⟨_, rfl, ?_⟩
    rw [if_pos rfl]
    walk_at "go"
    refine ex_drop ?_ rfl rfl
    walk_at "go"
    walk_at "hd"
    have hl : led a = some (.list (rows.map rv)) := by
      rcases h.l with z | ⟨b, z, e⟩
      · cases z
      · cases z; exact e
    refine ⟨_, gm_own hl F.slot_list_append ty_append, keep_builtin, ?_⟩
    walk_at "go"
    walk_at "hm"
    walk_at "go"
    refine ca_of (n := n + 2) ((fs_cvt (n := n) ht ?_).up (by omega)) oA
    walk_at "go"
    walk_at "hm"
    walk_at "go"
    refine ca_of (n := n + 2) ((fs_cvt (n := n) hu ?_).up (by omega)) oA
    walk_at "go"
    refine ⟨by rw [sizeLine_eq]; exact (by decide : 2 ≤ 16777216), ?_⟩
    walk_at "go"
    refine ca_append hl (by rw [List.length_map]; omega) ?_
    refine ⟨.inl rfl, ?_⟩
    walk_at "go"
    rw [rv_push]; exact q
  | some r =>
    rw [e] at q
    dsimp only
    refine op_is_not_none True.intro ?_
    refine ⟨_, rfl, ?_⟩
    rw [if_neg (by decide)]
    walk_at "go"
    exact q
end
end
section
section
variable {P : Params} {n : Nat} {led : Led} {Q : V → Led → Prop} {prog : Program} {w : World}
noncomputable def lwS (k : Str) : Str := ⟨k.cps.map lo1⟩
theorem lwS_tx (l : List Nat) : lwS (tx l) = tx (lw l) := by unfold lwS tx lw; simp
noncomputable def other? (nm : Str) : V → Option V
  | .tup (.str k :: l) => if (lwS k != nm) = true then some (.tup (.str k :: l)) else none
  | _ => none
noncomputable def others (rows : List Row) (t : List Nat) : List Row := rows.filter fun r => lw r.1 != lw t
theorem other_rv (t : List Nat) (r : Row) : other? (tx (lw t)) (rv r) = if (lw r.1 != lw t) = true then some (rv r) else none := by
  show (if (lwS (tx r.1) != tx (lw t)) = true then some (rv r) else none) = _
  rw [lwS_tx]
  have : (tx (lw r.1) != tx (lw t)) = (lw r.1 != lw t) := by unfold bne; rw [tx_beq]
  rw [this]
theorem others_rv (t : List Nat) (rows : List Row) : (rows.map rv).filterMap (other? (tx (lw t))) = (others rows t).map rv := by
  unfold others
  induction rows with
  | nil => rfl
  | cons r rows ih =>
    rw [List.map_cons, List.filterMap_cons, other_rv, List.filter_cons, ih]
    by_cases h : (lw r.1 != lw t) = true
    · rw [if_pos h, if_pos h]; rfl
    · rw [if_neg h, if_neg h]
theorem HD.list {x dx a : Addr} {rows : List Row} (h : HD led x dx (.own a) rows) : led a = some (.list (rows.map rv)) := by
  rcases h.l with z | ⟨b, z, e⟩
  · cases z
  · cases z; exact e
theorem fs_delitem {x dx a : Addr} {rows : List Row} {t : List Nat} (h : HD led x dx (.own a) rows) (hr : Oks rows) (ht : Ok t)
    (q : Q .none (upd led a (.list ((others rows t).map rv)))) : FS prog w (Mine.hd.heap_39 P) (n+2) (.ref 89) [.own x, .str (tx t)] [] led Q := by
  refine fs_def (m₀ := [("self", .own x), ("name", .str (tx t))]) (by k_is) (by k_is) ?_ ?_ ?_ ?_ ?_ ?_ ?_ ?_
  walk_at "fs"
  intro A L oA
  walk_at "go"
  walk_at "hm"
  walk_at "go"
  refine ⟨_, gm_str F.slot_str_lower ty_lower, keep_builtin, ?_⟩
  walk_at "go"
  have hz := ht.len
  have hy := hr.len
  refine ca_lower ht.ascii (by omega) ?_
  walk_at "go"
  refine ca_of (fs_cvt ht.lower ?_) oA
  walk_at "go"
  refine ex_setall ?_ rfl
  refine ev_comp oA.hh rfl rfl (by decide) ?_ fun _ => rfl
  walk_at "hd"
  refine ⟨_, _, none, [("name", .str (tx (lw t)))], other? (tx (lw t)), src_isl h.l, h.l, fun led' e => h.l.ext e, ?_, by walk_at "clo", by walk_at "ful", fun C cl' i d led' he hx hcl => ?_, ?_⟩
  · rw [sizeLine_eq, List.length_map]; omega
  · subst hcl
    obtain ⟨r, hr1, hr2, rfl⟩ := rv_at he
    rw [other_rv]
    unfold Each rv
    walk_at "go"
    refine ev_sub ?_ fun o b => ⟨_, rfl⟩
    walk_at "go"
    walk_at "it0"
    refine ⟨_, gm_str F.slot_str_lower ty_lower, keep_builtin, ?_⟩
    walk_at "go"
    have ok := hr.ok r hr1
    have := ok.1.len
    refine ca_lower ok.1.ascii (by omega) ?_
    walk_at "go"
    refine op_ne_str ?_
    refine ⟨_, rfl, ?_⟩
    have hb : (tx (List.map lo1 r.1) != tx (lw t)) = (lw r.1 != lw t) := by unfold bne; rw [tx_beq]; rfl
    rw [hb]
    by_cases hc : (lw r.1 != lw t) = true
    · rw [if_pos hc, if_pos hc]
      walk_at "go"
      exact ⟨by walk_at "ls", rfl, rfl⟩
    · rw [if_neg hc, if_neg hc]
      exact ⟨by walk_at "ls", rfl, rfl⟩
  · walk_at "hd"
    refine ⟨a, _, _, rfl, h.list, rfl, by rw [List.length_map]; omega, ?_, ?_⟩
    · rw [others_rv, List.length_map]
      have : (others rows t).length ≤ rows.length := List.length_filter_le _ _
      omega
    · walk_at "go"
      rw [others_rv]; exact q
theorem others_oks {rows : List Row} (h : Oks rows) (t : List Nat) : Oks (others rows t) := ⟨fun r hr => h.ok r (List.mem_filter.mp hr).1, Nat.le_trans (List.length_filter_le _ _) h.len⟩
theorem HD.set {x dx a : Addr} {rows rows' : List Row} (h : HD led x dx (.own a) rows) : HD (upd led a (.list (rows'.map rv))) x dx (.own a) rows' :=
  ⟨upd_ne h.i (by intro z; subst z; have := h.list; rw [h.i] at this; cases this), upd_ne h.d (by intro z; subst z; have := h.list; rw [h.d] at this; cases this), .own (upd_eq _ _ _), h.n⟩
theorem fs_setitem {x dx a : Addr} {rows : List Row} {t u : List Nat} (h : HD led x dx (.own a) rows) (hr : Oks rows) (ht : Ok t) (hu : Ok u)
    (q : Q .none (upd led a (.list ((others rows t ++ [(t, u)]).map rv)))) : FS prog w (Mine.hd.heap_39 P) (n+3) (.ref 84) [.own x, .str (tx t), .str (tx u)] [] led Q := by
  refine fs_def (m₀ := [("self", .own x), ("name", .str (tx t)), ("val", .str (tx u))]) (by k_is) (by k_is) ?_ ?_ ?_ ?_ ?_ ?_ ?_ ?_
  walk_at "fs"
  intro A L oA
  walk_at "go"
  refine ex_delitem ?_
  walk_at "go"
  refine ⟨x, 171, 89, rfl, h.isI, by walk_at "is", by walk_at "is", by walk_at "is", ?_⟩
  refine ca_of (fs_delitem h hr ht ?_) oA
  walk_at "go"
  have h2 := h.set (rows' := others rows t)
  refine ex_drop ?_ rfl rfl
  walk_at "go"
  refine ev_attr ?_ rfl ⟨_, _, rfl⟩
  walk_at "nm"
  refine ⟨_, _, _, _, _, rfl, h2.i, h2.d, rfl, by walk_at "is", by walk_at "ih", by walk_at "is", h2.n, ?_⟩
  refine ⟨_, gm_own h2.list F.slot_list_append ty_append, keep_builtin, ?_⟩
  walk_at "go"
  refine ⟨_, gm_inst h2.i h2.d (by rfl) (by walk_at "is") (by walk_at "is") (by walk_at "is") (by walk_at "is"), keep_K (by walk_at "is"), ?_⟩
  walk_at "go"
  refine ca_of (n := n + 2) ((fs_cvt (n := n) ht ?_).up (by omega)) oA
  walk_at "go"
  refine ⟨_, gm_inst h2.i h2.d (by rfl) (by walk_at "is") (by walk_at "is") (by walk_at "is") (by walk_at "is"), keep_K (by walk_at "is"), ?_⟩
  walk_at "go"
  refine ca_of (n := n + 2) ((fs_cvt (n := n) hu ?_).up (by omega)) oA
  walk_at "go"
  refine ⟨by rw [sizeLine_eq]; exact (by decide : 2 ≤ 16777216), ?_⟩
  walk_at "go"
  have hz := (others_oks hr t).len
  refine ca_append h2.list (by rw [List.length_map]; omega) ?_
  refine ⟨.inl rfl, ?_⟩
  walk_at "go"
  rw [rv_push, upd_upd]; exact q
end
end
section
noncomputable def joinL (sep : List Nat) : List (List Nat) → List Nat
  | [] => []
  | a :: r => a ++ r.flatMap (sep ++ ·)
theorem join_tx (sep : List Nat) (ts : List (List Nat)) : Txt.join (tx sep) (ts.map tx) = tx (joinL sep ts) := by
  unfold Txt.join Builtin.Str.glued
  refine Str.ext' ?_
  have gen : ∀ (r : List (List Nat)) (acc : Array Nat), (r.map tx).foldl (fun acc p => acc ++ (tx sep).cps ++ p.cps) acc = acc ++ (r.flatMap (sep ++ ·)).toArray := by
    intro r
    induction r with
    | nil => intro acc; simp
    | cons a r ih => intro acc; rw [List.map_cons, List.foldl_cons, ih]; apply Array.ext'; simp [tx]
  cases ts with
  | nil => simp [joinL, tx, Str.empty]
  | cons a r =>
    show (List.foldl _ (tx a).cps (r.map tx)) = _
    rw [gen]; simp [joinL, tx]
theorem joinOk_tx (sep : List Nat) (ts : List (List Nat)) (h : (ts.map fun t => t.length + sep.length).sum ≤ 16777216) : JoinOk (tx sep) (ts.map tx) = true := by
  unfold JoinOk
  have gen : ∀ (r : List (List Nat)) (n : Nat), (r.map tx).foldl (fun n p => n + p.length + (tx sep).length) n = n + (r.map fun t => t.length + sep.length).sum := by
    intro r
    induction r with
    | nil => intro n; simp
    | cons a r ih =>
      intro n
      rw [List.map_cons, List.foldl_cons, ih, tx_length, tx_length, List.map_cons, List.sum_cons]
      omega
  unfold Builtin.Str.tooLong
  rw [List.foldl_toArray, gen, sizeLine_eq, decide_eq_false (by omega)]
  rfl
noncomputable def line (r : Row) : List Nat := r.1 ++ [58, 32] ++ r.2
noncomputable def text (rows : List Row) : List Nat := (rows.flatMap fun r => line r ++ [13, 10]) ++ [13, 10]
theorem join_rows (rows : List Row) : joinL [13, 10] (rows.map line ++ [[], []]) = text rows := by
  have gen : ∀ rows : List Row, (rows.map line ++ [[], []]).flatMap ([13, 10] ++ ·) = [13, 10] ++ text rows := by
    intro rows
    induction rows with
    | nil => rfl
    | cons r rows ih =>
      rw [List.map_cons, List.cons_append, List.flatMap_cons, ih]
      simp [text]
  cases rows with
  | nil => rfl
  | cons r rows =>
    rw [List.map_cons, List.cons_append]
    show line r ++ _ = _
    rw [gen]
    simp [text]
theorem line_len {r : Row} (h : Ok r.1 ∧ Ok r.2) : (line r).length ≤ 202 := by
  unfold line
  have := h.1.len
  have := h.2.len
  simp; omega
theorem sum_le {α : Type} (f : α → Nat) (c : Nat) : ∀ (l : List α), (∀ a ∈ l, f a ≤ c) → (l.map f).sum ≤ l.length * c
  | [], _ => by simp
  | a :: l, h => by
    have := sum_le f c l fun b hb => h b (.tail _ hb)
    have := h a (.head _)
    simp only [List.map_cons, List.sum_cons, List.length_cons, Nat.add_mul]
    omega
theorem text_len {rows : List Row} (h : Oks rows) : (text rows).length ≤ 5000 := by
  have := sum_le (fun r => (line r ++ [13, 10]).length) 204 rows fun r hr => by have := line_len (h.ok r hr); simp; omega
  have := h.len
  unfold text
  rw [List.length_append, List.length_flatMap]
  simp at *
  omega
theorem okc_rows {rows : List Row} (h : Oks rows) : ∀ a ∈ text rows, a < 128 := fun a ha => by
  unfold text line at ha
  rw [List.mem_append] at ha
  rcases ha with ha | ha
  · obtain ⟨r, hr, hb⟩ := List.mem_flatMap.mp ha
    have ok := h.ok r hr
    simp only [List.mem_append, List.mem_cons, List.not_mem_nil, or_false] at hb
    rcases hb with ((hb | rfl | rfl) | hb) | rfl | rfl
    · exact ok.1.ascii a hb
    · decide
    · decide
    · exact ok.2.ascii a hb
    · decide
    · decide
  · simp only [List.mem_cons, List.not_mem_nil, or_false] at ha
    rcases ha with rfl | rfl <;> decide
section
variable {P : Params} {n : Nat} {led : Led} {Q : V → Led → Prop} {prog : Program} {w : World}
noncomputable def typed? : V → Option V
  | .tup [.str a, .str b] => some (.txt (a ++ Str.ofString ": " ++ b))
  | _ => none
theorem colon : Str.ofString ": " = tx [58, 32] := by rfl
theorem crlf : Str.ofString "\r\n" = tx [13, 10] := by rfl
theorem typed_rv (r : Row) : typed? (rv r) = some (.txt (tx (line r))) := by
  show some (V.txt (tx r.1 ++ Str.ofString ": " ++ tx r.2)) = _
  rw [colon, tx_append, tx_append]; rfl
theorem fs_str {x dx : Addr} {hv : V} {rows : List Row} (h : HD led x dx hv rows) (hr : Oks rows) (q : Q (.txt (tx (text rows))) led) : FS prog w (Mine.hd.heap_39 P) (n+1) (.ref 147) [.own x] [] led Q := by
  refine fs_def (m₀ := [("self", .own x)]) (by k_is) (by k_is) ?_ ?_ ?_ ?_ ?_ ?_ ?_ ?_
  walk_at "fs"
  intro A L oA
  have hz := hr.len
  walk_at "go"
  refine ⟨_, gm_str F.slot_str_join ty_join, keep_builtin, ?_⟩
  walk_at "go"
  refine ev_comp oA.hh rfl rfl (by decide) ?_ fun _ => rfl
  walk_at "hd"
  refine ⟨_, _, none, [], typed?, src_isl h.l, h.l, fun led' e => h.l.ext e, ?_, by walk_at "clo", by walk_at "ful", fun C cl' i d led' he hx hcl => ?_, ?_⟩
  · rw [sizeLine_eq, List.length_map]; omega
  · subst hcl
    obtain ⟨r, hr1, hr2, rfl⟩ := rv_at he
    have ok := hr.ok r hr1
    have := ok.1.len
    have := ok.2.len
    refine each_nil ?_
    walk_at "go"
    unfold rv
    refine op_mod_pair (by rfl) .str .str (by rw [tx_length]; omega) (by rw [tx_length]; omega) ?_
    exact ⟨by walk_at "ls", rfl, rfl⟩
  · have e1 : (rows.map rv).filterMap typed? = (rows.map fun r => tx (line r)).map .txt := by
      rw [List.filterMap_map, List.map_map, ← List.filterMap_eq_map]
      exact congrArg (fun f => List.filterMap f rows) (funext fun r => typed_rv r)
    rw [e1]
    refine list_ ?_
    walk_at "go"
    refine ⟨by rw [sizeLine_eq]; exact (by decide : 2 ≤ 16777216), ?_⟩
    refine op_add_list .lst .lst (by simp; omega) ?_
    walk_at "go"
    have e2 : ((rows.map fun r => tx (line r)) ++ [Str.ofString "", Str.ofString ""]) = (rows.map line ++ [[], []]).map tx := by
      rw [List.map_append, List.map_map]; rfl
    refine ca_join (ts := (rows.map line ++ [[], []]).map tx) .lst ?_ ?_ ?_
    · rw [← e2]
      exact Texts.append (Texts.txt _) (.cons .str (.cons .str .nil))
    · rw [crlf]
      refine joinOk_tx _ _ ?_
      have := sum_le (fun t : List Nat => t.length + [13, 10].length) 204 (rows.map line ++ [[], []]) fun t ht => by
        rw [List.mem_append] at ht
        rcases ht with ht | ht
        · obtain ⟨r, hr1, rfl⟩ := List.mem_map.mp ht
          have := line_len (hr.ok r hr1)
          simp; omega
        · simp only [List.mem_cons, List.not_mem_nil, or_false, or_self] at ht
          subst ht; decide
      rw [List.length_append, List.length_map] at this
      simp at this ⊢
      omega
    · walk_at "go"
      rw [crlf, join_tx, join_rows]; exact q
theorem fs_bytes {x dx : Addr} {hv : V} {rows : List Row} (h : HD led x dx hv rows) (hr : Oks rows) (q : Q (.bytes (octets (text rows))) led) : FS prog w (Mine.hd.heap_39 P) (n+13) (.ref 154) [.own x] [] led Q := by
  refine fs_def (m₀ := [("self", .own x)]) (by k_is) (by k_is) ?_ ?_ ?_ ?_ ?_ ?_ ?_ ?_
  walk_at "fs"
  intro A L oA
  have hz := hr.len
  walk_at "go"
  walk_at "ct"
  walk_at "go"
  refine ca_str_txt h.isI (by have := oA.hu; dsimp only; omega) (by walk_at "is") (by walk_at "is") ?_
  refine ca_of (n := n + 10) ((fs_str (n := n) h hr ?_).up (by omega)) (OkA.in1 (OkA.in1 oA))
  refine ⟨_, .txt, ?_⟩
  refine ⟨_, gm_txt .txt F.slot_str_encode ty_encode, keep_builtin, ?_⟩
  walk_at "go"
  have := text_len hr
  refine ca_encode .txt (.inr rfl) (okc_rows hr) (by omega) ?_
  walk_at "go"
  exact q
end
end
section
open PySem.StrLaws Builtin Builtin.Str
theorem at_iff (l sep : List Nat) (k : Nat) : At (tx l) (tx sep) (tx l).length k ↔ k + sep.length ≤ l.length ∧ (l.drop k).take sep.length = sep := by
  unfold At subAt
  rw [tx_length, tx_length]
  simp [tx]
theorem sub_tx (l : List Nat) (a b : Nat) : strSub (tx l) a b = tx ((l.drop a).take (b - a)) := by
  unfold strSub tx
  simp
theorem at_head {l : List Nat} {s0 : Nat} {s : List Nat} {k : Nat} (h : At (tx l) (tx (s0 :: s)) (tx l).length k) : l[k]? = some s0 := by
  rw [at_iff] at h
  obtain ⟨h1, h2⟩ := h
  have : ((l.drop k).take (s0 :: s).length)[0]? = some s0 := by rw [h2]; rfl
  simpa using this
theorem parts_tx {s0 : Nat} {s : List Nat} : ∀ (ps : List (List Nat)) (p pre : List Nat) (cuts : List Nat) (f : Nat), (∀ q ∈ p :: ps, s0 ∉ q) →
    ChainG (tx (pre ++ joinL (s0 :: s) (p :: ps))) (tx (s0 :: s)) (tx (pre ++ joinL (s0 :: s) (p :: ps))).length pre.length cuts f → (∀ k, f ≤ k → ¬ At (tx (pre ++ joinL (s0 :: s) (p :: ps))) (tx (s0 :: s)) (tx (pre ++ joinL (s0 :: s) (p :: ps))).length k) →
    partsFrom (tx (pre ++ joinL (s0 :: s) (p :: ps))) (tx (s0 :: s)).length pre.length cuts = (p :: ps).map tx := by
  intro ps
  induction ps with
  | nil =>
    intro p pre cuts f hp hc hf
    cases cuts with
    | nil =>
      show [strSub _ _ _] = _
      rw [sub_tx, tx_length]
      simp [joinL]
    | cons c r =>
      obtain ⟨h1, h2, _⟩ := hc
      have := at_head h2
      rw [List.getElem?_append_right h1] at this
      have m := List.mem_of_getElem? this
      simp only [joinL, List.flatMap_nil, List.append_nil] at m
      exact absurd m (hp p (.head _))
  | cons q qs ih =>
    intro p pre cuts f hp hc hf
    have ej : joinL (s0 :: s) (p :: q :: qs) = p ++ (s0 :: s) ++ joinL (s0 :: s) (q :: qs) := by simp [joinL]
    have eq : pre ++ joinL (s0 :: s) (p :: q :: qs) = (pre ++ p ++ (s0 :: s)) ++ joinL (s0 :: s) (q :: qs) := by rw [ej]; simp
    have here : At (tx (pre ++ joinL (s0 :: s) (p :: q :: qs))) (tx (s0 :: s)) (tx (pre ++ joinL (s0 :: s) (p :: q :: qs))).length (pre.length + p.length) := by
      rw [at_iff, eq]
      refine ⟨by simp; omega, ?_⟩
      rw [List.append_assoc (pre ++ p), List.drop_left' (by simp), List.take_left' rfl]
    cases cuts with
    | nil =>
      have : f = pre.length := hc
      exact absurd here (hf _ (by omega))
    | cons c r =>
      obtain ⟨h1, h2, h3, h4⟩ := hc
      have ce : c = pre.length + p.length := by
        rcases Nat.lt_trichotomy c (pre.length + p.length) with h | h | h
        · have := at_head h2
          rw [List.getElem?_append_right h1, ej, List.append_assoc, List.getElem?_append_left (by omega)] at this
          exact absurd (List.mem_of_getElem? this) (hp p (.head _))
        · exact h
        · exact absurd here (h3 _ (by omega) h)
      subst ce
      show strSub _ _ _ :: partsFrom _ _ _ r = _
      rw [sub_tx]
      have e1 : ((pre ++ joinL (s0 :: s) (p :: q :: qs)).drop pre.length).take (pre.length + p.length - pre.length) = p := by
        rw [List.drop_left' rfl, ej, List.append_assoc, List.take_left' (by omega)]
      rw [e1]
      have el : (pre ++ p ++ (s0 :: s)).length = pre.length + p.length + (tx (s0 :: s)).length := by rw [tx_length]; simp; omega
      rw [eq] at h4 hf ⊢
      rw [← el] at h4 ⊢
      rw [ih q (pre ++ p ++ (s0 :: s)) r f (fun z hz => hp z (.tail _ hz)) h4 hf]
      rfl
theorem kind1 (l : List Nat) (h : ∀ a ∈ l, a < 256) (y : Str) : decide (Builtin.Str.strKind y < Builtin.Str.strKind (tx l)) = false := by
  have : Builtin.Str.strKind (tx l) = 1 := by
    unfold Builtin.Str.strKind
    rw [if_pos]
    simp [tx]
    exact h
  rw [this]
  apply decide_eq_false
  unfold Builtin.Str.strKind
  split
  · omega
  · split <;> omega
theorem split_tx {s0 : Nat} {s : List Nat} (hs : ∀ a ∈ s0 :: s, a < 256) (p : List Nat) (ps : List (List Nat)) (hp : ∀ q ∈ p :: ps, s0 ∉ q) : Txt.split (tx (joinL (s0 :: s) (p :: ps))) (tx (s0 :: s)) = (p :: ps).map tx := by
  obtain ⟨f, h1, h2⟩ := occ_tight (tx (joinL (s0 :: s) (p :: ps))) (tx (s0 :: s)) (by rw [tx_length]; simp)
  have main := parts_tx ps p [] _ f hp (by simpa using h1) (by simpa using h2)
  simp only [List.nil_append, List.length_nil] at main
  unfold Txt.split
  rw [kind1 _ hs]
  simp only [Bool.or_false, decide_eq_true_eq]
  split
  · rename_i h
    cases ps with
    | nil => simp [joinL]
    | cons q qs =>
      rw [tx_length, tx_length] at h
      simp [joinL] at h
      omega
  · split
    · rename_i h
      rw [List.isEmpty_iff] at h
      rw [h] at main
      rw [← main]
      show [_] = [strSub _ _ _]
      rw [sub_whole]
    · rw [partsBetween_eq, main]
theorem replace_tx {s0 : Nat} {s z : List Nat} (p : List Nat) (ps : List (List Nat)) (hp : ∀ q ∈ p :: ps, s0 ∉ q) : Txt.replace (tx (joinL (s0 :: s) (p :: ps))) (tx (s0 :: s)) (tx z) = tx (joinL z (p :: ps)) := by
  obtain ⟨f, h1, h2⟩ := occ_tight (tx (joinL (s0 :: s) (p :: ps))) (tx (s0 :: s)) (by rw [tx_length]; simp)
  have main := parts_tx ps p [] _ f hp (by simpa using h1) (by simpa using h2)
  simp only [List.nil_append, List.length_nil] at main
  unfold Txt.replace
  have hz : ((tx (s0 :: s)).length == 0) = false := by rw [tx_length]; rfl
  rw [hz]
  simp only [Bool.false_and, Bool.or_false]
  split
  · rename_i h
    rw [List.isEmpty_iff] at h
    rw [h] at main
    cases ps with
    | nil => simp [joinL]
    | cons q qs =>
      have := congrArg List.length main
      simp [partsFrom] at this
  · rw [partsBetween_eq, main]
    exact join_tx z (p :: ps)
theorem e_feed (r : List Nat) : eols (10 :: r) = 13 :: 10 :: eols r := by
  cases r with
  | nil => rfl
  | cons a r => rw [eols, if_neg (by simp), if_pos (by decide)]
theorem e_ret {r : List Nat} (h : r.head? ≠ some 10) : eols (13 :: r) = 13 :: 10 :: eols r := by
  cases r with
  | nil => rfl
  | cons a r =>
    have : a ≠ 10 := fun e => h (by rw [e]; rfl)
    rw [eols, if_neg (by simp [this]), if_pos (by decide)]
theorem e_both (r : List Nat) : eols (13 :: 10 :: r) = 13 :: 10 :: eols r := by rw [eols, if_pos ⟨rfl, rfl⟩]
theorem head_ne {p r : List Nat} (h : ∀ c ∈ p, pEol c = false) (hr : r.head? ≠ some 10) : (p ++ r).head? ≠ some 10 := by
  cases p with
  | nil => exact hr
  | cons a p =>
    intro e
    cases e
    have := h 10 (.head _)
    revert this; decide
theorem eols_tail {z : List Nat} (hz : z = [13, 10] ∨ z = [10] ∨ z = [13]) {r : List Nat} (hr : r.head? ≠ some 10) : ∀ (ps : List (List Nat)), (∀ q ∈ ps, ∀ c ∈ q, pEol c = false) → eols (ps.flatMap (z ++ ·) ++ r) = ps.flatMap ([13, 10] ++ ·) ++ eols r
  | [], _ => rfl
  | p :: ps, h => by
    have ih := eols_tail hz hr ps fun q hq => h q (.tail _ hq)
    have hp := h p (.head _)
    rw [List.flatMap_cons, List.flatMap_cons]
    simp only [List.append_assoc]
    rcases hz with rfl | rfl | rfl
    · show eols (13 :: 10 :: (p ++ _)) = _
      rw [e_both, eols_plain p _ hp, ih]; rfl
    · show eols (10 :: (p ++ _)) = _
      rw [e_feed, eols_plain p _ hp, ih]; rfl
    · show eols (13 :: (p ++ _)) = _
      rw [e_ret (head_ne hp ?_), eols_plain p _ hp, ih]; rfl
      cases ps with
      | nil => exact hr
      | cons q qs => intro e; cases e
theorem eols_join {z : List Nat} (hz : z = [13, 10] ∨ z = [10] ∨ z = [13]) {r : List Nat} (hr : r.head? ≠ some 10) (ps : List (List Nat)) (h : ∀ q ∈ ps, ∀ c ∈ q, pEol c = false) : eols (joinL z ps ++ r) = joinL [13, 10] ps ++ eols r := by
  cases ps with
  | nil => rfl
  | cons p ps =>
    show eols (p ++ ps.flatMap (z ++ ·) ++ r) = p ++ ps.flatMap ([13, 10] ++ ·) ++ eols r
    rw [List.append_assoc, eols_plain p _ (h p (.head _)), eols_tail hz hr ps fun q hq => h q (.tail _ hq), List.append_assoc]
noncomputable def dbl : List Nat → List Nat
  | 46 :: t => 46 :: 46 :: t
  | t => t
theorem dots_no : ∀ (p r : List Nat), (∀ c ∈ p, c ≠ 10) → dots false (p ++ r) = p ++ dots false r
  | [], _, _ => rfl
  | c :: p, r, h => by
    have hc := h c (.head _)
    show dots false (c :: (p ++ r)) = _
    rw [dots]
    simp only [Bool.false_and, Bool.false_eq_true, if_false]
    rw [show (c == 10) = false from by simp [hc], dots_no p r fun d hd => h d (.tail _ hd)]; rfl
theorem dots_yes {p r : List Nat} (h : ∀ c ∈ p, c ≠ 10) (hr : r = [] ∨ r.head? = some 13) : dots true (p ++ r) = dbl p ++ dots false r := by
  cases p with
  | nil =>
    rcases hr with rfl | hr
    · rfl
    · cases r with
      | nil => rfl
      | cons a r => cases hr; rfl
  | cons c p =>
    have hc := h c (.head _)
    show dots true (c :: (p ++ r)) = _
    by_cases h4 : c = 46
    · subst h4
      rw [dots, if_pos (by decide), dots_no p r fun d hd => h d (.tail _ hd)]; rfl
    · rw [dots, if_neg (by simp [h4]), show (c == 10) = false from by simp [hc], dots_no p r fun d hd => h d (.tail _ hd)]
      have : dbl (c :: p) = c :: p := by
        unfold dbl
        split
        · rename_i e; cases e; exact absurd rfl h4
        · rfl
      rw [this]; rfl
theorem dots_join : ∀ (ps : List (List Nat)), (∀ q ∈ ps, ∀ c ∈ q, c ≠ 10) → dots true (joinL [13, 10] ps) = joinL [13, 10] (ps.map dbl) := by
  have gen : ∀ (ps : List (List Nat)), (∀ q ∈ ps, ∀ c ∈ q, c ≠ 10) → dots false (ps.flatMap ([13, 10] ++ ·)) = (ps.map dbl).flatMap ([13, 10] ++ ·) := by
    intro ps
    induction ps with
    | nil => intro _; rfl
    | cons p ps ih =>
      intro h
      rw [List.flatMap_cons, List.map_cons, List.flatMap_cons, ← ih fun q hq => h q (.tail _ hq)]
      show dots false (13 :: 10 :: (p ++ _)) = _
      show 13 :: 10 :: dots true (p ++ _) = _
      rw [dots_yes (h p (.head _))]
      · rfl
      · cases ps with
        | nil => exact .inl rfl
        | cons q qs => exact .inr rfl
  intro ps h
  cases ps with
  | nil => rfl
  | cons p ps =>
    show dots true (p ++ ps.flatMap ([13, 10] ++ ·)) = dbl p ++ (ps.map dbl).flatMap ([13, 10] ++ ·)
    rw [dots_yes (h p (.head _)), gen ps fun q hq => h q (.tail _ hq)]
    cases ps with
    | nil => exact .inl rfl
    | cons q qs => exact .inr rfl
end
section
section
variable {P : Params} {n : Nat} {led : Led} {Q : V → Led → Prop} {prog : Program} {w : World}
theorem fs_not {x dx : Addr} {hv : V} {rows : List Row} (h : HD led x dx hv rows) (hr : Oks rows) (q : Q (.bool (rows.length == 0)) led) : FS prog w (Mine.hd.heap_39 P) (n+3) (.ref 182) [.own x] [] led Q := by
  refine fs_def (m₀ := [("a", .own x)]) (by k_is) (by k_is) ?_ ?_ ?_ ?_ ?_ ?_ ?_ ?_
  walk_at "fs"
  intro A L oA
  walk_at "go"
  refine op_not ?_
  refine truth_own h.isI (by walk_at "is") (by walk_at "is") (by walk_at "is") ?_
  refine ca_of (n := n + 1) (fs_len h hr ?_) (OkA.in1 oA)
  have hz := hr.len
  refine ⟨rows.length, rfl, by omega, ?_⟩
  walk_at "go"
  have : (!(rows.length != 0)) = (rows.length == 0) := by simp [bne]
  rw [this]; exact q
theorem fs_concat {x y : V} {l k : List V} (hx : IsL led x l) (hy : IsL led y k) (hz : l.length + k.length ≤ 16777216) (q : Q (.lst (l ++ k)) led) : FS prog w (Mine.hd.heap_39 P) (n+1) (.ref 189) [x, y] [] led Q := by
  refine fs_def (m₀ := [("a", x), ("b", y)]) (by k_is) (by k_is) ?_ ?_ ?_ ?_ ?_ ?_ ?_ ?_
  walk_at "fs"
  intro A L oA
  walk_at "go"
  walk_at "cb"
  walk_at "go"
  refine ca_has hx ?_
  refine truth_bool ?_
  rw [if_neg (by decide)]
  walk_at "go"
  refine op_add_list hx hy hz ?_
  walk_at "go"
  exact q
theorem fs_in {x dx : Addr} {hv : V} {rows : List Row} {t : List Nat} (h : HD led x dx hv rows) (hr : Oks rows) (ht : Ok t) (q : Q (.bool (rows.find? fun r => lw r.1 == lw t).isSome) led) : FS prog w (Mine.hd.heap_39 P) (n+4) (.ref 196) [.own x, .str (tx t)] [] led Q := by
  refine fs_def (m₀ := [("a", .own x), ("b", .str (tx t))]) (by k_is) (by k_is) ?_ ?_ ?_ ?_ ?_ ?_ ?_ ?_
  walk_at "fs"
  intro A L oA
  walk_at "go"
  refine op_in (f := 103) h.isI (by walk_at "is") (by walk_at "is") ?_
  refine ca_of (fs_contains h hr ht ?_) oA
  exact ⟨_, rfl, q⟩
theorem fs_put {x dx a : Addr} {rows : List Row} {t u : List Nat} (h : HD led x dx (.own a) rows) (hr : Oks rows) (ht : Ok t) (hu : Ok u)
    (q : Q .none (upd led a (.list ((others rows t ++ [(t, u)]).map rv)))) : FS prog w (Mine.hd.heap_39 P) (n+4) (.ref 210) [.own x, .str (tx t), .str (tx u)] [] led Q := by
  refine fs_def (m₀ := [("a", .own x), ("b", .str (tx t)), ("c", .str (tx u))]) (by k_is) (by k_is) ?_ ?_ ?_ ?_ ?_ ?_ ?_ ?_
  walk_at "fs"
  intro A L oA
  walk_at "go"
  refine ex_setitem ?_ rfl
  walk_at "go"
  refine ⟨x, 171, 84, rfl, h.isI, by walk_at "is", by walk_at "is", by walk_at "is", ?_⟩
  refine ca_of (fs_setitem h hr ht hu ?_) oA
  walk_at "go"
  exact q
theorem pat_dot (h : Heap) (X : (Mine.hd.heap_39 P).In h) : IsPat h 215 cDot 0 := by
  refine ⟨_, _, _, _, _, _, _, _, _, X _ _ (by k_is), X _ _ (by k_is), rfl, by decide +kernel⟩
theorem pat_dotB (h : Heap) (X : (Mine.hd.heap_39 P).In h) : IsPat h 220 cDot 1 := by
  refine ⟨_, _, _, _, _, _, _, _, _, X _ _ (by k_is), X _ _ (by k_is), rfl, by decide +kernel⟩
theorem pat_eol (h : Heap) (X : (Mine.hd.heap_39 P).In h) : IsPat h 225 cEol 0 := by
  refine ⟨_, _, _, _, _, _, _, _, _, X _ _ (by k_is), X _ _ (by k_is), rfl, by decide +kernel⟩
theorem eols_len : ∀ (t : List Nat), (eols t).length ≤ 2 * t.length
  | [] => by decide
  | [c] => by unfold eols; split <;> simp
  | c :: d :: r => by
    have h1 := eols_len r
    have h2 := eols_len (d :: r)
    unfold eols
    split
    · simp at *; omega
    · split <;> (simp at *; omega)
theorem dots_len : ∀ (t : List Nat) (b : Bool), (dots b t).length ≤ 2 * t.length
  | [], b => by cases b <;> decide
  | c :: r, b => by
    have h1 := dots_len r false
    have h2 := dots_len r (c == 10)
    unfold dots
    split <;> (simp at *; omega)
theorem fs_quotedata {x : V} {t : List Nat} (hx : IsS x (tx t)) (hz : t.length ≤ 400000) (q : Q (.txt (tx (dots true (eols t)))) led) : FS prog w (Mine.hd.heap_39 P) (n+1) (.ref 232) [x] [] led Q := by
  refine fs_def (m₀ := [("data", x)]) (by k_is) (by k_is) ?_ ?_ ?_ ?_ ?_ ?_ ?_ ?_
  walk_at "fs"
  intro A L oA
  walk_at "go"
  refine ⟨_, gm_pat pat_dot slot_sub type_sub, keep_builtin, ?_⟩
  walk_at "go"
  refine ⟨_, gm_pat pat_eol slot_sub type_sub, keep_builtin, ?_⟩
  walk_at "go"
  have h1 := eols_len t
  have h2 := dots_len (eols t) true
  refine ca_eols pat_eol (.inr ⟨_, rfl⟩) hx (by omega) (by omega) ?_
  walk_at "go"
  refine ca_dots pat_dot .str .txt (by omega) (by omega) ?_
  walk_at "go"
  exact q
theorem fs_fix {x : V} {t : List Nat} (hx : IsS x (tx t)) (hz : t.length ≤ 400000) (q : Q (.txt (tx (eols t))) led) : FS prog w (Mine.hd.heap_39 P) (n+1) (.ref 246) [x] [] led Q := by
  refine fs_def (m₀ := [("data", x)]) (by k_is) (by k_is) ?_ ?_ ?_ ?_ ?_ ?_ ?_ ?_
  walk_at "fs"
  intro A L oA
  walk_at "go"
  refine ⟨_, gm_pat pat_eol slot_sub type_sub, keep_builtin, ?_⟩
  walk_at "go"
  have h1 := eols_len t
  refine ca_eols pat_eol (.inr ⟨_, rfl⟩) hx (by omega) (by omega) ?_
  walk_at "go"
  exact q
theorem fs_periods {t : List Nat} (ht : ∀ a ∈ t, a < 128) (hz : t.length ≤ 400000) (q : Q (.bytes (octets (dots true t))) led) : FS prog w (Mine.hd.heap_39 P) (n+1) (.ref 239) [.bytes (octets t)] [] led Q := by
  refine fs_def (m₀ := [("bindata", .bytes (octets t))]) (by k_is) (by k_is) ?_ ?_ ?_ ?_ ?_ ?_ ?_ ?_
  walk_at "fs"
  intro A L oA
  walk_at "go"
  refine ⟨_, gm_pat pat_dotB slot_sub type_sub, keep_builtin, ?_⟩
  walk_at "go"
  have h2 := dots_len t true
  refine ca_dotsB pat_dotB ht (by omega) (by omega) ?_
  walk_at "go"
  exact q
theorem fs_count {x : V} {items : List (List Nat)} {t : List Nat} {ok : Led → Prop} (hs : ∀ A, Src prog w A x (items.map fun p => .str (tx p)) ok) (hk : ok led) (q : Q (.int (items.count t : Nat)) led) : FS prog w (Mine.hd.heap_39 P) (n+1) (.ref 203) [x, .str (tx t)] [] led Q := by
  refine fs_def (m₀ := [("a", x), ("b", .str (tx t))]) (by k_is) (by k_is) ?_ ?_ ?_ ?_ ?_ ?_ ?_ ?_
  walk_at "fs"
  intro A L oA
  walk_at "go"
  refine ex_for oA.hh ?_ fun _ => rfl
  walk_at "go"
  refine ⟨_, _, hs _, fun i m led' => Less [("count", .int ((items.take i).count t : Nat)), ("b", .str (tx t))] m ∧ led' = led, ⟨by walk_at "ls", rfl⟩, fun i m led' h' => h'.2 ▸ hk, fun i d m led' he h' => ?_, fun m led' h' => ?_⟩
  · obtain ⟨h1, rfl⟩ := h'
    obtain ⟨p, hp, rfl⟩ : ∃ p, items[i]? = some p ∧ d = .str (tx p) := by
      rw [List.getElem?_map] at he
      cases h : items[i]? with
      | none => rw [h] at he; cases he
      | some r => rw [h] at he; cases he; exact ⟨r, rfl, rfl⟩
    refine A1.less ?_ h1
    iterate 3 walk_at "st"
    have yes : p = t → (items.take (i + 1)).count t = (items.take i).count t + 1 := fun e => by
      rw [List.take_add_one, hp, List.count_append, e]; simp
    have no : p ≠ t → (items.take (i + 1)).count t = (items.take i).count t := fun e => by
      rw [List.take_add_one, hp, List.count_append]; simp [e]
    refine ex_if (AW.mono (Q := fun b m' l' => b = decide (p = t) ∧ Less [("count", .int ((items.take i).count t : Nat)), ("b", .str (tx t))] m' ∧ l' = led') ?_ ?_)
    · walk_at "go"
      refine op_is_str fun b hb => ?_
      refine ⟨_, rfl, ?_⟩
      cases b with
      | true =>
        rw [if_pos rfl]
        exact ⟨(decide_eq_true (tx_inj (hb rfl))).symm, by walk_at "ls", rfl⟩
      | false =>
        rw [if_neg (by decide)]
        walk_at "go"
        refine op_eq_str ?_
        refine ⟨_, rfl, ?_, by walk_at "ls", rfl⟩
        rw [tx_beq]; by_cases e : p = t <;> simp [e]
    · rintro b m' l' ⟨rfl, h2, rfl⟩
      by_cases e : p = t
      · rw [if_pos (decide_eq_true e)]
        refine AW.less ?_ h2
        walk_at "go"
        refine ex_aug ?_
        refine ln_local rfl rfl rfl ?_
        walk_at "go"
        refine op_iadd_int .int .int ?_
        walk_at "go"
        refine ⟨?_, rfl⟩
        rw [yes e]
        walk_at "ls"
      · rw [if_neg (by simp [e])]
        refine AW.less ?_ h2
        walk_at "go"
        rw [no e]
        exact ⟨by walk_at "ls", rfl⟩
  · obtain ⟨h1, rfl⟩ := h'
    refine AW.less ?_ h1
    walk_at "go"
    rw [List.length_map, List.take_length]; exact q
theorem fs_count_int {x : V} {items : List Int} {t : Int} {ok : Led → Prop} (hs : ∀ A, Src prog w A x (items.map fun p => .int p) ok) (hk : ok led) (q : Q (.int (items.count t : Nat)) led) : FS prog w (Mine.hd.heap_39 P) (n+1) (.ref 203) [x, .int t] [] led Q := by
  refine fs_def (m₀ := [("a", x), ("b", .int t)]) (by k_is) (by k_is) ?_ ?_ ?_ ?_ ?_ ?_ ?_ ?_
  walk_at "fs"
  intro A L oA
  walk_at "go"
  refine ex_for oA.hh ?_ fun _ => rfl
  walk_at "go"
  refine ⟨_, _, hs _, fun i m led' => Less [("count", .int ((items.take i).count t : Nat)), ("b", .int t)] m ∧ led' = led, ⟨by walk_at "ls", rfl⟩, fun i m led' h' => h'.2 ▸ hk, fun i d m led' he h' => ?_, fun m led' h' => ?_⟩
  · obtain ⟨h1, rfl⟩ := h'
    obtain ⟨p, hp, rfl⟩ : ∃ p, items[i]? = some p ∧ d = .int p := by
      rw [List.getElem?_map] at he
      cases h : items[i]? with
      | none => rw [h] at he; cases he
      | some r => rw [h] at he; cases he; exact ⟨r, rfl, rfl⟩
    refine A1.less ?_ h1
    iterate 3 walk_at "st"
    have yes : p = t → (items.take (i + 1)).count t = (items.take i).count t + 1 := fun e => by
      rw [List.take_add_one, hp, List.count_append, e]; simp
    have no : p ≠ t → (items.take (i + 1)).count t = (items.take i).count t := fun e => by
      rw [List.take_add_one, hp, List.count_append]; simp [e]
    refine ex_if (AW.mono (Q := fun b m' l' => b = decide (p = t) ∧ Less [("count", .int ((items.take i).count t : Nat)), ("b", .int t)] m' ∧ l' = led') ?_ ?_)
    · walk_at "go"
      refine op_is_int fun b hb => ?_
      refine ⟨_, rfl, ?_⟩
      cases b with
      | true =>
        rw [if_pos rfl]
        exact ⟨(decide_eq_true (id (hb rfl))).symm, by walk_at "ls", rfl⟩
      | false =>
        rw [if_neg (by decide)]
        walk_at "go"
        refine op_eq_int .int .int ?_
        refine ⟨_, rfl, ?_, by walk_at "ls", rfl⟩
        by_cases e : p = t <;> simp [e]
    · rintro b m' l' ⟨rfl, h2, rfl⟩
      by_cases e : p = t
      · rw [if_pos (decide_eq_true e)]
        refine AW.less ?_ h2
        walk_at "go"
        refine ex_aug ?_
        refine ln_local rfl rfl rfl ?_
        walk_at "go"
        refine op_iadd_int .int .int ?_
        walk_at "go"
        refine ⟨?_, rfl⟩
        rw [yes e]
        walk_at "ls"
      · rw [if_neg (by simp [e])]
        refine AW.less ?_ h2
        walk_at "go"
        rw [no e]
        exact ⟨by walk_at "ls", rfl⟩
  · obtain ⟨h1, rfl⟩ := h'
    refine AW.less ?_ h1
    walk_at "go"
    rw [List.length_map, List.take_length]; exact q
end
end
section
noncomputable def sent1 (r : Row) : Row := (dbl r.1, r.2)
theorem dbl_line (r : Row) : dbl (line r) = line (sent1 r) := by
  obtain ⟨a, b⟩ := r
  cases a with
  | nil => rfl
  | cons c a =>
    by_cases h : c = 46
    · subst h; rfl
    · have e : ∀ l : List Nat, dbl (c :: l) = c :: l := fun l => by
        unfold dbl; split
        · rename_i z; cases z; exact absurd rfl h
        · rfl
      show dbl (c :: _) = _
      rw [e]
      unfold sent1 line
      rw [e]; rfl
noncomputable def pRow : Row := ([112], [46, 46, 112])
noncomputable def zOf (k : Nat) : List Nat := if k = 0 then [13, 10] else if k = 1 then [10] else [13]
theorem zOf_ok (k : Nat) : zOf k = [13, 10] ∨ zOf k = [10] ∨ zOf k = [13] := by unfold zOf; split; exact .inl rfl; split; exact .inr (.inl rfl); exact .inr (.inr rfl)
noncomputable def tailL (k : Nat) : List Nat := [46, 13, 46, 10, 46, 12, 46, 13, 10] ++ List.replicate k 46
noncomputable def mailL (rows : List Row) (z : List Nat) (k : Nat) : List Nat := joinL z ((rows ++ [pRow]).map line ++ [[], []]) ++ tailL k
noncomputable def six (k : Nat) : List (List Nat) := [line pRow, [], [46, 46], [46, 46], [46, 46, 12, 46], List.replicate (2 * k) 46]
noncomputable def linesL (rows : List Row) (k : Nat) : List (List Nat) := rows.map (fun r => line (sent1 r)) ++ six k
theorem line_clean {r : Row} (h : Ok r.1 ∧ Ok r.2) : ∀ c ∈ line r, c ≠ 10 ∧ c ≠ 13 := fun c hc => by
  unfold line at hc
  simp only [List.mem_append, List.mem_cons, List.not_mem_nil, or_false] at hc
  have ok : ∀ a, okc a = true → a ≠ 10 ∧ a ≠ 13 := fun a ha => by rcases okc_cases ha with h | h | h | h | h | h | h <;> subst h <;> decide
  rcases hc with (hc | rfl | rfl) | hc
  · exact ok _ (h.1.ch _ hc)
  · decide
  · decide
  · exact ok _ (h.2.ch _ hc)
theorem pOk_row : Ok pRow.1 ∧ Ok pRow.2 := ⟨⟨by decide, by decide⟩, ⟨by decide, by decide⟩⟩
theorem clean_eol {c : Nat} (h : c ≠ 10 ∧ c ≠ 13) : pEol c = false := by unfold pEol; simp [h.1, h.2]
theorem lines_clean {rows : List Row} (h : ∀ r ∈ rows, Ok r.1 ∧ Ok r.2) : ∀ q ∈ (rows ++ [pRow]).map line ++ [[], []], ∀ c ∈ q, c ≠ 10 ∧ c ≠ 13 := fun q hq c hc => by
  rw [List.mem_append] at hq
  rcases hq with hq | hq
  · obtain ⟨r, hr, rfl⟩ := List.mem_map.mp hq
    rw [List.mem_append] at hr
    rcases hr with hr | hr
    · exact line_clean (h r hr) c hc
    · simp only [List.mem_cons, List.not_mem_nil, or_false] at hr
      subst hr; exact line_clean pOk_row c hc
  · simp only [List.mem_cons, List.not_mem_nil, or_false, or_self] at hq
    subst hq; cases hc
theorem rep_clean (k : Nat) : ∀ c ∈ List.replicate k 46, c ≠ 10 ∧ c ≠ 13 := fun c hc => by rw [(List.mem_replicate.mp hc).2]; decide
theorem joinL_snoc (sep : List Nat) (a : List Nat) (A : List (List Nat)) (B : List (List Nat)) : joinL sep ((a :: A) ++ [[], []]) ++ joinL sep ([] :: B) = joinL sep ((a :: A) ++ [[], []] ++ B) := by
  simp [joinL]
theorem joinL_snoc' (sep : List Nat) (A : List (List Nat)) (h : A ≠ []) (b : List Nat) (B : List (List Nat)) : joinL sep (A ++ [[], []]) ++ joinL sep (b :: B) = joinL sep (A ++ [[]] ++ (b :: B)) := by
  cases A with
  | nil => exact absurd rfl h
  | cons a A => simp [joinL]
theorem tail_eols (k : Nat) (h : k < 2) : eols (tailL k) = joinL [13, 10] [[46], [46], [46, 12, 46], List.replicate k 46] := by
  have : k = 0 ∨ k = 1 := by omega
  rcases this with rfl | rfl <;> decide
theorem sent_text {rows : List Row} (h : ∀ r ∈ rows, Ok r.1 ∧ Ok r.2) (z : List Nat) (hz : z = [13, 10] ∨ z = [10] ∨ z = [13]) (k : Nat) (hk : k < 2) : dots true (eols (mailL rows z k)) = joinL [13, 10] (linesL rows k) := by
  unfold mailL
  rw [eols_join hz (by intro e; cases e) _ fun q hq c hc => clean_eol (lines_clean h q hq c hc), tail_eols k hk, joinL_snoc' _ _ (by simp), dots_join]
  · unfold linesL six
    simp only [List.map_append, List.map_cons, List.map_nil, List.map_map, List.append_assoc, List.cons_append, List.nil_append]
    have e1 : (dbl ∘ line) = fun r => line (sent1 r) := funext fun r => dbl_line r
    have e2 : dbl (line pRow) = line pRow := by decide
    have e3 : dbl (List.replicate k 46) = List.replicate (2 * k) 46 := by
      have : k = 0 ∨ k = 1 := by omega
      rcases this with rfl | rfl <;> rfl
    rw [e1, e2, e3]
    rfl
  · intro q hq c hc
    rw [List.append_assoc, List.mem_append] at hq
    rcases hq with hq | hq
    · exact (lines_clean h q (List.mem_append_left _ hq) c hc).1
    · simp only [List.mem_append, List.mem_cons, List.not_mem_nil, or_false] at hq
      rcases hq with rfl | rfl | rfl | rfl | rfl
      · cases hc
      · revert c hc; decide
      · revert c hc; decide
      · revert c hc; decide
      · exact (rep_clean k c hc).1
theorem sent1_ok {r : Row} (h : Ok r.1 ∧ Ok r.2) (hl : r.1.length < 100) : Ok (sent1 r).1 ∧ Ok (sent1 r).2 := by
  refine ⟨⟨fun a ha => ?_, ?_⟩, h.2⟩
  · unfold sent1 dbl at ha
    dsimp only at ha
    split at ha
    · rename_i t e
      rcases List.mem_cons.mp ha with rfl | ha
      · decide
      · rw [← e] at ha; exact h.1.ch a ha
    · exact h.1.ch a ha
  · unfold sent1 dbl
    dsimp only
    split
    · rename_i t e
      rw [e] at hl; simp at hl ⊢; omega
    · omega
theorem linesL_clean {rows : List Row} (h : ∀ r ∈ rows, Ok r.1 ∧ Ok r.2) (hl : ∀ r ∈ rows, r.1.length < 100) (k : Nat) : ∀ q ∈ linesL rows k, (13 : Nat) ∉ q := fun q hq hc => by
  unfold linesL six at hq
  rw [List.mem_append] at hq
  rcases hq with hq | hq
  · obtain ⟨r, hr, rfl⟩ := List.mem_map.mp hq
    exact (line_clean (sent1_ok (h r hr) (hl r hr)) 13 hc).2 rfl
  · simp only [List.mem_cons, List.not_mem_nil, or_false] at hq
    rcases hq with rfl | rfl | rfl | rfl | rfl | rfl
    · revert hc; decide
    · cases hc
    · revert hc; decide
    · revert hc; decide
    · revert hc; decide
    · exact (rep_clean _ 13 hc).2 rfl
theorem split_line {r : Row} (h : Ok r.1) (h2 : Ok r.2) : Txt.split (tx (line r)) (tx [58, 32]) = [tx r.1, tx r.2] := by
  have := split_tx (s0 := 58) (s := [32]) (by decide) r.1 [r.2] fun q hq => by
    have ok : ∀ a, okc a = true → a ≠ 58 := fun a ha => by rcases okc_cases ha with h | h | h | h | h | h | h <;> subst h <;> decide
    simp only [List.mem_cons, List.not_mem_nil, or_false] at hq
    rcases hq with rfl | rfl
    · exact fun z => ok 58 (h.ch _ z) rfl
    · exact fun z => ok 58 (h2.ch _ z) rfl
  have e : line r = joinL [58, 32] [r.1, r.2] := by simp [line, joinL]
  rw [e, this]; rfl
theorem mailL_eq (rows : List Row) (z : List Nat) (k : Nat) : tx (mailL rows z k) = tx (joinL z ((rows ++ [pRow]).map line ++ [[], []])) ++ tx [46, 13, 46, 10, 46, 12, 46, 13, 10] ++ tx (List.replicate k [46]).flatten := by
  rw [tx_append, tx_append]
  have : (List.replicate k [46]).flatten = List.replicate k 46 := by
    induction k with
    | zero => rfl
    | succ k ih => rw [List.replicate_succ, List.flatten_cons, ih]; rfl
  rw [this]
  simp [mailL, tailL]
theorem joinL_len (z : List Nat) (hz : z.length ≤ 2) : ∀ (ps : List (List Nat)), (∀ q ∈ ps, q.length ≤ 202) → (joinL z ps).length ≤ ps.length * 204
  | [], _ => by simp [joinL]
  | p :: ps, h => by
    have := sum_le (fun q : List Nat => (z ++ q).length) 204 ps fun q hq => by have := h q (.tail _ hq); simp; omega
    have h0 := h p (.head _)
    show (p ++ ps.flatMap (z ++ ·)).length ≤ _
    rw [List.length_append, List.length_flatMap]
    simp only [List.length_cons, Nat.add_mul]
    omega
theorem mailL_len {rows : List Row} (h : Oks rows) (z : List Nat) (hz : z.length ≤ 2) (k : Nat) (hk : k < 2) : (mailL rows z k).length ≤ 6000 := by
  have := joinL_len z hz ((rows ++ [pRow]).map line ++ [[], []]) fun q hq => by
    rw [List.mem_append] at hq
    rcases hq with hq | hq
    · obtain ⟨r, hr, rfl⟩ := List.mem_map.mp hq
      rw [List.mem_append] at hr
      rcases hr with hr | hr
      · exact line_len (h.ok r hr)
      · simp only [List.mem_cons, List.not_mem_nil, or_false] at hr
        subst hr; decide
    · simp only [List.mem_cons, List.not_mem_nil, or_false, or_self] at hq
      subst hq; decide
  have := h.len
  unfold mailL tailL
  simp at *
  omega
theorem mailL_ascii {rows : List Row} (h : Oks rows) (z : List Nat) (hz : ∀ a ∈ z, a < 128) (k : Nat) : ∀ a ∈ mailL rows z k, a < 128 := fun a ha => by
  have hl : ∀ q ∈ (rows ++ [pRow]).map line ++ [[], []], ∀ c ∈ q, c < 128 := fun q hq c hc => by
    rw [List.mem_append] at hq
    rcases hq with hq | hq
    · obtain ⟨r, hr, rfl⟩ := List.mem_map.mp hq
      have ok : Ok r.1 ∧ Ok r.2 := by
        rw [List.mem_append] at hr
        rcases hr with hr | hr
        · exact h.ok r hr
        · simp only [List.mem_cons, List.not_mem_nil, or_false] at hr
          subst hr; exact pOk_row
      unfold line at hc
      simp only [List.mem_append, List.mem_cons, List.not_mem_nil, or_false] at hc
      rcases hc with (hc | rfl | rfl) | hc
      · exact ok.1.ascii c hc
      · decide
      · decide
      · exact ok.2.ascii c hc
    · simp only [List.mem_cons, List.not_mem_nil, or_false, or_self] at hq
      subst hq; cases hc
  unfold mailL tailL at ha
  simp only [List.mem_append] at ha
  rcases ha with ha | ha | ha
  · generalize (rows ++ [pRow]).map line ++ [[], []] = ps at ha hl
    cases ps with
    | nil => cases ha
    | cons p ps =>
      unfold joinL at ha
      rw [List.mem_append] at ha
      rcases ha with ha | ha
      · exact hl p (.head _) a ha
      · obtain ⟨q, hq, hb⟩ := List.mem_flatMap.mp ha
        rw [List.mem_append] at hb
        rcases hb with hb | hb
        · exact hz a hb
        · exact hl q (.tail _ hq) a hb
  · revert a ha; decide
  · rw [(List.mem_replicate.mp ha).2]; decide
theorem eols_ascii : ∀ (t : List Nat), (∀ a ∈ t, a < 128) → ∀ a ∈ eols t, a < 128
  | [], _, a, h => by cases h
  | [c], h, a, ha => by
    unfold eols at ha
    split at ha
    · revert a ha; decide
    · exact h a ha
  | c :: d :: r, h, a, ha => by
    have h1 := eols_ascii r fun b hb => h b (.tail _ (.tail _ hb))
    have h2 := eols_ascii (d :: r) fun b hb => h b (.tail _ hb)
    unfold eols at ha
    split at ha
    · rcases List.mem_cons.mp ha with rfl | ha
      · decide
      · rcases List.mem_cons.mp ha with rfl | ha
        · decide
        · exact h1 a ha
    · split at ha
      · rcases List.mem_cons.mp ha with rfl | ha
        · decide
        · rcases List.mem_cons.mp ha with rfl | ha
          · decide
          · exact h2 a ha
      · rcases List.mem_cons.mp ha with rfl | ha
        · exact h _ (.head _)
        · exact h2 a ha
theorem dots_ascii : ∀ (t : List Nat) (b : Bool), (∀ a ∈ t, a < 128) → ∀ a ∈ dots b t, a < 128
  | [], b, _, a, h => by cases b <;> cases h
  | c :: r, b, h, a, ha => by
    have h1 := dots_ascii r false fun b hb => h b (.tail _ hb)
    have h2 := dots_ascii r (c == 10) fun b hb => h b (.tail _ hb)
    unfold dots at ha
    split at ha
    · rcases List.mem_cons.mp ha with rfl | ha
      · decide
      · rcases List.mem_cons.mp ha with rfl | ha
        · decide
        · exact h1 a ha
    · rcases List.mem_cons.mp ha with rfl | ha
      · exact h _ (.head _)
      · exact h2 a ha
end
section
theorem fm_congr {α β : Type} {f g : α → Option β} : ∀ {l : List α}, (∀ a ∈ l, f a = g a) → l.filterMap f = l.filterMap g
  | [], _ => rfl
  | a :: l, h => by rw [List.filterMap_cons, List.filterMap_cons, h a (.head _), fm_congr fun b hb => h b (.tail _ hb)]
theorem op_neg_int {c : Cx} {x : V} {i : Int} {m : Loc} {led : Led} {Q : V → Loc → Led → Prop} (hx : IsI_ x i) (q : Q (.int (-i)) m led) : A1 c R (unaryOp .USub) x m led Q := fun bg s Z a B S ra => by
  obtain ⟨t, rfl⟩ := hx.of ra
  exact P.neg_int (Post.int S q)
section
variable {P : Params} {n : Nat} {led : Led} {Q : V → Led → Prop} {prog : Program} {w : World}
theorem FS.drop {prog : Program} {w : World} {K : Frag} {n : Nat} {f : Value} {args : List V} {kw : List (Str × V)} {led : Led} {Q : V → Led → Prop} (h : FS prog w K n f args kw led fun r led' => Ext led led' ∧ Q r led) : FS prog w K n f args kw led Q := by
  intro A env bg s Z m as ks oA B S ra rk
  refine codeAny_mono (h A env bg s Z m as ks oA B S ra rk) (RC.mono fun v s' p => ?_)
  obtain ⟨r, led', Z', z, e, S', r', x, q⟩ := p
  exact ⟨r, led, Z', z, e, S'.lessLed x, r', q⟩
noncomputable def parse? : V → Option V
  | .str s => some (.tup ((Txt.split s (tx [58, 32])).map .str))
  | _ => none
theorem strOk_tx (l : List Nat) (h : ∀ a ∈ l, a < 128) : PyData.strOk (tx l) = true := by
  unfold PyData.strOk tx
  simp
  intro a ha
  have := h a ha
  omega
theorem plain_strs (ls : List (List Nat)) (h : ∀ l ∈ ls, ∀ a ∈ l, a < 128) : Plain (ls.map fun l => .str (tx l)) := by
  have h1 : ∀ (ls : List (List Nat)), (∀ l ∈ ls, ∀ a ∈ l, a < 128) → pOks (ls.map fun l => .str (tx l)) = true := by
    intro ls
    induction ls with
    | nil => intro _; rfl
    | cons l ls ih =>
      intro h
      rw [List.map_cons]
      show (PyData.strOk (tx l) && pOks _) = true
      rw [strOk_tx l (h l (.head _)), ih fun q hq => h q (.tail _ hq)]; rfl
  have h2 : ∀ (ls : List (List Nat)), PyData.depthAll (pds (ls.map fun l => .str (tx l))) = 0 := by
    intro ls
    induction ls with
    | nil => rfl
    | cons l ls ih =>
      rw [List.map_cons]
      show max (PyData.depth (.str (tx l))) (PyData.depthAll (pds _)) = 0
      rw [ih]; rfl
  exact ⟨h1 ls h, by rw [h2]; exact Nat.zero_le _⟩
theorem fmod_nat (a b : Nat) : Int.fmod (a : Int) (b : Int) = ((a % b : Nat) : Int) := by
  rw [Int.fmod_eq_emod_of_nonneg _ (Int.natCast_nonneg b)]; exact (Int.natCast_emod a b).symm
theorem fs_sent {x : V} {rows : List Row} (hl : IsL led x (rows.map rv)) (hr : Oks rows) (hr1 : rows.length ≤ 19) (hr2 : ∀ r ∈ rows, r.1.length < 100) (wv : Nat) (q : Q (.lst ((rows.map sent1).map rv)) led) : FS prog w (Mine.hd.heap_39 P) (n+14) (.ref 251) [x, .int wv] [] led Q := by
  refine FS.drop ?_
  refine fs_def (m₀ := [("pairs", x), ("way", .int wv)]) (by k_is) (by k_is) ?_ ?_ ?_ ?_ ?_ ?_ ?_ ?_
  walk_at "fs"
  intro A L oA
  have hz := hr.len
  walk_at "go"
  walk_at "ct"
  walk_at "go"
  walk_at "cf"
  walk_at "go"
  refine list_ ?_
  walk_at "go"
  refine ⟨by rw [sizeLine_eq]; exact (by decide : 2 ≤ 16777216), ?_⟩
  walk_at "go"
  refine ⟨by rw [sizeLine_eq]; exact (by decide : 1 ≤ 16777216), ?_⟩
  refine op_add_list hl .lst (by simp; omega) ?_
  walk_at "go"
  have e1 : (rows.map rv ++ [.tup [.str (Str.ofString "p"), .str (Str.ofString "..p")]]) = (rows ++ [pRow]).map rv := by rw [List.map_append]; rfl
  rw [e1]
  have ok2 : Oks (rows ++ [pRow]) := ⟨fun r h => by
    rw [List.mem_append] at h
    rcases h with h | h
    · exact hr.ok r h
    · simp only [List.mem_cons, List.not_mem_nil, or_false] at h
      subst h; exact pOk_row, by simp; omega⟩
  refine ca_of (n := n + 13) ((fs_make_l (n := n) .lst ok2 True.intro (fun b e => by cases e) fun y dx led' hx hD => ?_).up (by omega)) oA
  walk_at "go"
  refine ca_str_txt hD.isI (by have := oA.hu; dsimp only; omega) (by walk_at "is") (by walk_at "is") ?_
  refine ca_of (n := n + 11) ((fs_str (n := n) hD ok2 ?_).up (by omega)) (OkA.in1 (OkA.in1 oA))
  refine ⟨_, .txt, ?_⟩
  refine ⟨_, gm_txt .txt F.slot_str_replace ty_replace, keep_builtin, ?_⟩
  walk_at "go"
  refine ev_sub ?_ fun o b => ⟨_, rfl⟩
  refine list_ ?_
  walk_at "go"
  refine ⟨by rw [sizeLine_eq]; exact (by decide : 3 ≤ 16777216), ?_⟩
  walk_at "go"
  refine op_mod_int .int .int (by decide) ?_
  have ez : ([.str (Str.ofString "\r\n"), .str (Str.ofString "\n"), .str (Str.ofString "\r")] : List V)[wv % 3]? = some (.str (tx (zOf (wv % 3)))) := by
    have : wv % 3 = 0 ∨ wv % 3 = 1 ∨ wv % 3 = 2 := by omega
    rcases this with h | h | h <;> (rw [h]; rfl)
  refine ⟨.inl ⟨_, .lst⟩, op_item_list (k := wv % 3) .lst .int (fmod_nat wv 3) (by exact (by decide : 3 ≤ 16777216)) ez ?_⟩
  walk_at "go"
  have hzl : (zOf (wv % 3)).length ≤ 2 := by rcases zOf_ok (wv % 3) with h | h | h <;> (rw [h]; decide)
  have hzc : ∀ a ∈ zOf (wv % 3), a < 128 := by rcases zOf_ok (wv % 3) with h | h | h <;> (rw [h]; decide)
  have hk : wv % 2 < 2 := by omega
  have ht := text_len ok2
  refine ca_replace .txt ?_ ?_
  · rw [tx_length, tx_length]
    have : ((text (rows ++ [pRow])).length + 1) * (zOf (wv % 3)).length ≤ 5001 * 2 := Nat.mul_le_mul (by omega) hzl
    omega
  have hcl := lines_clean (rows := rows) (fun r h => hr.ok r h)
  have er : Txt.replace (tx (text (rows ++ [pRow]))) (Str.ofString "\r\n") (tx (zOf (wv % 3))) = tx (joinL (zOf (wv % 3)) ((rows ++ [pRow]).map line ++ [[], []])) := by
    rw [← join_rows, crlf]
    have hne : (rows ++ [pRow]).map line ++ [[], []] ≠ [] := by simp
    generalize (rows ++ [pRow]).map line ++ [[], []] = ps at hcl hne
    cases ps with
    | nil => exact absurd rfl hne
    | cons p ps => exact replace_tx p ps fun q hq hc => (hcl q hq 13 hc).2 rfl
  rw [er]
  walk_at "go"
  have hm := mailL_len hr (zOf (wv % 3)) hzl (wv % 2) hk
  refine op_add_txt .txt .str ?_ ?_
  · have h1 : (tx (joinL (zOf (wv % 3)) ((rows ++ [pRow]).map line ++ [[], []]))).length ≤ (mailL rows (zOf (wv % 3)) (wv % 2)).length := by
      rw [tx_length]; unfold mailL; rw [List.length_append]; omega
    have h2 : (Str.ofString ".\r.\n.\x0c.\r\n").length = 9 := by rfl
    rw [h2]; omega
  walk_at "go"
  refine op_mod_int .int .int (by decide) ?_
  rw [show Int.fmod (wv : Int) 2 = ((wv % 2 : Nat) : Int) from fmod_nat wv 2]
  refine op_mul_str (l := [46]) (by decide) (by omega) ?_
  have em : tx (joinL (zOf (wv % 3)) ((rows ++ [pRow]).map line ++ [[], []])) ++ Str.ofString ".\r.\n.\x0c.\r\n" ++ tx (List.replicate (wv % 2) [46]).flatten = tx (mailL rows (zOf (wv % 3)) (wv % 2)) := (mailL_eq _ _ _).symm
  refine op_add_txt .txt .str ?_ ?_
  · rw [← Str.length_append, em, tx_length]; omega
  rw [em]
  have est := sent_text (rows := rows) (fun r h => hr.ok r h) (zOf (wv % 3)) (zOf_ok _) (wv % 2) hk
  have hma := mailL_ascii hr (zOf (wv % 3)) hzc (wv % 2)
  have hea := eols_ascii _ hma
  have hel := eols_len (mailL rows (zOf (wv % 3)) (wv % 2))
  have hsl := dots_len (eols (mailL rows (zOf (wv % 3)) (wv % 2))) true
  have hsa := dots_ascii _ true hea
  generalize mailL rows (zOf (wv % 3)) (wv % 2) = M at hm est hma hea hel hsl hsa
  have hne : dots true (eols M) ≠ [] := by
    rw [est]; unfold linesL six
    intro z
    have := congrArg List.length z
    cases rows with
    | nil => revert this; simp [joinL, line, pRow]
    | cons r rs => simp [joinL, line] at this
  iterate 3 walk_at "st"
  refine AW.mono (Q := fun f m' l' => f = .next ∧ Less [("sent", .txt (tx (dots true (eols M)))), ("way", .int wv)] m' ∧ l' = led') ?_ ?_
  · walk_at "go"
    refine op_mod_int .int .int (by decide) ?_
    walk_at "go"
    refine op_lt_int .int .int ?_
    refine ⟨_, rfl, ?_⟩
    split
    · walk_at "go"
      walk_at "cf"
      walk_at "go"
      refine ca_of (n := n + 13) ((fs_quotedata (n := n) .txt (by omega) ?_).up (by omega)) oA
      walk_at "go"
      exact ⟨rfl, by walk_at "ls", rfl⟩
    · walk_at "go"
      walk_at "cf"
      walk_at "go"
      walk_at "cf"
      walk_at "go"
      refine ca_of (n := n + 13) ((fs_fix (n := n) .txt (by omega) ?_).up (by omega)) oA
      refine ⟨_, gm_txt .txt F.slot_str_encode ty_encode, keep_builtin, ?_⟩
      walk_at "go"
      refine ca_encode .txt (.inl rfl) hea (by omega) ?_
      walk_at "go"
      refine ca_of (n := n + 13) ((fs_periods (n := n) hea (by omega) ?_).up (by omega)) oA
      refine ⟨_, gm_bytes FB.slot_bytes_decode ty_decode, keep_builtin, ?_⟩
      walk_at "go"
      refine ca_decode hne hsa (by omega) ?_
      walk_at "go"
      exact ⟨rfl, by walk_at "ls", rfl⟩
  rintro f m' l' ⟨rfl, h2, rfl⟩
  walk_at "st"
  refine AW.less ?_ h2
  rw [est] at hsa hsl ⊢
  walk_at "go"
  refine ⟨_, gm_txt .txt F.slot_str_split ty_split, keep_builtin, ?_⟩
  walk_at "go"
  have hl13 := linesL_clean (fun r h => hr.ok r h) hr2 (wv % 2)
  have hll : (linesL rows (wv % 2)).length = rows.length + 6 := by unfold linesL six; simp
  have esp : Txt.split (tx (joinL [13, 10] (linesL rows (wv % 2)))) (Str.ofString "\r\n") = (linesL rows (wv % 2)).map tx := by
    rw [crlf]
    generalize linesL rows (wv % 2) = ps at hl13 hll
    cases ps with
    | nil => simp at hll
    | cons p ps => exact split_tx (by decide) p ps hl13
  refine ca_split .txt .str (by rfl) (by rw [tx_length]; omega) (by rw [esp, List.length_map]; omega) ?_ (.inr (by rw [esp, List.length_map]; omega))
  rw [esp, List.map_map]
  have hlm : (List.map (V.str ∘ tx) (linesL rows (wv % 2))).length = rows.length + 6 := by rw [List.length_map, hll]
  have hdrop : pick (List.map (V.str ∘ tx) (linesL rows (wv % 2))) (some (-6)) none none = (six (wv % 2)).map fun l => .str (tx l) := by
    rw [pick_last6 _ (by omega), hlm, ← List.map_drop]
    unfold linesL
    rw [List.drop_left' (by simp)]; rfl
  have htake : pick (List.map (V.str ∘ tx) (linesL rows (wv % 2))) none (some (-6)) none = rows.map fun r => .str (tx (line (sent1 r))) := by
    rw [pick_but6 _ (by omega), hlm, ← List.map_take]
    unfold linesL
    rw [List.take_left' (by simp), List.map_map]; rfl
  walk_at "go"
  refine ev_slice ?_ fun o b => ⟨_, rfl⟩
  walk_at "go"
  refine op_neg_int .int ?_
  refine ⟨-6, .inl rfl, ?_⟩
  walk_at "go"
  refine ⟨.inl ⟨_, .lst⟩, gs_list .lst (by omega) (by decide) ?_⟩
  rw [hdrop]
  refine list_ ?_
  walk_at "go"
  refine op_mod_int .int .int (by decide) ?_
  rw [show Int.fmod (wv : Int) 2 = ((wv % 2 : Nat) : Int) from fmod_nat wv 2]
  refine op_mul_str (l := [46, 46]) (by decide) (by omega) ?_
  walk_at "go"
  refine ⟨by rw [sizeLine_eq]; exact (by decide : 6 ≤ 16777216), ?_⟩
  have e6 : [V.str (Str.ofString "p: ..p"), V.str (Str.ofString ""), V.str (Str.ofString ".."), V.str (Str.ofString ".."), V.str (Str.ofString "..\x0c."), V.str (tx (List.replicate (wv % 2) [46, 46]).flatten)] = (six (wv % 2)).map fun l => .str (tx l) := by
    have : wv % 2 = 0 ∨ wv % 2 = 1 := by omega
    rcases this with h | h <;> (rw [h]; rfl)
  have p6 : Plain ((six (wv % 2)).map fun l => .str (tx l)) := plain_strs _ fun l hl => by
    have : wv % 2 = 0 ∨ wv % 2 = 1 := by omega
    rcases this with h | h <;> (rw [h] at hl; revert l; decide)
  rw [e6]
  refine op_ne_list .lst .lst p6 p6 (by have := oA.hu; dsimp only; omega) ?_
  rw [eqvs_same _ p6.1]
  refine ⟨_, rfl, ?_⟩
  rw [if_neg (by decide)]
  walk_at "go"
  refine ev_comp oA.hh rfl rfl (by decide) ?_ fun _ => rfl
  refine ev_slice ?_ fun o b => ⟨_, rfl⟩
  walk_at "go"
  refine op_neg_int .int ?_
  refine ⟨-6, .inl rfl, ?_⟩
  walk_at "go"
  refine ⟨.inl ⟨_, .lst⟩, gs_list .lst (by omega) (by decide) ?_⟩
  rw [htake]
  have hsr : ∀ r ∈ rows, Ok (sent1 r).1 ∧ Ok (sent1 r).2 := fun r h => sent1_ok (hr.ok r h) (hr2 r h)
  refine ⟨_, _, none, [], parse?, src_list, True.intro, fun led' e => True.intro, ?_, by walk_at "clo", by walk_at "ful", fun C cl' i d led' he hx hcl => ?_, ?_⟩
  · rw [sizeLine_eq, List.length_map]; omega
  · subst hcl
    obtain ⟨r, h1, rfl⟩ : ∃ r, r ∈ rows ∧ d = .str (tx (line (sent1 r))) := by
      have := List.mem_of_getElem? he
      obtain ⟨r, h1, h2⟩ := List.mem_map.mp this
      exact ⟨r, h1, h2.symm⟩
    have ok := hsr r h1
    have es : Txt.split (tx (line (sent1 r))) (tx [58, 32]) = [tx (sent1 r).1, tx (sent1 r).2] := split_line ok.1 ok.2
    refine each_nil ?_
    walk_at "go"
    walk_at "ct"
    walk_at "go"
    refine ⟨_, gm_str F.slot_str_split ty_split, keep_builtin, ?_⟩
    walk_at "go"
    have := line_len ok
    refine ca_split .str .str (by rfl) (by rw [tx_length]; omega) (by rw [colon, es]; exact (by decide : 2 ≤ 16777216)) ?_ (.inl rfl)
    walk_at "go"
    refine ca_tuple .lst (by rw [colon, es]; exact (by decide : 2 ≤ 16777216)) ?_
    walk_at "go"
    exact ⟨by walk_at "ls", rfl, rfl⟩
  · walk_at "go"
    refine ⟨hx, ?_⟩
    have : (rows.map fun r => V.str (tx (line (sent1 r)))).filterMap parse? = (rows.map sent1).map rv := by
      rw [List.filterMap_map, List.map_map, ← List.filterMap_eq_map]
      refine fm_congr fun r h => ?_
      have ok := hsr r h
      show some (V.tup ((Txt.split (tx (line (sent1 r))) (tx [58, 32])).map .str)) = _
      rw [split_line ok.1 ok.2]; rfl
    rw [this]; exact q
end
end
section
section
variable {P : Params} {n : Nat} {led : Led} {Q : V → Led → Prop} {prog : Program} {w : World}
noncomputable def between? (f place : Int) : V → Option V
  | .int w => if decide (f ≤ w) = true then (if decide (w ≤ place) = true then some (.int w) else none) else none
  | _ => none
theorem between_int (f place w : Int) : between? f place (.int w) = if decide (f ≤ w) = true then (if decide (w ≤ place) = true then some (.int w) else none) else none := rfl
noncomputable def crowd? (ws : List Nat) (place : Nat) : V → Option V
  | .int f => some (.int ((((ws.map fun w : Nat => V.int (w : Int)).filterMap (between? f place)).length : Int) + f - place))
  | _ => none
theorem rints_at {a : Int} {n i : Nat} {d : V} (h : (rints a n)[i]? = some d) : i < n ∧ d = .int (a + (i : Nat)) := by
  unfold rints at h
  rw [List.getElem?_map] at h
  by_cases hi : i < n
  · rw [List.getElem?_range hi] at h; cases h; exact ⟨hi, rfl⟩
  · rw [List.getElem?_eq_none (by simp; omega)] at h; cases h
noncomputable def crowds (ws : List Nat) (place k : Nat) : List Int := (List.range k).map fun j => (cnt (1 + j) place ws : Int) + (1 + (j : Nat)) - (place : Nat)
theorem between_cnt (f place : Nat) : ∀ ws : List Nat, ((ws.map fun w : Nat => V.int (w : Int)).filterMap (between? (f : Nat) (place : Nat))).length = cnt f place ws
  | [] => rfl
  | w :: ws => by
    have ih := between_cnt f place ws
    unfold cnt at *
    rw [List.map_cons, List.filterMap_cons, List.filter_cons]
    by_cases h1 : f ≤ w
    · by_cases h2 : w ≤ place
      · have : between? (f : Nat) (place : Nat) (V.int (w : Int)) = some (.int w) := by rw [between_int, if_pos (by simp; omega), if_pos (by simp; omega)]
        rw [this, if_pos (by simp; omega)]
        simp only [List.length_cons, ih]
      · have : between? (f : Nat) (place : Nat) (V.int (w : Int)) = none := by rw [between_int, if_pos (by simp; omega), if_neg (by simp; omega)]
        rw [this, if_neg (by simp; omega)]
        exact ih
    · have : between? (f : Nat) (place : Nat) (V.int (w : Int)) = none := by rw [between_int, if_neg (by simp; omega)]
      rw [this, if_neg (by simp; omega)]
      exact ih
theorem crowds_eq (ws : List Nat) (i : Nat) : (rints 1 (i + 1)).filterMap (crowd? ws (1 + (i : Nat))) = (crowds ws (1 + i) (i + 1)).map .int := by
  unfold rints crowds
  rw [List.filterMap_map, List.map_map, ← List.filterMap_eq_map]
  refine fm_congr fun j _ => ?_
  show some (V.int _) = some (V.int _)
  have : ((1 : Int) + (j : Nat)) = ((1 + j : Nat) : Int) := by omega
  rw [this, between_cnt]
  dsimp only
  rw [this]
theorem max_taken {ws : List Nat} {i : Nat} {M : Int} (h1 : M ∈ crowds ws (1 + i) (i + 1)) (h2 : ∀ a ∈ crowds ws (1 + i) (i + 1), a ≤ M) : 0 < M ↔ takenP ws (1 + i) (1 + i) 0 = true := by
  rw [takenP_iff ws (1 + i) (1 + i) 0 (Nat.le_refl _) (cnt_over _ _).symm]
  unfold crowds at h1 h2
  constructor
  · intro h
    obtain ⟨j, hj, rfl⟩ := List.mem_map.mp h1
    rw [List.mem_range] at hj
    exact ⟨1 + j, by omega, by omega, by omega⟩
  · rintro ⟨f, a, b, c⟩
    have := h2 _ (List.mem_map.mpr ⟨f - 1, List.mem_range.mpr (by omega), rfl⟩)
    rw [show 1 + (f - 1) = f by omega] at this
    omega
theorem tk_step (ws : List Nat) (i : Nat) : tk ws (i + 1) = if takenP ws (1 + i) (1 + i) 0 = true then tk ws i ++ [1 + i] else tk ws i := by
  unfold tk
  rw [List.range'_concat, List.filter_append, Nat.one_mul, List.filter_cons]
  split <;> simp
theorem tk_len (ws : List Nat) (i : Nat) : (tk ws i).length ≤ i := by
  unfold tk
  exact Nat.le_trans (List.length_filter_le _ _) (by simp)
theorem fs_places {x : V} {ws : List Nat} (hl : IsL led x (ws.map fun w : Nat => V.int (w : Int))) (hz : ws.length ≤ 100) (q : ∀ led' a, led a = none → led' = upd led a (.list ((tk ws 9).map fun p : Nat => V.int (p : Int))) → Q (.own a) led') : FS prog w (Mine.hd.heap_39 P) (n+1) (.ref 280) [x] [] led Q := by
  refine fs_def (m₀ := [("wishes", x)]) (by k_is) (by k_is) ?_ ?_ ?_ ?_ ?_ ?_ ?_ ?_
  walk_at "fs"
  intro A L oA
  walk_at "go"
  refine list_own ?_
  walk_at "go"
  refine ⟨Nat.zero_le _, fun a ha => ?_⟩
  walk_at "go"
  refine ex_for oA.hh ?_ fun _ => rfl
  walk_at "go"
  walk_at "ct"
  walk_at "go"
  refine ca_range2 .int .int ?_
  refine ⟨_, _, src_range (n := 9) (.inl (by decide)) (by decide) (by decide) (by decide) (by decide), fun i m led' => Less [("wishes", x), ("taken", .own a)] m ∧ led' = upd led a (.list ((tk ws i).map fun p : Nat => V.int (p : Int))), ⟨by walk_at "ls", rfl⟩, fun i m led' h' => True.intro, fun i d m led' he h' => ?_, fun m led' h' => ?_⟩
  · obtain ⟨h1, rfl⟩ := h'
    obtain ⟨hi, rfl⟩ := rints_at he
    refine A1.less ?_ h1
    walk_at "go"
    refine ex_assign_comp oA.hh rfl rfl (by decide) ?_ (fun _ => rfl) rfl
    walk_at "go"
    walk_at "ct"
    walk_at "go"
    refine op_add_int .int .int ?_
    walk_at "go"
    refine ca_range2 .int .int ?_
    have hl' : IsL (upd led a (.list ((tk ws i).map fun p : Nat => V.int (p : Int)))) x (ws.map fun w : Nat => V.int (w : Int)) := hl.ext (ext_upd ha)
    refine ⟨_, _, some "first", [("wishes", x), ("place", .int (1 + (i : Nat)))], crowd? ws (1 + i), src_range (n := i + 1) (.inl (by omega)) (by omega) (by omega) (by omega) (by omega), True.intro, fun led' e => True.intro, ?_, by walk_at "clo", by walk_at "ful", fun C cl' j d led' he hx hcl => ?_, ?_⟩
    · rw [sizeLine_eq]; unfold rints; simp; omega
    · subst hcl
      obtain ⟨hj, rfl⟩ := rints_at he
      refine each_nil ?_
      walk_at "go"
      walk_at "cb"
      walk_at "go"
      refine ev_comp oA.hh rfl rfl (by decide) ?_ fun _ => rfl
      walk_at "go"
      have hl2 := hl'.ext hx
      refine ⟨_, _, none, [("first", .int (1 + (j : Nat))), ("place", .int (1 + (i : Nat)))], between? (1 + (j : Nat)) (1 + (i : Nat)), src_isl hl2, hl2, fun led' e => hl2.ext e, ?_, by walk_at "clo", by walk_at "ful", fun C2 cl2 k d2 led2 he2 hx2 hcl2 => ?_, ?_⟩
      · rw [sizeLine_eq, List.length_map]; omega
      · subst hcl2
        obtain ⟨w, hw, rfl⟩ : ∃ w : Nat, w ∈ ws ∧ d2 = .int (w : Int) := by
          have := List.mem_of_getElem? he2
          obtain ⟨r, h1, h2⟩ := List.mem_map.mp this
          exact ⟨r, h1, h2.symm⟩
        unfold Each
        walk_at "go"
        refine tr_chain ?_ rfl
        walk_at "go"
        refine op_le_int .int .int ?_
        refine ⟨_, rfl, ?_⟩
        rw [between_int]
        by_cases e1 : decide ((1 : Int) + (j : Nat) ≤ w) = true
        · rw [if_pos e1, if_pos e1]
          walk_at "go"
          refine op_le_int .int .int ?_
          refine ⟨_, rfl, ?_⟩
          by_cases e2 : decide ((w : Int) ≤ 1 + (i : Nat)) = true
          · rw [if_pos e2, if_pos e2]
            walk_at "go"
            exact ⟨by walk_at "ls", rfl, rfl⟩
          · rw [if_neg e2, if_neg e2]
            exact ⟨by walk_at "ls", rfl, rfl⟩
        · rw [if_neg e1, if_neg e1, if_neg (by decide)]
          exact ⟨by walk_at "ls", rfl, rfl⟩
      · walk_at "go"
        refine ca_len .lst ?_ ?_
        · exact Nat.le_trans (List.length_filterMap_le _ _) (by rw [List.length_map]; omega)
        walk_at "go"
        refine op_add_int .int .int ?_
        walk_at "go"
        refine op_sub_int .int .int ?_
        exact ⟨by walk_at "ls", rfl, rfl⟩
    · walk_at "go"
      walk_at "cb"
      walk_at "go"
      have ecr : (rints 1 (i + 1)).filterMap (crowd? ws (1 + (i : Nat))) = (crowds ws (1 + i) (i + 1)).map .int := crowds_eq ws i
      rw [ecr]
      refine ca_max oA.hh .lst (Nums.int _) (by unfold crowds; simp) fun M hM1 hM2 => ?_
      walk_at "go"
      refine op_gt_int .num .int ?_
      refine ⟨_, rfl, ?_⟩
      have hiff := max_taken hM1 hM2
      have hstep := tk_step ws i
      by_cases hp : takenP ws (1 + i) (1 + i) 0 = true
      · rw [if_pos (decide_eq_true (hiff.mpr hp))]
        walk_at "go"
        refine ex_drop ?_ rfl rfl
        walk_at "go"
        refine ⟨_, gm_own (upd_eq _ _ _) F.slot_list_append ty_append, keep_builtin, ?_⟩
        walk_at "go"
        have htl := tk_len ws i
        refine ca_append (upd_eq _ _ _) (by rw [List.length_map]; omega) ?_
        refine ⟨.inl rfl, ?_⟩
        walk_at "go"
        rw [upd_upd, hstep, if_pos hp, List.map_append]
        exact ⟨by walk_at "ls", rfl⟩
      · rw [if_neg (by rw [decide_eq_true_eq]; exact fun h => hp (hiff.mp h))]
        walk_at "go"
        rw [hstep, if_neg hp]
        exact ⟨by walk_at "ls", rfl⟩
  · obtain ⟨h1, rfl⟩ := h'
    refine AW.less ?_ h1
    walk_at "go"
    exact q _ a ha rfl
end
end
section
noncomputable def carL (c : Nat) : List Nat := [97, 98, 99, 100].take c
noncomputable def cv (k : Car) : V := .tup [.int (k.1 : Nat), .str (tx [k.2.1]), .str (tx (carL k.2.2))]
theorem cv_at {l : List Car} {i : Nat} {d : V} (e : (l.map cv)[i]? = some d) : ∃ r, r ∈ l ∧ l[i]? = some r ∧ d = cv r := by
  rw [List.getElem?_map] at e
  cases h : l[i]? with
  | none => rw [h] at e; cases e
  | some r => rw [h] at e; cases e; exact ⟨r, List.mem_of_getElem? h, rfl, rfl⟩
theorem carL_ok (c : Nat) : Ok (carL c) := ⟨fun a h => by
  have h' : a ∈ [97, 98, 99, 100] := List.mem_of_mem_take h
  simp only [List.mem_cons, List.not_mem_nil, or_false] at h'
  rcases h' with rfl | rfl | rfl | rfl <;> decide, Nat.le_trans (List.length_take_le' _ _) (by decide)⟩
theorem pOk_cv {k : Car} (h : OkC k) : pOk (cv k) = true := by
  have h1 : PyData.strOk (tx [k.2.1]) = true := strOk_tx _ fun a ha => by
    simp only [List.mem_cons, List.not_mem_nil, or_false] at ha
    subst ha
    rcases h.l with e | e <;> rw [e] <;> decide
  have h2 : PyData.strOk (tx (carL k.2.2)) = true := strOk_tx _ (carL_ok _).ascii
  show (true && (PyData.strOk (tx [k.2.1]) && (PyData.strOk (tx (carL k.2.2)) && true))) = true
  rw [h1, h2]; rfl
theorem plain_cv : ∀ {l : List Car}, (∀ k ∈ l, OkC k) → Plain (l.map cv)
  | [], _ => ⟨rfl, Nat.zero_le _⟩
  | k :: l, h => by
    obtain ⟨h1, h2⟩ := plain_cv fun z hz => h z (.tail _ hz)
    refine ⟨?_, ?_⟩
    · show (pOk (cv k) && pOks (l.map cv)) = true
      rw [pOk_cv (h k (.head _)), h1]; rfl
    · show max (PyData.depth (pd (cv k))) (PyData.depthAll (pds (l.map cv))) ≤ 60
      exact Nat.max_le.mpr ⟨by show 1 ≤ 60; decide, h2⟩
noncomputable def here? (p : Nat) : V → Option V
  | .tup (.int q :: l) => if ((q == (p : Int)) = true) then some (.tup (.int q :: l)) else none
  | _ => none
noncomputable def away? (p : Nat) : V → Option V
  | .tup (.int q :: l) => if ((q != (p : Int)) = true) then some (.tup (.int q :: l)) else none
  | _ => none
theorem here_cv (p : Nat) (k : Car) : here? p (cv k) = if (((k.1 : Nat) : Int) == (p : Int)) = true then some (cv k) else none := rfl
theorem away_cv (p : Nat) (k : Car) : away? p (cv k) = if (((k.1 : Nat) : Int) != (p : Int)) = true then some (cv k) else none := rfl
theorem nat_beq_int (a b : Nat) : ((a : Int) == (b : Int)) = (a == b) := by
  by_cases h : a = b
  · subst h; simp
  · rw [beq_eq_false_iff_ne.mpr h, beq_eq_false_iff_ne.mpr (fun e => h (by omega))]
theorem here_all (p : Nat) : ∀ l : List Car, (l.map cv).filterMap (here? p) = (l.filter fun r => r.1 == p).map cv
  | [] => rfl
  | k :: l => by
    rw [List.map_cons, List.filterMap_cons, here_cv, List.filter_cons, here_all p l, nat_beq_int]
    by_cases h : (k.1 == p) = true
    · rw [if_pos h, if_pos h]; rfl
    · rw [if_neg h, if_neg h]
theorem away_all (p : Nat) : ∀ l : List Car, (l.map cv).filterMap (away? p) = (l.filter fun r => r.1 != p).map cv
  | [] => rfl
  | k :: l => by
    have e : (((k.1 : Nat) : Int) != (p : Int)) = (k.1 != p) := by unfold bne; rw [nat_beq_int]
    rw [List.map_cons, List.filterMap_cons, away_cv, List.filter_cons, away_all p l, e]
    by_cases h : (k.1 != p) = true
    · rw [if_pos h, if_pos h]; rfl
    · rw [if_neg h, if_neg h]
section
variable {P : Params} {n : Nat} {led : Led} {Q : V → Led → Prop} {prog : Program} {w : World}
theorem fdiv_nat (a b : Nat) : Int.fdiv (a : Int) (b : Int) = ((a / b : Nat) : Int) := by
  rw [Int.fdiv_eq_ediv_of_nonneg _ (Int.natCast_nonneg b)]; exact (Int.natCast_ediv a b).symm
theorem parks_snoc (f : Nat) (k : Car) : ∀ (l : List Car) (s : List Car × Nat), parks f s (l ++ [k]) = park f 5 (parks f s l).1 (parks f s l).2 k
  | [], s => rfl
  | a :: l, s => parks_snoc f k l _
theorem mem_moved {lot : List Car} {p l c : Nat} {r : Car} (h : r ∈ lot) (e : r.1 = p) (q : Nat) : q ∈ pl lot ↔ q ∈ pl (lot.filter (fun r => r.1 != p) ++ [(p, l, c)]) := by
  unfold pl
  rw [List.map_append, List.mem_append]
  constructor
  · intro hq
    obtain ⟨z, hz, rfl⟩ := List.mem_map.mp hq
    by_cases hzp : z.1 = p
    · exact .inr (by rw [hzp]; exact .head _)
    · exact .inl (List.mem_map.mpr ⟨z, List.mem_filter.mpr ⟨hz, by simp [hzp]⟩, rfl⟩)
  · rintro (hq | hq)
    · obtain ⟨z, hz, rfl⟩ := List.mem_map.mp hq
      exact List.mem_map.mpr ⟨z, (List.mem_filter.mp hz).1, rfl⟩
    · simp only [List.map_cons, List.map_nil, List.mem_cons, List.not_mem_nil, or_false] at hq
      exact List.mem_map.mpr ⟨r, h, by rw [e, hq]⟩
theorem len_moved {lot : List Car} {p l c : Nat} {r : Car} (h : r ∈ lot) (e : r.1 = p) : (lot.filter (fun r => r.1 != p) ++ [(p, l, c)]).length ≤ lot.length := by
  have : (lot.filter (fun r => r.1 != p)).length < lot.length := List.length_filter_lt_length_iff_exists.mpr ⟨r, h, by simp [e]⟩
  rw [List.length_append]
  show _ + 1 ≤ _
  omega
theorem ok_moved {lot : List Car} {p l c : Nat} (ok : ∀ r ∈ lot, OkC r) (okc : OkC (p, l, c)) : ∀ r ∈ lot.filter (fun r => r.1 != p) ++ [(p, l, c)], OkC r := fun z hz => by
  rcases List.mem_append.mp hz with hz | hz
  · exact ok z (List.mem_filter.mp hz).1
  · simp only [List.mem_cons, List.not_mem_nil, or_false] at hz
    subst hz; exact okc
theorem park_none {f k mv p l c : Nat} {lot : List Car} (h : lot.filter (fun r => r.1 == p) = []) : park f (k + 1) lot mv (p, l, c) = (lot ++ [(p, l, c)], mv) := by
  have : lot.find? (fun r => r.1 == p) = none := by rw [← List.head?_filter, h]; rfl
  unfold park; rw [this]
theorem park_some {f k mv p l c : Nat} {lot rest : List Car} {r : Car} (h : lot.filter (fun r => r.1 == p) = r :: rest) : park f (k + 1) lot mv (p, l, c) = if figB f mv = true then park f k (lot.filter (fun r => r.1 != p) ++ [(p, l, c)]) (mv + 1) (p + 1, l, r.2.2) else park f k lot (mv + 1) (p + 1, l, c) := by
  have : lot.find? (fun r => r.1 == p) = some r := by rw [← List.head?_filter, h]; rfl
  show (match lot.find? (fun r => r.1 == p) with | none => _ | some r => _) = _
  rw [this]
theorem pylong_small (x : Int) (m : Nat) (h : m ≤ 110) : Builtin.divisionGoesByPylong x (((2 ^ m : Nat) : Int)) = false := by
  unfold Builtin.divisionGoesByPylong
  have h0 : (((2 ^ m : Nat) : Int) == 0) = false := by
    rw [beq_eq_false_iff_ne]
    have : 0 < 2 ^ m := Nat.two_pow_pos m
    omega
  have h1 : ((2 ^ m : Nat) : Int).natAbs.log2 = m := by rw [Int.natAbs_natCast, Nat.log2_two_pow]
  have hd : (if (((2 ^ m : Nat) : Int) == 0) = true then 0 else ((2 ^ m : Nat) : Int).natAbs.log2 / 30 + 1) ≤ 300 := by
    rw [h0, h1]
    simp only [Bool.false_eq_true, if_false]
    omega
  have fin : ∀ b, (decide ((if (((2 ^ m : Nat) : Int) == 0) = true then 0 else ((2 ^ m : Nat) : Int).natAbs.log2 / 30 + 1) > 300) && b) = false := fun b => by
    rw [decide_eq_false (Nat.not_lt.mpr hd)]; rfl
  exact fin _
theorem pow_fits (m : Nat) (h : m ≤ 110) : Builtin.Int.intBits 2 * m < 1000 := by
  have : Builtin.Int.intBits 2 = 2 := by decide
  rw [this]; omega
theorem two_pow_int (m : Nat) : (2 : Int) ^ m = ((2 ^ m : Nat) : Int) := by simp
theorem fig_eq (f mv : Nat) : ((((f / 2 ^ mv % 2 : Nat) : Int)) == 1) = figB f mv := by
  unfold figB
  exact nat_beq_int _ 1
theorem Ext.refl (led : Led) : Ext led led := fun _ _ e => e
theorem Ext.trans {a b c : Led} (h : Ext a b) (k : Ext b c) : Ext a c := fun x o e => k x o (h x o e)
theorem Ext.upd {led led' : Led} {a : Addr} {ao : AO} (h : Ext led led') (n : led a = none) : Ext led (Mine.upd led' a ao) := fun x o e => upd_ne (h x o e) (by intro z; subst z; rw [e] at n; cases n)
theorem Ext.none {led led' : Led} {a : Addr} (h : Ext led led') (n : led' a = none) : led a = none := by
  cases e : led a with
  | none => rfl
  | some o => rw [h _ _ e] at n; cases n
theorem ext_fresh {led led' : Led} {a a' : Addr} {ao : AO} (h : Ext led led' ∧ led a = none) (n : led' a' = none) : Ext led (Mine.upd led' a' ao) ∧ led a' = none := ⟨h.1.upd (h.1.none n), h.1.none n⟩
structure PlOk (S : List Car × Nat) (k : Car) : Prop where
  fr : Fr 4 S.1 k.1
  l10 : S.1.length ≤ 10
  m100 : S.2 ≤ 100
  okl : ∀ r ∈ S.1, OkC r
inductive PlO (f : Nat) (S : Nat → List Car × Nat) (led : Led) (i : Nat) (m : Loc) (led' : Led) : Prop
  | mk (a : Addr) : (Ext led led' ∧ led a = none) → Less [("figures", .int f), ("rows", .own a), ("moves", .int ((S i).2 : Nat))] m → led' a = some (.list ((S i).1.map cv)) → PlO f S led i m led'
inductive PlI (f : Nat) (T : List Car × Nat) (led : Led) (k : Nat) (m : Loc) (led' : Led) : Prop
  | mk (lot : List Car) (mv p l c : Nat) (a : Addr) : (Ext led led' ∧ led a = none) → park f (k + 1) lot mv (p, l, c) = T → Fr k lot p → (∀ r ∈ lot, OkC r) → OkC (p, l, c) → lot.length ≤ 10 → mv + k ≤ 104 →
        Less [("figures", .int f), ("rows", .own a), ("moves", .int (mv : Nat)), ("place", .int (p : Nat)), ("letter", .str (tx [l])), ("car", .str (tx (carL c))), ("there", .lst ((lot.filter (fun r => r.1 == p)).map cv))] m → led' a = some (.list (lot.map cv)) → PlI f T led k m led'
inductive PlK (f k' mv p l : Nat) (T : List Car × Nat) (led : Led) (g : FV) (m' : Loc) (l' : Led) : Prop
  | mk (lot' : List Car) (c' : Nat) (a' : Addr) : g = .next → (Ext led l' ∧ led a' = none) → park f (k' + 1) lot' (mv + 1) (p + 1, l, c') = T → Fr k' lot' (p + 1) → (∀ r ∈ lot', OkC r) → OkC (p + 1, l, c') → lot'.length ≤ 10 →
          Less [("figures", .int f), ("rows", .own a'), ("moves", .int (mv : Nat)), ("place", .int (p : Nat)), ("letter", .str (tx [l])), ("car", .str (tx (carL c')))] m' → l' a' = some (.list (lot'.map cv)) → PlK f k' mv p l T led g m' l'
theorem fs_plain {cars : List Car} {f : Nat} (hok : ∀ k ∈ cars, OkC k) (hlen : cars.length ≤ 10) (hfr : ∀ i k, cars[i]? = some k → PlOk (parks f ([], 0) (cars.take i)) k)
    (q : ∀ led' a, Ext led led' → led' a = some (.list ((parks f ([], 0) cars).1.map cv)) → Q (.own a) led') : FS prog w (Mine.hd.heap_39 P) (n+1) (.ref 270) [.lst (cars.map cv), .int f] [] led Q := by
  refine fs_def (m₀ := [("wishes", .lst (cars.map cv)), ("figures", .int f)]) (by k_is) (by k_is) ?_ ?_ ?_ ?_ ?_ ?_ ?_ ?_
  walk_at "fs"
  intro A L oA
  walk_at "go"
  first | refine ex_assign_two oA.hh ?_ rfl rfl | refine ex_assign_tuple ?_ rfl rfl
  walk_at "go"
  refine list_own ?_
  walk_at "go"
  refine ⟨Nat.zero_le _, fun a ha => ?_⟩
  walk_at "go"
  refine ⟨by rw [sizeLine_eq]; exact (by decide : 2 ≤ 16777216), _, _, rfl, ?_⟩
  walk_at "go"
  refine ex_for oA.hh ?_ fun _ => rfl
  walk_at "go"
  refine ⟨_, _, src_list, PlO f (fun i => parks f ([], 0) (cars.take i)) led, ⟨a, ⟨Ext.upd (Ext.refl _) ha, ha⟩, by walk_at "ls", upd_eq _ _ _⟩, fun i m led' h' => True.intro, fun i d m led' he h' => ?_, fun m led' h' => ?_⟩
  · obtain ⟨a, hE, h1, hled⟩ := h'
    obtain ⟨k, hk1, hk2, rfl⟩ := cv_at he
    obtain ⟨fr, hl10, hm100, hokl⟩ := hfr i k hk2
    have etake : parks f ([], 0) (cars.take (i + 1)) = park f 5 (parks f ([], 0) (cars.take i)).1 (parks f ([], 0) (cars.take i)).2 k := by
      rw [List.take_add_one, hk2]; exact parks_snoc f k _ _
    have okk := hok k hk1
    generalize parks f ([], 0) (cars.take i) = S at h1 hled fr hl10 hm100 hokl etake
    generalize hTd : parks f ([], 0) (cars.take (i + 1)) = T at etake
    obtain ⟨lot, mv⟩ := S
    obtain ⟨p, l, c⟩ := k
    dsimp only at h1 hled fr hl10 hm100 hokl etake
    refine A1.less ?_ h1
    show AT _ _ (.tup [_, _, _]) _ _ _
    refine at_tuple oA.hh rfl rfl ?_
    walk_at "go"
    · refine ex_assign_comp oA.hh rfl rfl (by decide) ?_ (fun _ => rfl) rfl
      walk_at "go"
      refine ⟨_, _, none, [("place", .int (p : Nat))], here? p, src_own, hled, fun led' e => e _ _ hled, by rw [sizeLine_eq, List.length_map]; omega, by walk_at "clo", by walk_at "ful", fun C cl' j d led' he hx hcl => ?_, ?_⟩
      · subst hcl
        obtain ⟨r, hr1, hr2, rfl⟩ := cv_at he
        rw [here_cv]
        unfold Each
        walk_at "go"
        refine ev_sub ?_ fun o b => ⟨_, rfl⟩
        walk_at "go"
        unfold cv
        walk_at "it0"
        walk_at "go"
        refine op_eq_int .int .int ?_
        refine ⟨_, rfl, ?_⟩
        by_cases hc : (((r.1 : Nat) : Int) == (p : Int)) = true
        · rw [if_pos hc, if_pos hc]
          walk_at "go"
          exact ⟨by walk_at "ls", rfl, rfl⟩
        · rw [if_neg hc, if_neg hc]
          exact ⟨by walk_at "ls", rfl, rfl⟩
      rw [here_all]
      walk_at "go"
      refine ex_while (PlI f T led) 4
        ⟨lot, mv, p, l, c, a, hE, etake.symm, fr, hokl, okk, hl10, by omega, by walk_at "ls", hled⟩ ?_
      rintro k m led' ⟨lot, mv, p, l, c, a, hE, hT, fr, hokl, okk, hl10, hmv, hm, hled⟩
      have pth : Plain ((lot.filter (fun r => r.1 == p)).map cv) := plain_cv fun z hz => hokl z (List.mem_filter.mp hz).1
      refine AW.less ?_ hm
      walk_at "go"
      refine list_ ?_
      walk_at "go"
      refine ⟨Nat.zero_le _, ?_⟩
      refine op_ne_list .lst .lst pth ⟨rfl, Nat.zero_le _⟩ (by have := oA.hu; dsimp only; omega) ?_
      refine ⟨_, rfl, ?_⟩
      cases hf : lot.filter (fun r => r.1 == p) with
      | nil =>
        rw [if_neg (by decide)]
        walk_at "go"
        refine ex_drop ?_ rfl rfl
        walk_at "go"
        refine ⟨_, gm_own hled F.slot_list_append ty_append, keep_builtin, ?_⟩
        walk_at "go"
        refine ⟨by rw [sizeLine_eq]; exact (by decide : 3 ≤ 16777216), ?_⟩
        walk_at "go"
        refine ca_append hled (by rw [List.length_map]; omega) ?_
        refine ⟨.inl rfl, ?_⟩
        walk_at "go"
        rw [park_none hf] at hT
        refine ⟨a, ⟨hE.1.upd hE.2, hE.2⟩, ?_, ?_⟩
        · show Less [("figures", .int f), ("rows", .own a), ("moves", .int ((parks f ([], 0) (cars.take (i + 1))).2 : Nat))] _
          rw [hTd, ← hT]; walk_at "ls"
        · show upd _ _ _ a = some (.list ((parks f ([], 0) (cars.take (i + 1))).1.map cv))
          rw [hTd, ← hT, upd_eq, List.map_append]; rfl
      | cons r rest =>
        have hr : r ∈ lot := (List.mem_filter.mp (hf ▸ List.mem_cons_self (a := r) (l := rest))).1
        have he : r.1 = p := by
          have := (List.mem_filter.mp (hf ▸ List.mem_cons_self (a := r) (l := rest))).2
          simpa using this
        obtain ⟨k', rfl, fr', _⟩ := fr.step (List.mem_map.mpr ⟨r, hr, he⟩)
        rw [park_some hf] at hT
        rw [hf] at hm
        rw [if_pos (by rfl)]
        walk_at "st"
        refine AW.mono (Q := PlK f k' mv p l T led) ?_ ?_
        · walk_at "go"
          refine op_pow_int (n := mv) (by decide) (pow_fits mv (by omega)) ?_
          rw [two_pow_int]
          refine op_floordiv_int .int .int (by have := Nat.two_pow_pos mv; omega) (pylong_small _ mv (by omega)) ?_
          rw [fdiv_nat]
          walk_at "go"
          refine op_mod_int .int .int (by decide) ?_
          rw [show Int.fmod ((f / 2 ^ mv : Nat) : Int) 2 = ((f / 2 ^ mv % 2 : Nat) : Int) from fmod_nat _ 2]
          walk_at "go"
          refine op_eq_int .int .int ?_
          refine ⟨_, rfl, ?_⟩
          rw [fig_eq]
          by_cases hfig : figB f mv = true
          · rw [if_pos hfig] at hT ⊢
            walk_at "go"
            refine ev_comp oA.hh rfl rfl (by decide) ?_ fun _ => rfl
            walk_at "go"
            refine ⟨_, _, none, [("place", .int (p : Nat))], away? p, src_own, hled, fun led' e => e _ _ hled, by rw [sizeLine_eq, List.length_map]; omega, by walk_at "clo", by walk_at "ful", fun C cl' j d led' he hx hcl => ?_, ?_⟩
            · subst hcl
              obtain ⟨r, hr1, hr2, rfl⟩ := cv_at he
              rw [away_cv]
              unfold Each
              walk_at "go"
              refine ev_sub ?_ fun o b => ⟨_, rfl⟩
              walk_at "go"
              unfold cv
              walk_at "it0"
              walk_at "go"
              refine op_ne_int .int .int ?_
              refine ⟨_, rfl, ?_⟩
              by_cases hc : (((r.1 : Nat) : Int) != (p : Int)) = true
              · rw [if_pos hc, if_pos hc]
                walk_at "go"
                exact ⟨by walk_at "ls", rfl, rfl⟩
              · rw [if_neg hc, if_neg hc]
                exact ⟨by walk_at "ls", rfl, rfl⟩
            rw [away_all]
            refine list_ ?_
            walk_at "go"
            refine ⟨by rw [sizeLine_eq]; exact (by decide : 3 ≤ 16777216), ?_⟩
            walk_at "go"
            refine ⟨by rw [sizeLine_eq]; exact (by decide : 1 ≤ 16777216), ?_⟩
            have hlm := len_moved (l := l) (c := c) hr he
            refine op_add_list_own .lst .lst ?_ fun a' ha' => ?_
            · rw [List.length_append] at hlm
              rw [List.length_map]
              show _ + 1 ≤ 16777216
              have : [(p, l, c)].length = 1 := rfl
              omega
            walk_at "go"
            refine ev_sub ?_ fun o b => ⟨_, rfl⟩
            refine ev_sub ?_ fun o b => ⟨_, rfl⟩
            walk_at "go"
            refine ⟨.inl ⟨_, .lst⟩, op_item_list (k := 0) (d := cv r) .lst .int rfl ?_ rfl ?_⟩
            · rw [List.length_map]
              have : (r :: rest).length ≤ lot.length := hf ▸ List.length_filter_le _ _
              omega
            walk_at "go"
            unfold cv
            walk_at "it2"
            walk_at "go"
            refine ⟨lot.filter (fun r => r.1 != p) ++ [(p, l, c)], r.2.2, a', rfl, ext_fresh hE ha', hT, fr'.congr (mem_moved hr he), ok_moved hokl okk, ⟨Nat.le_add_left _ _, okk.l, (hokl r hr).c⟩, by omega, by walk_at "ls", ?_⟩
            rw [upd_eq, List.map_append]; rfl
          · rw [if_neg hfig] at hT ⊢
            walk_at "go"
            exact ⟨lot, c, a, rfl, hE, hT, fr', hokl, ⟨Nat.le_add_left _ _, okk.l, okk.c⟩, hl10, by walk_at "ls", hled⟩
        · rintro g m' l' ⟨lot, c, a, rfl, hE, hT, fr, hokl, okk, hl10, hm, hled⟩
          walk_at "st"
          refine AW.less ?_ hm
          walk_at "go"
          first | refine ex_assign_two oA.hh ?_ rfl rfl | refine ex_assign_tuple ?_ rfl rfl
          walk_at "go"
          refine op_add_int .int .int ?_
          walk_at "go"
          refine op_add_int .int .int ?_
          walk_at "go"
          refine ⟨by rw [sizeLine_eq]; exact (by decide : 2 ≤ 16777216), ?_⟩
          refine at_tuple oA.hh rfl rfl ?_
          walk_at "go"
          have ep : ((p : Int) + 1) = ((p + 1 : Nat) : Int) := by omega
          have em : ((mv : Int) + 1) = ((mv + 1 : Nat) : Int) := by omega
          rw [ep, em]
          refine ex_assign_comp oA.hh rfl rfl (by decide) ?_ (fun _ => rfl) rfl
          walk_at "go"
          refine ⟨_, _, none, [("place", .int ((p + 1 : Nat) : Int))], here? (p + 1), src_own, hled, fun led' e => e _ _ hled, by rw [sizeLine_eq, List.length_map]; omega, by walk_at "clo", by walk_at "ful", fun C cl' j d led' he hx hcl => ?_, ?_⟩
          · subst hcl
            obtain ⟨r, hr1, hr2, rfl⟩ := cv_at he
            rw [here_cv]
            unfold Each
            walk_at "go"
            refine ev_sub ?_ fun o b => ⟨_, rfl⟩
            walk_at "go"
            unfold cv
            walk_at "it0"
            walk_at "go"
            refine op_eq_int .int .int ?_
            refine ⟨_, rfl, ?_⟩
            by_cases hc : (((r.1 : Nat) : Int) == ((p + 1 : Nat) : Int)) = true
            · rw [if_pos hc, if_pos hc]
              walk_at "go"
              exact ⟨by walk_at "ls", rfl, rfl⟩
            · rw [if_neg hc, if_neg hc]
              exact ⟨by walk_at "ls", rfl, rfl⟩
          rw [here_all]
          walk_at "go"
          exact ⟨k', Nat.lt_succ_self _, lot, mv + 1, p + 1, l, c, a, hE, hT, fr, hokl, okk, hl10, by omega, by walk_at "ls", hled⟩
  · obtain ⟨a, hE, h1, hled⟩ := h'
    refine AW.less ?_ h1
    walk_at "go"
    rw [List.length_map, List.take_length] at hled
    exact q _ a hE.1 hled
end
end
section
noncomputable def nm (p l : Nat) : List Nat := List.replicate p 46 ++ [l]
noncomputable def toRow (k : Car) : Row := (nm k.1 k.2.1, carL k.2.2)
theorem lw_nm {p l : Nat} (h : l = 112 ∨ l = 80) : lw (nm p l) = nm p 112 := by
  unfold lw nm
  rw [List.map_append, List.map_replicate]
  have h1 : lo1 46 = 46 := by decide
  have h2 : [l].map lo1 = [112] := by rcases h with rfl | rfl <;> decide
  rw [h1, h2]
theorem nm_inj {p q : Nat} (h : nm p 112 = nm q 112) : p = q := by
  have := congrArg List.length h
  simpa [nm] using this
theorem lw_beq {p q l l' : Nat} (h : l = 112 ∨ l = 80) (h' : l' = 112 ∨ l' = 80) : (lw (nm p l) == lw (nm q l')) = (p == q) := by
  rw [lw_nm h, lw_nm h']
  by_cases e : p = q
  · subst e; simp
  · rw [beq_eq_false_iff_ne.mpr e, beq_eq_false_iff_ne.mpr fun z => e (nm_inj z)]
theorem find_rows {l : Nat} (hl : l = 112 ∨ l = 80) (p : Nat) : ∀ {lot : List Car}, (∀ r ∈ lot, OkC r) → (lot.map toRow).find? (fun r => lw r.1 == lw (nm p l)) = (lot.find? fun r => r.1 == p).map toRow
  | [], _ => rfl
  | r :: lot, h => by
    have e : (lw (toRow r).1 == lw (nm p l)) = (r.1 == p) := lw_beq (h r (.head _)).l hl
    rw [List.map_cons, List.find?_cons, e, List.find?_cons, find_rows hl p fun z hz => h z (.tail _ hz)]
    cases (r.1 == p) <;> rfl
theorem others_rows {l : Nat} (hl : l = 112 ∨ l = 80) (p : Nat) : ∀ {lot : List Car}, (∀ r ∈ lot, OkC r) → others (lot.map toRow) (nm p l) = (lot.filter fun r => r.1 != p).map toRow
  | [], _ => rfl
  | r :: lot, h => by
    have e : (lw (toRow r).1 != lw (nm p l)) = (r.1 != p) := by
      unfold bne
      rw [show (lw (toRow r).1 == lw (nm p l)) = (r.1 == p) from lw_beq (h r (.head _)).l hl]
    have ih := others_rows hl p fun z hz => h z (.tail _ hz)
    unfold others at *
    rw [List.map_cons, List.filter_cons, e, List.filter_cons, ih]
    cases (r.1 != p) <;> rfl
theorem nm_ok {p l : Nat} (h : l = 112 ∨ l = 80) (hp : p ≤ 90) : Ok (nm p l) := by
  refine ⟨fun a ha => ?_, ?_⟩
  · unfold nm at ha
    rw [List.mem_append] at ha
    rcases ha with ha | ha
    · rw [(List.mem_replicate.mp ha).2]; decide
    · simp only [List.mem_cons, List.not_mem_nil, or_false] at ha
      subst ha; rcases h with rfl | rfl <;> decide
  · unfold nm; rw [List.length_append, List.length_replicate]; show p + 1 ≤ 100; omega
theorem toRow_ok {k : Car} (h : OkC k) (hp : k.1 ≤ 90) : Ok (toRow k).1 ∧ Ok (toRow k).2 := ⟨nm_ok h.l hp, carL_ok _⟩
theorem rows_oks {lot : List Car} (h : ∀ r ∈ lot, OkC r) (hp : ∀ r ∈ lot, r.1 ≤ 90) (hl : lot.length ≤ 10) : Oks (lot.map toRow) := ⟨fun r hr => by
  obtain ⟨k, hk, rfl⟩ := List.mem_map.mp hr
  exact toRow_ok (h k hk) (hp k hk), by rw [List.length_map]; omega⟩
theorem sent_row {p l c : Nat} (h : 1 ≤ p) : sent1 (toRow (p, l, c)) = toRow (p + 1, l, c) := by
  obtain ⟨p, rfl⟩ : ∃ q, p = q + 1 := ⟨p - 1, by omega⟩
  show (dbl (nm (p + 1) l), carL c) = (nm (p + 1 + 1) l, carL c)
  congr 1
theorem carL_inj {c d : Nat} (hc : c < 5) (hd : d < 5) (h : carL c = carL d) : c = d := by
  have := congrArg List.length h
  unfold carL at this
  rw [List.length_take, List.length_take] at this
  simp at this
  omega
section
variable {P : Params} {n : Nat} {led : Led} {Q : V → Led → Prop} {prog : Program} {w : World}
structure ParkOk (S : List Car × Nat) (k : Car) : Prop where
  fr : Fr 4 S.1 k.1
  l5 : S.1.length ≤ 5
  m100 : S.2 ≤ 100
  okl : ∀ r ∈ S.1, OkC r
  p60 : ∀ r ∈ S.1, r.1 ≤ 60
  cn : (k.2.2 :: cs S.1).Nodup
  pn : (pl S.1).Nodup
inductive OneO (f wv : Nat) (S : Nat → List Car × Nat) (x dx a : Addr) (led : Led) (i : Nat) (m : Loc) (led' : Led) : Prop
  | mk : Less [("figures", .int f), ("way", .int wv), ("lot", .own x), ("moves", .int ((S i).2 : Nat))] m → Ext led led' → HD led' x dx (.own a) ((S i).1.map toRow) → OneO f wv S x dx a led i m led'
inductive OneI (f wv : Nat) (T : List Car × Nat) (x dx a : Addr) (led : Led) (j : Nat) (m : Loc) (led' : Led) : Prop
  | mk (k : Nat) (lot : List Car) (mv p l c : Nat) : j + k = 4 → park f (k + 1) lot mv (p, l, c) = T → Fr k lot p → (∀ r ∈ lot, OkC r) → OkC (p, l, c) → lot.length ≤ 5 → mv + k ≤ 104 → (∀ r ∈ lot, r.1 ≤ 60) → p + k ≤ 60 → (c :: cs lot).Nodup → (pl lot).Nodup →
        Less [("figures", .int f), ("way", .int wv), ("lot", .own x), ("moves", .int (mv : Nat)), ("name", .str (tx (nm p l))), ("car", .str (tx (carL c)))] m → Ext led led' → HD led' x dx (.own a) (lot.map toRow) → OneI f wv T x dx a led j m led'
inductive OneK (f wv k' mv p l : Nat) (T : List Car × Nat) (x dx a : Addr) (led : Led) (g : FV) (m' : Loc) (l' : Led) : Prop
  | mk (lot' : List Car) (c' : Nat) : g = .next → park f (k' + 1) lot' (mv + 1) (p + 1, l, c') = T → Fr k' lot' (p + 1) → (∀ r ∈ lot', OkC r) → OkC (p, l, c') → lot'.length ≤ 5 → (∀ r ∈ lot', r.1 ≤ 60) → (c' :: cs lot').Nodup → (pl lot').Nodup →
          Less [("figures", .int f), ("way", .int wv), ("lot", .own x), ("moves", .int (mv : Nat)), ("name", .str (tx (nm p l))), ("car", .str (tx (carL c')))] m' → Ext led l' → HD l' x dx (.own a) (lot'.map toRow) → OneK f wv k' mv p l T x dx a led g m' l'
theorem fs_one {cars : List Car} {f wv : Nat} (hok : ∀ k ∈ cars, OkC k) (hpl : ∀ k ∈ cars, k.1 ≤ 10) (hlen : cars.length ≤ 10)
    (hfr : ∀ i k, cars[i]? = some k → ParkOk (parks f ([], 0) (cars.take i)) k)
    (q : ∀ led' x dx a, Ext led led' → HD led' x dx (.own a) ((parks f ([], 0) cars).1.map toRow) → Q (.tup [.own x, .int ((parks f ([], 0) cars).2 : Nat)]) led') :
    FS prog w (Mine.hd.heap_39 P) (n+15) (.ref 258) [.lst (cars.map fun k => rv (toRow k)), .int f, .int wv] [] led Q := by
  refine fs_def (m₀ := [("cars", .lst (cars.map fun k => rv (toRow k))), ("figures", .int f), ("way", .int wv)]) (by k_is) (by k_is) ?_ ?_ ?_ ?_ ?_ ?_ ?_ ?_
  walk_at "fs"
  intro A L oA
  walk_at "go"
  first | refine ex_assign_two oA.hh ?_ rfl rfl | refine ex_assign_tuple ?_ rfl rfl
  walk_at "go"
  walk_at "cf"
  walk_at "go"
  refine ca_of (n := n + 14) ((fs_make0 (n := n) fun x dx a led₁ hx1 hD ha1 hx2 hd2 => ?_).up (by omega)) oA
  walk_at "go"
  refine ⟨by rw [sizeLine_eq]; exact (by decide : 2 ≤ 16777216), _, _, rfl, ?_⟩
  walk_at "go"
  refine ex_for oA.hh ?_ fun _ => rfl
  walk_at "go"
  refine ⟨_, _, src_list, OneO f wv (fun i => parks f ([], 0) (cars.take i)) x dx a led, ⟨by walk_at "ls", hx1, hD⟩, fun i m led' h' => True.intro, fun i d m led' he h' => ?_, fun m led' h' => ?_⟩
  · obtain ⟨h1, hE, hD⟩ := h'
    obtain ⟨k, hk1, hk2, rfl⟩ : ∃ k, k ∈ cars ∧ cars[i]? = some k ∧ d = rv (toRow k) := by
      rw [List.getElem?_map] at he
      cases h : cars[i]? with
      | none => rw [h] at he; cases he
      | some r => rw [h] at he; cases he; exact ⟨r, List.mem_of_getElem? h, rfl, rfl⟩
    obtain ⟨fr, hl10, hm100, hokl, h60, hcn, hpn⟩ := hfr i k hk2
    have etake : parks f ([], 0) (cars.take (i + 1)) = park f 5 (parks f ([], 0) (cars.take i)).1 (parks f ([], 0) (cars.take i)).2 k := by
      rw [List.take_add_one, hk2]; exact parks_snoc f k _ _
    have okk := hok k hk1
    have hk10 := hpl k hk1
    generalize parks f ([], 0) (cars.take i) = S at h1 hD fr hl10 hm100 hokl etake h60 hcn hpn
    generalize hTd : parks f ([], 0) (cars.take (i + 1)) = T at etake
    obtain ⟨lot, mv⟩ := S
    obtain ⟨p, l, c⟩ := k
    dsimp only at h1 hD fr hl10 hm100 hokl etake h60 hcn hpn hk10
    refine A1.less ?_ h1
    show AT _ _ (.tup [_, _]) _ _ _
    refine at_tuple oA.hh rfl rfl ?_
    walk_at "go"
    refine ex_for oA.hh ?_ fun _ => rfl
    walk_at "go"
    walk_at "ct"
    walk_at "go"
    refine ca_range1 .int ?_
    refine ⟨_, _, src_range (n := 5) (.inl (by decide)) (by decide) (by decide) (by decide) (by decide), OneI f wv T x dx a led,
      ⟨4, lot, mv, p, l, c, rfl, etake.symm, fr, hokl, okk, hl10, by omega, h60, by omega, hcn, hpn, by walk_at "ls", hE, hD⟩, fun j m led' h' => True.intro, fun j d m led' he h' => ?_, fun m led' h' => ?_⟩
    · obtain ⟨k, lot, mv, p, l, c, hj, hT, fr, hokl, okk, hl5, hmv, h60, hp60, hcn, hpn, hm, hE, hD⟩ := h'
      refine A1.less ?_ hm
      have hrows := rows_oks hokl (fun r hr => by have := h60 r hr; omega) (by omega)
      have hnm : Ok (nm p l) := nm_ok okk.l (by omega)
      walk_at "go"
      walk_at "hm"
      walk_at "go"
      refine ca_of (n := n + 14) ((fs_setdefault (n := n) hD hrows hnm (carL_ok c) ?_).up (by omega)) oA
      rw [show ((lot.map toRow).find? fun r => lw r.1 == lw (nm p l)) = _ from find_rows okk.l p hokl]
      cases hf : lot.find? fun r => r.1 == p with
      | none =>
        show AN _ _ (.str (tx (carL c))) _ (upd led' a (.list ((lot.map toRow ++ [toRow (p, l, c)]).map rv))) _
        have hD2 := hD.set (rows' := lot.map toRow ++ [toRow (p, l, c)])
        walk_at "go"
        refine op_eq_str ?_
        refine ⟨_, rfl, ?_⟩
        rw [if_pos (by simp)]
        walk_at "go"
        have hT' : T = (lot ++ [(p, l, c)], mv) := by
          rw [← hT]
          show (match lot.find? (fun r => r.1 == p) with | none => _ | some r => _) = _
          rw [hf]
        refine ⟨?_, hE.upd ha1, ?_⟩
        · show Less [("figures", .int f), ("way", .int wv), ("lot", .own x), ("moves", .int ((parks f ([], 0) (cars.take (i + 1))).2 : Nat))] _
          rw [hTd, hT']; walk_at "ls"
        · show HD _ x dx _ ((parks f ([], 0) (cars.take (i + 1))).1.map toRow)
          rw [hTd, hT', show (lot ++ [(p, l, c)]).map toRow = lot.map toRow ++ [toRow (p, l, c)] from List.map_append]
          exact hD2
      | some r =>
        obtain ⟨hr, he2⟩ := find_some hf
        have hne : r.2.2 ≠ c := fun e => by
          rw [List.nodup_cons] at hcn
          exact hcn.1 (List.mem_map.mpr ⟨r, hr, e⟩)
        obtain ⟨k', rfl, fr', _⟩ := fr.step (List.mem_map.mpr ⟨r, hr, he2⟩)
        have hT2 : (if figB f mv = true then park f (k' + 1) (lot.filter (fun r => r.1 != p) ++ [(p, l, c)]) (mv + 1) (p + 1, l, r.2.2) else park f (k' + 1) lot (mv + 1) (p + 1, l, c)) = T := by
          rw [← hT]
          show _ = (match lot.find? (fun r => r.1 == p) with | none => _ | some r => _)
          rw [hf]
        show AN _ _ (.str (tx (carL r.2.2))) _ led' _
        walk_at "go"
        refine op_eq_str ?_
        refine ⟨_, rfl, ?_⟩
        rw [if_neg (by rw [tx_beq]; intro z; exact hne (carL_inj (hokl r hr).c okk.c (by simpa using z)))]
        walk_at "st"
        walk_at "st"
        walk_at "st"
        refine AW.mono (Q := OneK f wv k' mv p l T x dx a led) ?_ ?_
        · walk_at "go"
          refine op_pow_int (n := mv) (by decide) (pow_fits mv (by omega)) ?_
          rw [two_pow_int]
          refine op_floordiv_int .int .int (by have := Nat.two_pow_pos mv; omega) (pylong_small _ mv (by omega)) ?_
          rw [fdiv_nat]
          walk_at "go"
          refine op_mod_int .int .int (by decide) ?_
          rw [show Int.fmod ((f / 2 ^ mv : Nat) : Int) 2 = ((f / 2 ^ mv % 2 : Nat) : Int) from fmod_nat _ 2]
          walk_at "go"
          refine op_eq_int .int .int ?_
          refine ⟨_, rfl, ?_⟩
          rw [fig_eq]
          by_cases hfig : figB f mv = true
          · rw [if_pos hfig] at hT2 ⊢
            walk_at "go"
            walk_at "cf"
            walk_at "go"
            refine ca_of (n := n + 14) ((fs_put (n := n) hD hrows hnm (carL_ok c) ?_).up (by omega)) oA
            rw [show others (lot.map toRow) (nm p l) = _ from others_rows okk.l p hokl]
            have hmap : ((lot.filter fun r => r.1 != p).map toRow ++ [(nm p l, carL c)]) = (lot.filter (fun r => r.1 != p) ++ [(p, l, c)]).map toRow := by rw [List.map_append]; rfl
            rw [hmap]
            have hD2 := hD.set (rows' := (lot.filter (fun r => r.1 != p) ++ [(p, l, c)]).map toRow)
            obtain ⟨m1, m2⟩ := moved (l := l) (c := c) hpn hf
            walk_at "go"
            refine op_isnot_none ?_
            refine ⟨_, rfl, ?_⟩
            rw [if_neg (by decide)]
            walk_at "go"
            refine ⟨_, r.2.2, rfl, hT2, fr'.congr (mem_moved hr he2), ok_moved hokl okk, ⟨okk.p, okk.l, (hokl r hr).c⟩, Nat.le_trans (len_moved hr he2) hl5, fun z hz => ?_, m2.nodup_iff.mpr hcn, m1.nodup_iff.mpr hpn, by walk_at "ls", hE.upd ha1, hD2⟩
            rcases List.mem_append.mp hz with hz | hz
            · exact h60 z (List.mem_filter.mp hz).1
            · simp only [List.mem_cons, List.not_mem_nil, or_false] at hz
              subst hz; show p ≤ 60; omega
          · rw [if_neg hfig] at hT2 ⊢
            walk_at "go"
            exact ⟨lot, c, rfl, hT2, fr', hokl, okk, hl5, h60, hcn, hpn, by walk_at "ls", hE, hD⟩
        · rintro g m' l' ⟨lot, c, rfl, hT, fr, hokl, okk, hl5, h60, hcn, hpn, hm, hE, hD⟩
          walk_at "st"
          refine AW.less ?_ hm
          walk_at "go"
          refine ex_assign_tuple ?_ rfl rfl
          refine ev_sub ?_ fun o b => ⟨_, rfl⟩
          walk_at "go"
          walk_at "cf"
          walk_at "go"
          refine list_ ?_
          walk_at "go"
          refine ⟨by rw [sizeLine_eq]; exact (by decide : 2 ≤ 16777216), ?_⟩
          walk_at "go"
          refine ⟨by rw [sizeLine_eq]; exact (by decide : 1 ≤ 16777216), ?_⟩
          walk_at "go"
          refine op_add_int .int .int ?_
          walk_at "go"
          have hone : Oks [toRow (p, l, c)] := ⟨fun r hr => by
            simp only [List.mem_cons, List.not_mem_nil, or_false] at hr
            subst hr; exact toRow_ok okk (by show p ≤ 90; omega), (by decide : 1 ≤ 20)⟩
          have ew : ((wv : Int) + (mv : Nat)) = ((wv + mv : Nat) : Int) := by omega
          rw [ew]
          refine ca_of (n := n + 14) (fs_sent (n := n) (rows := [toRow (p, l, c)]) .lst hone (by decide : 1 ≤ 19) (fun r hr => ?_) (wv + mv) ?_) oA
          · simp only [List.mem_cons, List.not_mem_nil, or_false] at hr
            subst hr
            show (nm p l).length < 100
            unfold nm; rw [List.length_append, List.length_replicate]; show p + 1 < 100; omega
          rw [show [toRow (p, l, c)].map sent1 = [toRow (p + 1, l, c)] from by rw [List.map_cons, sent_row okk.p]; rfl]
          walk_at "go"
          refine ⟨.inl ⟨_, .lst⟩, op_item_list (k := 0) (d := rv (toRow (p + 1, l, c))) .lst .int rfl (by exact (by decide : 1 ≤ 16777216)) rfl ?_⟩
          show AT _ _ (.tup [_, _]) _ _ _
          refine at_tuple oA.hh rfl rfl ?_
          walk_at "go"
          refine ex_aug ?_
          refine ln_local rfl rfl rfl ?_
          walk_at "go"
          refine op_iadd_int .int .int ?_
          walk_at "go"
          have em : ((mv : Int) + 1) = ((mv + 1 : Nat) : Int) := by omega
          rw [em]
          exact ⟨k', lot, mv + 1, p + 1, l, c, by omega, hT, fr, hokl, ⟨Nat.le_add_left _ _, okk.l, okk.c⟩, hl5, by omega, h60, by omega, hcn, hpn, by walk_at "ls", hE, hD⟩
    · obtain ⟨k, lot, mv, p, l, c, hj, _⟩ := h'
      have : (rints 0 5).length = 5 := rfl
      omega
  · obtain ⟨h1, hE, hD⟩ := h'
    refine AW.less ?_ h1
    walk_at "go"
    refine ⟨by rw [sizeLine_eq]; exact (by decide : 2 ≤ 16777216), ?_⟩
    walk_at "go"
    rw [List.length_map, List.take_length] at hD ⊢
    exact q _ x dx a hE hD
end
end
section
noncomputable def tc (L : Nat → Nat) (k : Pc) : Car := (k.1, L k.2, k.2)
noncomputable def pr (L : Nat → Nat) (k : Pc) : Row := toRow (tc L k)
theorem round1_snoc (k : Pc) : ∀ (l : List Pc) (lot left : List Pc), round1 lot left (l ++ [k]) = cond (any1 (round1 lot left l).1 k.1) ((round1 lot left l).1, (round1 lot left l).2 ++ [k]) ((round1 lot left l).1 ++ [k], (round1 lot left l).2)
  | [], lot, left => by
    show round1 lot left [k] = _
    unfold round1
    cases any1 lot k.1 <;> rfl
  | a :: l, lot, left => by
    show round1 lot left (a :: (l ++ [k])) = _
    unfold round1
    cases h : any1 lot a.1 with
    | true => simp only [cond_true]; exact round1_snoc k l _ _
    | false => simp only [cond_false]; exact round1_snoc k l _ _
theorem nbq (a b : Nat) : (a == b) = Nat.beq a b := by
  rw [Bool.eq_iff_iff, beq_iff_eq]
  exact ⟨fun h => h ▸ Nat.beq_refl a, Nat.eq_of_beq_eq_true⟩
theorem any1_find (L : Nat → Nat) (p : Nat) : ∀ (lot : List Pc), ((lot.map (tc L)).find? fun r => r.1 == p).isSome = any1 lot p
  | [] => rfl
  | k :: lot => by
    rw [List.map_cons, List.find?_cons]
    unfold any1
    have e : ((tc L k).1 == p) = Nat.beq k.1 p := nbq _ _
    rw [e]
    cases Nat.beq k.1 p with
    | true => rfl
    | false => exact any1_find L p lot
theorem any1_others (L : Nat → Nat) (p : Nat) : ∀ (lot : List Pc), any1 lot p = false → (lot.map (tc L)).filter (fun r => r.1 != p) = lot.map (tc L)
  | [], _ => rfl
  | k :: lot, h => by
    unfold any1 at h
    cases e : Nat.beq k.1 p with
    | true => rw [e] at h; cases h
    | false =>
      rw [e] at h
      rw [List.map_cons, List.filter_cons_of_pos, any1_others L p lot h]
      have : ((tc L k).1 == p) = false := (nbq _ _).trans e
      unfold bne; rw [this]; rfl
theorem any1_rows {L : Nat → Nat} {lot : List Pc} (h : ∀ r ∈ lot.map (tc L), OkC r) (p : Nat) {l : Nat} (hl : l = 112 ∨ l = 80) : ((lot.map (pr L)).find? fun r => lw r.1 == lw (nm p l)).isSome = any1 lot p := by
  have e : lot.map (pr L) = (lot.map (tc L)).map toRow := by rw [List.map_map]; rfl
  rw [e, find_rows hl p h, ← any1_find L p lot]
  cases (lot.map (tc L)).find? fun r => r.1 == p <;> rfl
theorem others_pr {L : Nat → Nat} {lot : List Pc} (h : ∀ r ∈ lot.map (tc L), OkC r) (p : Nat) {l : Nat} (hl : l = 112 ∨ l = 80) (ha : any1 lot p = false) : others (lot.map (pr L)) (nm p l) = lot.map (pr L) := by
  have e : lot.map (pr L) = (lot.map (tc L)).map toRow := by rw [List.map_map]; rfl
  rw [e, others_rows hl p h, any1_others L p lot ha]
theorem HD.ext {led led' : Led} {x dx : Addr} {hv : V} {rows : List Row} (h : HD led x dx hv rows) (e : Ext led led') : HD led' x dx hv rows := ⟨e _ _ h.i, e _ _ h.d, h.l.ext e, h.n⟩
theorem HD.other {led : Led} {y dy a : Addr} {l k j : List V} {rows : List Row} (h : HD led y dy (.lst l) rows) (e : led a = some (.list j)) : HD (upd led a (.list k)) y dy (.lst l) rows :=
  ⟨upd_ne h.i (by intro z; subst z; have := h.i; rw [e] at this; cases this), upd_ne h.d (by intro z; subst z; have := h.d; rw [e] at this; cases this), (by
    rcases h.l with z | ⟨b, z, _⟩
    · exact .inl z
    · cases z), h.n⟩
structure OkP (L : Nat → Nat) (B : Nat) (l : List Pc) : Prop where
  ok : ∀ k ∈ l, OkC (tc L k)
  b : ∀ k ∈ l, k.1 ≤ B
theorem OkP.app {L : Nat → Nat} {B : Nat} {l : List Pc} {k : Pc} (h : OkP L B l) (hk : OkC (tc L k)) (hb : k.1 ≤ B) : OkP L B (l ++ [k]) := ⟨fun z hz => by
  rcases List.mem_append.mp hz with hz | hz
  · exact h.ok z hz
  · simp only [List.mem_cons, List.not_mem_nil, or_false] at hz
    subst hz; exact hk, fun z hz => by
  rcases List.mem_append.mp hz with hz | hz
  · exact h.b z hz
  · simp only [List.mem_cons, List.not_mem_nil, or_false] at hz
    subst hz; exact hb⟩
theorem OkP.le {L : Nat → Nat} {B B' : Nat} {l : List Pc} (h : OkP L B l) (le : B ≤ B') : OkP L B' l := ⟨h.ok, fun k hk => Nat.le_trans (h.b k hk) le⟩
theorem OkP.oks {L : Nat → Nat} {B : Nat} {l : List Pc} (h : OkP L B l) (hB : B ≤ 90) (hl : l.length ≤ 10) : Oks (l.map (pr L)) := ⟨fun r hr => by
  obtain ⟨k, hk, rfl⟩ := List.mem_map.mp hr
  exact toRow_ok (h.ok k hk) (Nat.le_trans (h.b k hk) hB), by rw [List.length_map]; omega⟩
theorem OkP.cars {L : Nat → Nat} {B : Nat} {l : List Pc} (h : OkP L B l) : ∀ r ∈ l.map (tc L), OkC r := fun r hr => by
  obtain ⟨k, hk, rfl⟩ := List.mem_map.mp hr
  exact h.ok k hk
theorem further_map : ∀ l : List Pc, further l = l.map fun k => (k.1 + 1, k.2)
  | [] => rfl
  | k :: l => by unfold further; rw [further_map l]; rfl
theorem OkP.further {L : Nat → Nat} {B : Nat} {l : List Pc} (h : OkP L B l) : OkP L (B + 1) (further l) := ⟨fun k hk => by
  rw [further_map] at hk
  obtain ⟨z, hz, rfl⟩ := List.mem_map.mp hk
  exact ⟨Nat.le_add_left _ _, (h.ok z hz).l, (h.ok z hz).c⟩, fun k hk => by
  rw [further_map] at hk
  obtain ⟨z, hz, rfl⟩ := List.mem_map.mp hk
  exact Nat.succ_le_succ (h.b z hz)⟩
theorem sent_all {L : Nat → Nat} {B : Nat} {l : List Pc} (h : OkP L B l) : (l.map (pr L)).map sent1 = (further l).map (pr L) := by
  rw [further_map, List.map_map, List.map_map]
  refine List.map_congr_left fun k hk => ?_
  exact sent_row (h.ok k hk).p
section
variable {P : Params} {n : Nat} {led : Led} {Q : V → Led → Prop} {prog : Program} {w : World}
inductive AlO (L : Nat → Nat) (R : List Pc) (wv : Nat) (x dx a : Addr) (led : Led) (h : Nat) (m : Loc) (led' : Led) : Prop
  | mk (lot road : List Pc) (y dy : Addr) (l : List V) : h ≤ 5 → allR (5 - h) lot road = R → lot.length + road.length ≤ 5 → OkP L 20 lot → OkP L (10 + h) road →
      Less [("way", .int wv), ("lot", .own x), ("road", .own y)] m → Ext led led' → HD led' x dx (.own a) (lot.map (pr L)) → HD led' y dy (.lst l) (road.map (pr L)) → AlO L R wv x dx a led h m led'
inductive AlI (L : Nat → Nat) (wv : Nat) (x dx a : Addr) (led : Led) (h N : Nat) (S : List Pc × List Pc) (i : Nat) (m : Loc) (led' : Led) : Prop
  | mk : Less [("way", .int wv), ("lot", .own x), ("hour", .int (0 + (h : Nat))), ("left", .lst ((S.2.map (pr L)).map rv))] m → Ext led led' → HD led' x dx (.own a) (S.1.map (pr L)) → OkP L 20 S.1 → OkP L (10 + h) S.2 → S.1.length + S.2.length ≤ N + i → AlI L wv x dx a led h N S i m led'
theorem fs_all {L : Nat → Nat} {road₀ R : List Pc} {wv : Nat} (hok : OkP L 10 road₀) (hlen : road₀.length ≤ 5) (hR : allR 5 [] road₀ = R) (hne : R ≠ [])
    (q : ∀ led' x dx a, Ext led led' → HD led' x dx (.own a) (R.map (pr L)) → Q (.own x) led') :
    FS prog w (Mine.hd.heap_39 P) (n+15) (.ref 265) [.lst (road₀.map fun k => rv (pr L k)), .int wv] [] led Q := by
  refine fs_def (m₀ := [("cars", .lst (road₀.map fun k => rv (pr L k))), ("way", .int wv)]) (by k_is) (by k_is) ?_ ?_ ?_ ?_ ?_ ?_ ?_ ?_
  walk_at "fs"
  intro A L₀ oA
  walk_at "go"
  first | refine ex_assign_two oA.hh ?_ rfl rfl | refine ex_assign_tuple ?_ rfl rfl
  walk_at "go"
  walk_at "cf"
  walk_at "go"
  refine ca_of (n := n + 14) ((fs_make0 (n := n) fun x dx a led₁ hx1 hD ha1 hx2 hd2 => ?_).up (by omega)) oA
  walk_at "go"
  walk_at "cf"
  walk_at "go"
  have el : (road₀.map fun k => rv (pr L k)) = (road₀.map (pr L)).map rv := by rw [List.map_map]; rfl
  rw [el]
  refine ca_of (n := n + 14) ((fs_make_l (n := n) .lst (hok.oks (by decide) (by omega)) True.intro (fun b e => by cases e) fun y dy led₂ hx2 hY => ?_).up (by omega)) oA
  walk_at "go"
  refine ⟨by rw [sizeLine_eq]; exact (by decide : 2 ≤ 16777216), _, _, rfl, ?_⟩
  walk_at "go"
  refine ex_for oA.hh ?_ fun _ => rfl
  walk_at "go"
  walk_at "ct"
  walk_at "go"
  refine ca_range1 .int ?_
  refine ⟨_, _, src_range (n := 5) (.inl (by decide)) (by decide) (by decide) (by decide) (by decide), AlO L R wv x dx a led,
    ⟨[], road₀, y, dy, _, by omega, hR, by simpa using hlen, ⟨fun k hk => (by cases hk), fun k hk => (by cases hk)⟩, hok, by walk_at "ls", hx1.trans hx2, hD.ext hx2, hY⟩, fun i m led' h' => True.intro, fun h d m led' he h' => ?_, fun m led' h' => ?_⟩
  · obtain ⟨lot, road, y, dy, l, h5, hR, hlen, okl, okr, hm, hE, hX, hY⟩ := h'
    obtain ⟨hh, rfl⟩ := rints_at he
    refine A1.less ?_ hm
    walk_at "go"
    refine list_ ?_
    walk_at "go"
    refine ⟨Nat.zero_le _, ?_⟩
    walk_at "go"
    refine ex_for oA.hh ?_ fun _ => rfl
    walk_at "go"
    have hroad := okr.oks (by omega) (by omega)
    refine ⟨_, gm_inst hY.i hY.d (by rfl) (by walk_at "is") (by walk_at "is") (by walk_at "is") (by walk_at "is"), keep_K (by walk_at "is"), ?_⟩
    walk_at "go"
    refine ca_of (n := n + 14) ((fs_items (n := n) hY hroad ?_).up (by omega)) oA
    refine ⟨_, _, src_list, fun i m led' => AlI L wv x dx a led h lot.length (round1 lot [] (road.take i)) i m led',
      ⟨by walk_at "ls", hE, hX, okl, ⟨fun k hk => (by cases hk), fun k hk => (by cases hk)⟩, Nat.le_refl _⟩, fun i m led' h' => True.intro, fun i d m led' he h' => ?_, fun m led' h' => ?_⟩
    · obtain ⟨hm, hE, hX, okl, okf, hln⟩ := h'
      obtain ⟨k, hk1, hk2, rfl⟩ : ∃ k, k ∈ road ∧ road[i]? = some k ∧ d = rv (pr L k) := by
        rw [List.getElem?_map, List.getElem?_map] at he
        cases h : road[i]? with
        | none => rw [h] at he; cases he
        | some r => rw [h] at he; cases he; exact ⟨r, List.mem_of_getElem? h, rfl, rfl⟩
      have hi : i < road.length := by
        rcases Nat.lt_or_ge i road.length with z | z
        · exact z
        · rw [List.getElem?_eq_none z] at hk2; cases hk2
      have hstep := round1_snoc k (road.take i) lot []
      have ht : road.take i ++ [k] = road.take (i + 1) := by rw [List.take_add_one, hk2]; rfl
      rw [ht] at hstep
      have okk := okr.ok k hk1
      have hkb := okr.b k hk1
      have hL : L k.2 = 112 ∨ L k.2 = 80 := okk.l
      have hnm : Ok (nm k.1 (L k.2)) := nm_ok hL (by omega)
      generalize round1 lot [] (road.take i) = S at hm hX okl okf hln hstep
      obtain ⟨lot', left⟩ := S
      dsimp only at hm hX okl okf hln hstep
      have hrows := okl.oks (by decide) (by omega)
      refine A1.less ?_ hm
      show AT _ _ (.tup [.str (tx (nm k.1 (L k.2))), .str (tx (carL k.2))]) _ _ _
      refine at_tuple oA.hh rfl rfl ?_
      walk_at "go"
      walk_at "cf"
      walk_at "go"
      refine ca_of (n := n + 14) ((fs_in (n := n) hX hrows hnm ?_).up (by omega)) oA
      rw [any1_rows okl.cars k.1 hL]
      walk_at "go"
      refine op_is_bool ?_
      refine ⟨_, rfl, ?_⟩
      cases hany : any1 lot' k.1 with
      | true =>
        rw [hany] at hstep
        rw [if_pos (by rfl)]
        walk_at "go"
        walk_at "cf"
        walk_at "go"
        refine list_ ?_
        walk_at "go"
        refine ⟨by rw [sizeLine_eq]; exact (by decide : 2 ≤ 16777216), ?_⟩
        walk_at "go"
        refine ⟨by rw [sizeLine_eq]; exact (by decide : 1 ≤ 16777216), ?_⟩
        walk_at "go"
        refine ca_of (n := n + 14) ((fs_concat (n := n) .lst .lst ?_ ?_).up (by omega)) oA
        · rw [List.length_map, List.length_map]; show _ + 1 ≤ _; omega
        walk_at "go"
        rw [hstep]
        refine ⟨?_, hE, hX, okl, okf.app okk hkb, ?_⟩
        · have : ((left.map (pr L)).map rv ++ [V.tup [.str (tx (nm k.1 (L k.2))), .str (tx (carL k.2))]]) = ((left ++ [k]).map (pr L)).map rv := by
            rw [List.map_append, List.map_append]; rfl
          rw [this]
          walk_at "ls"
        · show lot'.length + (left ++ [k]).length ≤ _
          rw [List.length_append]; show lot'.length + (left.length + 1) ≤ _; omega
      | false =>
        rw [hany] at hstep
        rw [if_neg (by decide)]
        walk_at "go"
        walk_at "cf"
        walk_at "go"
        refine ca_of (n := n + 14) ((fs_put (n := n) hX hrows hnm (carL_ok k.2) ?_).up (by omega)) oA
        rw [others_pr okl.cars k.1 hL hany]
        have hmap : (lot'.map (pr L) ++ [(nm k.1 (L k.2), carL k.2)]) = (lot' ++ [k]).map (pr L) := by rw [List.map_append]; rfl
        rw [hmap]
        have hX2 := hX.set (rows' := (lot' ++ [k]).map (pr L))
        walk_at "go"
        refine op_isnot_none ?_
        refine ⟨_, rfl, ?_⟩
        rw [if_neg (by decide)]
        walk_at "go"
        rw [hstep]
        refine ⟨by walk_at "ls", hE.upd ha1, hX2, okl.app okk (by omega), okf, ?_⟩
        show (lot' ++ [k]).length + left.length ≤ _
        rw [List.length_append]; show (lot'.length + 1) + left.length ≤ _; omega
    · obtain ⟨hm, hE, hX, okl, okf, hln⟩ := h'
      rw [List.length_map, List.length_map, List.take_length] at hm hX okl okf hln
      have hh' : 5 - h = (5 - (h + 1)) + 1 := by omega
      rw [hh'] at hR
      unfold allR at hR
      generalize round1 lot [] road = S at hm hX okl okf hln hR
      obtain ⟨lot', left⟩ := S
      dsimp only at hm hX okl okf hln hR
      refine AW.less ?_ hm
      walk_at "go"
      walk_at "cf"
      walk_at "go"
      walk_at "cf"
      walk_at "go"
      refine op_add_int .int .int ?_
      walk_at "go"
      have ew : ((wv : Int) + (0 + (h : Nat))) = ((wv + h : Nat) : Int) := by omega
      rw [ew]
      have hrl := okf.oks (by omega) (by omega)
      refine ca_of (n := n + 14) (fs_sent (n := n) (rows := left.map (pr L)) .lst hrl (by rw [List.length_map]; omega) (fun r hr => ?_) (wv + h) ?_) oA
      · obtain ⟨k, hk, rfl⟩ := List.mem_map.mp hr
        have := okf.b k hk
        show (nm k.1 (L k.2)).length < 100
        unfold nm; rw [List.length_append, List.length_replicate]; show k.1 + 1 < 100; omega
      rw [sent_all okf]
      walk_at "go"
      have hfl : (further left).length = left.length := by rw [further_map, List.length_map]
      refine ca_of (n := n + 14) ((fs_make_l (n := n) .lst (okf.further.oks (by omega) (by omega)) True.intro (fun b e => by cases e) fun y' dy' led₃ hx3 hY' => ?_).up (by omega)) oA
      walk_at "go"
      walk_at "cf"
      walk_at "go"
      refine ca_of (n := n + 14) ((fs_not (n := n) hY' (okf.further.oks (by omega) (by omega)) ?_).up (by omega)) oA
      walk_at "go"
      refine op_is_bool ?_
      refine ⟨_, rfl, ?_⟩
      rw [List.length_map, hfl]
      have hX3 := hX.ext hx3
      cases left with
      | nil =>
        dsimp only at hR
        rw [if_pos (by rfl)]
        walk_at "go"
        rw [hR] at hX3
        exact q _ x dx a (hE.trans hx3) hX3
      | cons k left =>
        dsimp only at hR
        rw [if_neg (by simp)]
        walk_at "go"
        refine ⟨lot', further (k :: left), y', dy', _, by omega, hR, by rw [hfl]; simp only [List.length_cons] at hln ⊢; omega, okl, okf.further, by walk_at "ls", hE.trans hx3, hX3, hY'⟩
  · obtain ⟨lot, road, y, dy, l, h5, hR, hlen, okl, okr, hm, hE, hX, hY⟩ := h'
    exact absurd hR.symm hne
end
end
section
noncomputable def brkS (rev : List Pc) (s : List Pc × List Bk) (place : Nat) : List Pc × List Bk := match lastOf (s.1 ++ sel place rev) with
  | none => ([], s.2)
  | some (i, k) => (i, s.2 ++ [⟨place - k.1, k.2, place⟩])
theorem brkS_run (rev : List Pc) : ∀ (ps : List Nat) (w : List Pc) (r : List Bk), (ps.foldl (brkS rev) (w, r)).2 = r ++ brk rev w ps
  | [], w, r => by simp [brk]
  | p :: ps, w, r => by
    rw [List.foldl_cons]
    unfold brk
    cases e : lastOf (w ++ sel p rev) with
    | none =>
      have es : brkS rev (w, r) p = ([], r) := by unfold brkS; rw [e]
      rw [es]; exact brkS_run rev ps [] r
    | some z =>
      obtain ⟨i, k⟩ := z
      have es : brkS rev (w, r) p = (i, r ++ [⟨p - k.1, k.2, p⟩]) := by unfold brkS; rw [e]
      rw [es, brkS_run rev ps i]
      simp
theorem lastOf_some : ∀ {l : List Pc} {i : List Pc} {k : Pc}, lastOf l = some (i, k) → l = i ++ [k]
  | [], i, k, h => by cases h
  | a :: l, i, k, h => by
    unfold lastOf at h
    cases e : lastOf l with
    | none =>
      rw [e] at h
      cases h
      cases l with
      | nil => rfl
      | cons b l =>
        unfold lastOf at e
        split at e <;> cases e
    | some z =>
      obtain ⟨i', z⟩ := z
      rw [e] at h
      cases h
      rw [lastOf_some e]; rfl
theorem lastOf_none : ∀ {l : List Pc}, lastOf l = none → l = []
  | [], _ => rfl
  | b :: l, e => by
    unfold lastOf at e
    split at e <;> cases e
theorem sel_filter (p : Nat) : ∀ l : List Pc, sel p l = l.filter fun k => k.1 == p
  | [] => rfl
  | k :: l => by
    unfold sel
    rw [List.filter_cons, nbq, sel_filter p l]
    cases Nat.beq k.1 p <;> rfl
noncomputable def bk4 (L : Nat → Nat) (b : Bk) : Row4 := ⟨(b.late : Nat), carL b.car, (b.place : Nat), [L b.car]⟩
theorem carL_lt : ∀ {c d : Nat}, c < 5 → d < 5 → (decide (carL c < carL d) = Nat.ble (c + 1) d) := by
  have : ∀ c : Fin 5, ∀ d : Fin 5, (decide (carL c < carL d) = Nat.ble (c.1 + 1) d.1) := by decide +kernel
  intro c d hc hd
  exact this ⟨c, hc⟩ ⟨d, hd⟩
theorem int_lt_ble (a b : Nat) : decide ((a : Int) < (b : Int)) = Nat.ble (a + 1) b := by
  rw [Bool.eq_iff_iff, decide_eq_true_eq]
  constructor
  · intro h; exact Nat.ble_eq_true_of_le (by omega)
  · intro h; have := Nat.le_of_ble_eq_true h; omega
theorem bk4_lt (L : Nat → Nat) {a b : Bk} (ha : a.car < 5) (hb : b.car < 5) : (bk4 L a).lt (bk4 L b) = a.lt b := by
  unfold Row4.lt Bk.lt bk4
  dsimp only
  rw [nat_beq_int, nbq]
  cases h1 : Nat.beq a.late b.late with
  | false =>
    rw [if_neg (by decide)]
    exact int_lt_ble _ _
  | true =>
    rw [if_pos rfl, cond_true]
    cases h2 : Nat.beq a.car b.car with
    | false =>
      have hne : a.car ≠ b.car := fun e => by rw [e, Nat.beq_refl] at h2; cases h2
      rw [if_neg fun e => hne (carL_inj ha hb e), cond_false]
      exact carL_lt ha hb
    | true =>
      have he := Nat.eq_of_beq_eq_true h2
      rw [if_pos (by rw [he]), cond_true, nat_beq_int, nbq]
      cases h3 : Nat.beq a.place b.place with
      | false => rw [if_neg (by decide)]; exact int_lt_ble _ _
      | true =>
        have hp := Nat.eq_of_beq_eq_true h3
        rw [if_pos rfl, if_pos (by rw [he]), hp]
        cases e : Nat.ble (b.place + 1) b.place with
        | false => rfl
        | true => have := Nat.le_of_ble_eq_true e; omega
theorem runT_congr {less less' : Nat → Nat → Bool} (h : ∀ i j, i < 5 → j < 5 → less i j = less' i j) : ∀ (d : Nat) (t : KasT (Array Nat)), okT d t = true → runT less t = runT less' t ∧ ∀ i ∈ (runT less t).toList, i < 5
  | _, .ret p, ho => by
    have h' : (p.toList.all fun i => decide (i < 5)) = true := by
      rename_i d; cases d <;> exact ho
    exact ⟨rfl, fun i hi => of_decide_eq_true (List.all_eq_true.mp h' i hi)⟩
  | 0, .ask .., ho => by cases ho
  | d + 1, .ask i j k, ho => by
    unfold okT at ho
    simp only [Bool.and_eq_true, decide_eq_true_eq] at ho
    obtain ⟨⟨⟨h1, h2⟩, h3⟩, h4⟩ := ho
    unfold runT
    rw [← h i j h1 h2]
    cases less i j with
    | true => exact runT_congr h d _ h3
    | false => exact runT_congr h d _ h4
theorem sort_bk (L : Nat → Nat) {B : List Bk} (h5 : B.length = 5) (hc : ∀ b ∈ B, b.car < 5) : sort5 (B.map (bk4 L)) = (sortB B).map (bk4 L) := by
  have get : ∀ i, i < 5 → (B.map (bk4 L)).getD i Row4.zero = bk4 L (B.getD i Bk.zero) := fun i hi => by
    rw [List.getD_eq_getElem?_getD, List.getD_eq_getElem?_getD, List.getElem?_map, List.getElem?_eq_getElem (by omega)]; rfl
  have car : ∀ i, i < 5 → (B.getD i Bk.zero).car < 5 := fun i hi => by
    rw [List.getD_eq_getElem?_getD, List.getElem?_eq_getElem (by omega)]
    exact hc _ (List.getElem_mem _)
  obtain ⟨e1, e2⟩ := runT_congr (less := fun i j => ((B.map (bk4 L)).getD i Row4.zero).lt ((B.map (bk4 L)).getD j Row4.zero)) (less' := fun i j => (B.getD i Bk.zero).lt (B.getD j Bk.zero)) (fun i j hi hj => by
    rw [get i hi, get j hj, bk4_lt L (car i hi) (car j hj)]) 30 (kas_sort 5) ok5
  unfold sort5 sortB
  rw [← e1, List.map_map]
  exact List.map_congr_left fun i hi => get i (e2 i hi)
theorem brk_cars (rev : List Pc) (h : ∀ k ∈ rev, k.2 < 5) : ∀ (ps : List Nat) (w : List Pc), (∀ k ∈ w, k.2 < 5) → ∀ b ∈ brk rev w ps, b.car < 5
  | [], w, _, b, hb => by cases hb
  | p :: ps, w, hw, b, hb => by
    unfold brk at hb
    cases e : lastOf (w ++ sel p rev) with
    | none => rw [e] at hb; exact brk_cars rev h ps [] (fun k hk => by cases hk) b hb
    | some z =>
      obtain ⟨i, k⟩ := z
      rw [e] at hb
      have el := lastOf_some e
      have all : ∀ z ∈ i ++ [k], z.2 < 5 := fun z hz => by
        rw [← el, List.mem_append] at hz
        rcases hz with hz | hz
        · exact hw z hz
        · rw [sel_filter] at hz; exact h z (List.mem_filter.mp hz).1
      rcases List.mem_cons.mp hb with rfl | hb
      · exact all k (List.mem_append_right _ (.head _))
      · exact brk_cars rev h ps i (fun z hz => all z (List.mem_append_left _ hz)) b hb
end
section
section
variable {P : Params} {n : Nat} {led : Led} {Q : V → Led → Prop} {prog : Program} {w : World}
theorem here_tc (L : Nat → Nat) (p : Nat) : ∀ l : List Pc, ((l.map (tc L)).map cv).filterMap (here? p) = ((sel p l).map (tc L)).map cv
  | [] => rfl
  | k :: l => by
    rw [here_all, sel_filter]
    rw [List.filter_map]
    rfl
noncomputable def last? (L : Nat → Nat) : V → Option V
  | .tup [.int l, .str c, .int p, .str t] => some (.tup [.int p, .str t, .str c])
  | _ => none
inductive BkI (L : Nat → Nat) (W0 : V) (led : Led) (S : List Pc × List Bk) (i : Nat) (m : Loc) (led' : Led) : Prop
  | mk (aw ar : Addr) : aw ≠ ar → Ext led led' → led aw = none → led ar = none → Less [("wishes", W0), ("waiting", .own aw), ("rows", .own ar)] m →
      led' aw = some (.list ((S.1.map (tc L)).map cv)) → led' ar = some (.list ((S.2.map (bk4 L)).map Row4.v)) → OkP L i S.1 → S.1.length ≤ 5 * i → S.2.length ≤ i → BkI L W0 led S i m led'
theorem fs_brackets {L : Nat → Nat} {a b c d e : Nat} {B : List Bk} (hok : OkP L 9 (rowsOf a b c d e)) (hB : brk (rowsOf a b c d e).reverse [] [1, 2, 3, 4, 5, 6, 7, 8, 9] = B) (h5 : B.length = 5) (hsl : (sortB B).length ≤ 1000)
    (q : Q (.lst (((sortB B).map fun k => (k.place, L k.car, k.car)).map cv)) led) :
    FS prog w (Mine.hd.heap_39 P) (n+1) (.ref 275) [.lst (((rowsOf a b c d e).map (tc L)).map cv)] [] led Q := by
  refine FS.drop ?_
  refine fs_def (m₀ := [("wishes", .lst (((rowsOf a b c d e).map (tc L)).map cv))]) (by k_is) (by k_is) ?_ ?_ ?_ ?_ ?_ ?_ ?_ ?_
  walk_at "fs"
  intro A L₀ oA
  walk_at "go"
  first | refine ex_assign_two oA.hh ?_ rfl rfl | refine ex_assign_tuple ?_ rfl rfl
  walk_at "go"
  refine list_own ?_
  walk_at "go"
  refine ⟨Nat.zero_le _, fun aw haw => ?_⟩
  walk_at "go"
  refine list_own ?_
  walk_at "go"
  refine ⟨Nat.zero_le _, fun ar har => ?_⟩
  walk_at "go"
  refine ⟨by rw [sizeLine_eq]; exact (by decide : 2 ≤ 16777216), _, _, rfl, ?_⟩
  walk_at "go"
  refine ex_for oA.hh ?_ fun _ => rfl
  walk_at "go"
  walk_at "ct"
  walk_at "go"
  refine ca_range2 .int .int ?_
  have hwr : aw ≠ ar := fun z => by subst z; rw [upd_eq] at har; cases har
  generalize hrev : (rowsOf a b c d e).reverse = rev at hB
  have hrows : ((rowsOf a b c d e).map (tc L)).map cv = ((rev.map (tc L)).map cv).reverse := by
    rw [← hrev, ← List.map_reverse, ← List.map_reverse, List.reverse_reverse]
  refine ⟨_, _, src_range (n := 9) (.inl (by decide)) (by decide) (by decide) (by decide) (by decide), fun i m led' => BkI L (.lst (((rowsOf a b c d e).map (tc L)).map cv)) led ((List.range' 1 i).foldl (brkS rev) ([], [])) i m led',
    ⟨aw, ar, hwr, ?_, haw, ?_, by walk_at "ls", ?_, upd_eq _ _ _, ⟨fun k hk => (by cases hk), fun k hk => (by cases hk)⟩, Nat.zero_le _, Nat.zero_le _⟩, fun i m led' h' => True.intro, fun i d m led' he h' => ?_, fun m led' h' => ?_⟩
  · intro x ao hx
    have h1 : x ≠ aw := fun z => by subst z; rw [hx] at haw; cases haw
    have h2 : x ≠ ar := fun z => by subst z; rw [upd_ne hx h1] at har; cases har
    exact upd_ne (upd_ne hx h1) h2
  · cases e : led ar with
    | none => rfl
    | some ao => rw [upd_ne e (Ne.symm hwr)] at har; cases har
  · exact upd_ne (upd_eq _ _ _) hwr
  · obtain ⟨aw, ar, hwr, hx, haw, har, hm, hw, hr, okw, hwl, hrl⟩ := h'
    obtain ⟨hi, rfl⟩ := rints_at he
    have hfold : (List.range' 1 (i + 1)).foldl (brkS rev) ([], []) = brkS rev ((List.range' 1 i).foldl (brkS rev) ([], [])) (1 + i) := by
      rw [List.range'_concat, List.foldl_append, Nat.one_mul]; rfl
    generalize (List.range' 1 i).foldl (brkS rev) ([], []) = S at hw hr okw hwl hrl hfold
    obtain ⟨wt, rs⟩ := S
    dsimp only at hw hr okw hwl hrl hfold
    refine A1.less ?_ hm
    walk_at "go"
    have ei : ((1 : Int) + (i : Nat)) = ((1 + i : Nat) : Int) := by omega
    rw [ei]
    refine ev_comp oA.hh rfl rfl (by decide) ?_ fun _ => rfl
    refine ev_slice ?_ fun o b => ⟨_, rfl⟩
    walk_at "go"
    refine op_neg_int .int ?_
    refine ⟨-1, .inl rfl, ?_⟩
    walk_at "go"
    refine ⟨.inl ⟨_, .lst⟩, gs_list .lst (by rw [List.length_map, List.length_map]; exact (by decide : 5 ≤ 16777216)) (by decide) ?_⟩
    have hp : pick (((rowsOf a b c d e).map (tc L)).map cv) none none (some (-1)) = (rev.map (tc L)).map cv := by
      rw [← hrev]
      exact pick_rev5 _ _ _ _ _
    rw [hp]
    have hrl5 : rev.length = 5 := by rw [← hrev]; rfl
    refine ⟨_, _, none, [("place", .int ((1 + i : Nat) : Int))], here? (1 + i), src_list, True.intro, fun led' e => True.intro, by rw [sizeLine_eq, List.length_map, List.length_map]; omega, by walk_at "clo", by walk_at "ful", fun C cl' j d led' he hx hcl => ?_, ?_⟩
    · subst hcl
      obtain ⟨r, hr1, hr2, rfl⟩ := cv_at he
      rw [here_cv]
      unfold Each
      walk_at "go"
      refine ev_sub ?_ fun o b => ⟨_, rfl⟩
      walk_at "go"
      unfold cv
      walk_at "it0"
      walk_at "go"
      refine op_eq_int .int .int ?_
      refine ⟨_, rfl, ?_⟩
      by_cases hc : (((r.1 : Nat) : Int) == ((1 + i : Nat) : Int)) = true
      · rw [if_pos hc, if_pos hc]
        walk_at "go"
        exact ⟨by walk_at "ls", rfl, rfl⟩
      · rw [if_neg hc, if_neg hc]
        exact ⟨by walk_at "ls", rfl, rfl⟩
    rw [here_tc]
    have hsl : (sel (1 + i) rev).length ≤ 5 := by rw [sel_filter]; exact Nat.le_trans (List.length_filter_le _ _) (by omega)
    refine op_add_list_own (.own hw) .lst (by simp only [List.length_map]; omega) fun a' ha' => ?_
    have happ : ((wt.map (tc L)).map cv ++ ((sel (1 + i) rev).map (tc L)).map cv) = ((wt ++ sel (1 + i) rev).map (tc L)).map cv := by rw [List.map_append, List.map_append]
    rw [happ]
    have okW : OkP L (1 + i) (wt ++ sel (1 + i) rev) := ⟨fun k hk => by
      rcases List.mem_append.mp hk with hk | hk
      · exact okw.ok k hk
      · rw [sel_filter] at hk
        have := (List.mem_filter.mp hk).1
        rw [← hrev, List.mem_reverse] at this
        exact hok.ok k this, fun k hk => by
      rcases List.mem_append.mp hk with hk | hk
      · exact Nat.le_trans (okw.b k hk) (by omega)
      · rw [sel_filter] at hk
        have := (List.mem_filter.mp hk).2
        simp at this; omega⟩
    have hWl : (wt ++ sel (1 + i) rev).length ≤ 5 * (i + 1) := by rw [List.length_append]; omega
    have hstep : brkS rev (wt, rs) (1 + i) = match lastOf (wt ++ sel (1 + i) rev) with
      | none => ([], rs)
      | some (i', k) => (i', rs ++ [⟨1 + i - k.1, k.2, 1 + i⟩]) := rfl
    generalize wt ++ sel (1 + i) rev = W at hstep okW hWl
    have hra : ar ≠ a' := fun z => by subst z; rw [hr] at ha'; cases ha'
    have hla : led a' = none := by
      cases e : led a' with
      | none => rfl
      | some ao => rw [hx _ _ e] at ha'; cases ha'
    have hx2 : Ext led (upd led' a' (.list ((W.map (tc L)).map cv))) := fun x ao e => upd_ne (hx x ao e) (fun z => by subst z; rw [e] at hla; cases hla)
    walk_at "go"
    refine list_ ?_
    walk_at "go"
    refine ⟨Nat.zero_le _, ?_⟩
    refine op_ne_list (.own (upd_eq _ _ _)) .lst (plain_cv okW.cars) ⟨rfl, Nat.zero_le _⟩ (by have := oA.hu; dsimp only; omega) ?_
    refine ⟨_, rfl, ?_⟩
    cases hl : lastOf W with
    | none =>
      rw [hl] at hstep
      dsimp only at hstep
      have := lastOf_none hl
      subst this
      rw [if_neg (by exact Bool.false_ne_true)]
      walk_at "go"
      rw [hfold, hstep]
      exact ⟨a', ar, Ne.symm hra, hx2, hla, har, by walk_at "ls", upd_eq _ _ _, upd_ne hr hra, ⟨fun k hk => (by cases hk), fun k hk => (by cases hk)⟩, Nat.zero_le _, by show rs.length ≤ i + 1; omega⟩
    | some z =>
      obtain ⟨ini, k⟩ := z
      rw [hl] at hstep
      dsimp only at hstep
      have hW := lastOf_some hl
      subst hW
      have hk1 := okW.b k (List.mem_append_right _ (.head _))
      rw [if_pos (by rw [List.map_append, List.map_append]; cases ini <;> rfl)]
      walk_at "go"
      refine ex_assign_tuple ?_ rfl rfl
      walk_at "go"
      have hL2 : (upd led' a' (.list (((ini ++ [k]).map (tc L)).map cv))) a' = some (.list ((ini.map (tc L)).map cv ++ [cv (tc L k)])) := by
        rw [upd_eq, List.map_append, List.map_append]; rfl
      refine ⟨_, gm_own hL2 F.slot_list_pop ty_pop, keep_builtin, ?_⟩
      walk_at "go"
      have hil : (ini ++ [k]).length = ini.length + 1 := by rw [List.length_append]; rfl
      refine ca_pop hL2 (by simp only [List.length_map]; omega) ?_
      rw [upd_upd]
      have hx3 : Ext led (upd led' a' (.list ((ini.map (tc L)).map cv))) := fun x ao e => upd_ne (hx x ao e) (fun z => by subst z; rw [e] at hla; cases hla)
      have hr3 : (upd led' a' (.list ((ini.map (tc L)).map cv))) ar = some (.list ((rs.map (bk4 L)).map Row4.v)) := upd_ne hr hra
      show AT _ _ (.tup [_, _, _]) _ _ _
      refine at_tuple oA.hh rfl rfl ?_
      walk_at "go"
      refine ex_drop ?_ rfl rfl
      walk_at "go"
      refine ⟨_, gm_own hr3 F.slot_list_append ty_append, keep_builtin, ?_⟩
      walk_at "go"
      refine op_sub_int .int .int ?_
      walk_at "go"
      refine ⟨by rw [sizeLine_eq]; exact (by decide : 4 ≤ 16777216), ?_⟩
      walk_at "go"
      refine ca_append hr3 (by simp only [List.length_map]; omega) ?_
      refine ⟨.inl rfl, ?_⟩
      walk_at "go"
      rw [hfold, hstep]
      refine ⟨a', ar, Ne.symm hra, fun x ao e => upd_ne (hx3 x ao e) (fun z => by subst z; rw [e] at har; cases har), hla, har, by walk_at "ls", upd_ne (upd_eq _ _ _) (Ne.symm hra), ?_, ⟨fun z hz => okW.ok z (List.mem_append_left _ hz), fun z hz => by have := okW.b z (List.mem_append_left _ hz); omega⟩, ?_, ?_⟩
      · rw [upd_eq]
        have el : (((1 + i : Nat) : Int) - (((tc L k).1 : Nat) : Int)) = ((1 + i - k.1 : Nat) : Int) := by
          show ((1 + i : Nat) : Int) - ((k.1 : Nat) : Int) = _
          omega
        rw [el, List.map_append, List.map_append]; rfl
      · show ini.length ≤ _; omega
      · show (rs ++ [_]).length ≤ _; rw [List.length_append]; show rs.length + 1 ≤ _; omega
  · obtain ⟨aw, ar, hwr, hx, haw, har, hm, hw, hr, okw, hwl, hrl⟩ := h'
    have hlen9 : (rints 1 9).length = 9 := rfl
    rw [hlen9] at hr
    have hrun := brkS_run rev (List.range' 1 9) [] []
    rw [List.nil_append, show List.range' 1 9 = [1, 2, 3, 4, 5, 6, 7, 8, 9] from rfl, hB] at hrun
    rw [show List.range' 1 9 = [1, 2, 3, 4, 5, 6, 7, 8, 9] from rfl, hrun] at hr
    have hcars : ∀ b ∈ B, b.car < 5 := by
      rw [← hB]
      refine brk_cars rev (fun k hk => ?_) _ [] fun k hk => (by cases hk)
      rw [← hrev, List.mem_reverse] at hk
      exact (hok.ok k hk).c
    refine AW.less ?_ hm
    walk_at "go"
    refine ev_comp oA.hh rfl rfl (by decide) ?_ fun _ => rfl
    walk_at "go"
    walk_at "cb"
    walk_at "go"
    refine ca_sorted4 (.own hr) (by rw [List.length_map, h5]) ?_
    rw [sort_bk L h5 hcars]
    refine ⟨_, _, none, [], last? L, src_list, True.intro, fun led' e => True.intro, by rw [sizeLine_eq, List.length_map, List.length_map]; omega, by walk_at "clo", by walk_at "ful", fun C cl' j d led' he hx hcl => ?_, ?_⟩
    · subst hcl
      obtain ⟨z, hz, rfl⟩ : ∃ z, z ∈ sortB B ∧ d = (bk4 L z).v := by
        have := List.mem_of_getElem? he
        obtain ⟨r, h1, h2⟩ := List.mem_map.mp this
        obtain ⟨z, h3, rfl⟩ := List.mem_map.mp h1
        exact ⟨z, h3, h2.symm⟩
      refine each_nil ?_
      show AT _ _ (.tup [_, _, _, _]) _ _ _
      refine at_tuple oA.hh rfl rfl ?_
      walk_at "go"
      refine ⟨by rw [sizeLine_eq]; exact (by decide : 3 ≤ 16777216), ?_⟩
      exact ⟨by walk_at "ls", rfl, rfl⟩
    · walk_at "go"
      refine ⟨hx, ?_⟩
      have : (((sortB B).map (bk4 L)).map Row4.v).filterMap (last? L) = ((sortB B).map fun k => (k.place, L k.car, k.car)).map cv := by
        rw [List.filterMap_map, List.filterMap_map, List.map_map, ← List.filterMap_eq_map]; rfl
      rw [this]; exact q
end
end
section
theorem count_nm {p l : Nat} (h : l = 112 ∨ l = 80) : (nm p l).count 46 = p := by
  unfold nm
  rw [List.count_append, List.count_replicate_self]
  rcases h with rfl | rfl <;> simp
theorem count_carL (c : Nat) : (carL c).count 46 = 0 := by
  rw [List.count_eq_zero]
  intro h
  have : 46 ∈ [97, 98, 99, 100] := List.mem_of_mem_take h
  revert this; decide
theorem count_line {k : Car} (h : OkC k) : (line (toRow k) ++ [13, 10]).count 46 = k.1 := by
  unfold line toRow
  simp only [List.count_append, count_nm h.l, count_carL]
  have h1 : [58, 32].count 46 = 0 := by decide
  have h2 : [13, 10].count 46 = 0 := by decide
  rw [h1, h2]; rfl
theorem count_text : ∀ {R : List Car}, (∀ k ∈ R, OkC k) → (text (R.map toRow)).count 46 = (pl R).sum
  | [], _ => rfl
  | k :: R, h => by
    have ih := count_text fun z hz => h z (.tail _ hz)
    unfold text pl at *
    rw [List.map_cons, List.flatMap_cons, List.append_assoc, List.count_append, ih, count_line (h k (.head _))]
    rfl
theorem nm_ne {p q l l' : Nat} (h : p ≠ q) : nm p l ≠ nm q l' := fun e => h (by
  have := congrArg List.length e
  simpa [nm] using this)
theorem count_names : ∀ {R : List Car}, (pl R).Nodup → ∀ k ∈ R, (R.map fun z => nm z.1 z.2.1).count (nm k.1 k.2.1) = 1
  | [], _, k, hk => by cases hk
  | a :: R, nd, k, hk => by
    unfold pl at nd
    rw [List.map_cons, List.nodup_cons] at nd
    rw [List.map_cons, List.count_cons]
    have zero : ∀ z : Car, z.1 ∉ R.map (·.1) → (R.map fun z => nm z.1 z.2.1).count (nm z.1 z.2.1) = 0 := fun z hz => by
      rw [List.count_eq_zero]
      intro m
      obtain ⟨y, hy, e⟩ := List.mem_map.mp m
      by_cases hp : y.1 = z.1
      · exact hz (List.mem_map.mpr ⟨y, hy, hp⟩)
      · exact nm_ne hp e
    rcases List.mem_cons.mp hk with rfl | hk
    · rw [zero k nd.1]; simp
    · rw [count_names nd.2 k hk]
      have : nm a.1 a.2.1 ≠ nm k.1 k.2.1 := nm_ne fun e => nd.1 (List.mem_map.mpr ⟨k, hk, e.symm⟩)
      rw [if_neg (by simpa using this)]
noncomputable def name? : V → Option V
  | .tup [.int p, .str t, .str c] => some (.str (tx (List.replicate p.toNat [46]).flatten ++ t))
  | _ => none
theorem flat46 (p : Nat) : (List.replicate p [46]).flatten = List.replicate p 46 := by
  induction p with
  | zero => rfl
  | succ p ih => rw [List.replicate_succ, List.flatten_cons, ih]; rfl
theorem nm_tx (p l : Nat) : tx (List.replicate p [46]).flatten ++ tx [l] = tx (nm p l) := by rw [tx_append, flat46]; rfl
theorem name_cv (k : Car) : name? (cv k) = some (.str (tx (nm k.1 k.2.1))) := by
  show some (V.str (tx (List.replicate ((k.1 : Nat) : Int).toNat [46]).flatten ++ tx [k.2.1])) = _
  rw [Int.toNat_natCast, nm_tx]
noncomputable def pair? (R : List Car) : V → Option V
  | .int k => (R[k.toNat]?).map fun z => rv (toRow z)
  | _ => none
theorem pair_all (R : List Car) : (rints 0 R.length).filterMap (pair? R) = (R.map toRow).map rv := by
  unfold rints
  rw [List.filterMap_map, List.map_map]
  have : ∀ l : List Nat, l.filterMap (pair? R ∘ fun i => V.int (0 + (i : Nat))) = (l.filterMap (R[·]?)).map (rv ∘ toRow) := by
    intro l
    induction l with
    | nil => rfl
    | cons i l ih =>
      rw [List.filterMap_cons, List.filterMap_cons]
      have e : (pair? R ∘ fun i => V.int (0 + (i : Nat))) i = (R[i]?).map fun z => rv (toRow z) := by
        show (R[((0 : Int) + (i : Nat)).toNat]?).map _ = _
        rw [show ((0 : Int) + (i : Nat)).toNat = i by omega]
      rw [e]
      cases R[i]? with
      | none => exact ih
      | some z =>
        dsimp only [Option.map_some]
        rw [ih]; rfl
  rw [this, List.range_eq_range', range_all, List.take_length]
noncomputable def typed2? : V → Option V
  | .tup [.int p, .str t, .str c] => some (.str (tx (List.replicate p.toNat [46]).flatten ++ t ++ Str.ofString ": " ++ c ++ Str.ofString "\r\n"))
  | _ => none
theorem line_tx (k : Car) : tx (List.replicate k.1 [46]).flatten ++ tx [k.2.1] ++ Str.ofString ": " ++ tx (carL k.2.2) ++ Str.ofString "\r\n" = tx (line (toRow k) ++ [13, 10]) := by
  rw [nm_tx, colon, crlf, tx_append, tx_append, tx_append]; rfl
theorem typed2_cv (k : Car) : typed2? (cv k) = some (.str (tx (line (toRow k) ++ [13, 10]))) := by
  show some (V.str (tx (List.replicate ((k.1 : Nat) : Int).toNat [46]).flatten ++ tx [k.2.1] ++ Str.ofString ": " ++ tx (carL k.2.2) ++ Str.ofString "\r\n")) = _
  rw [Int.toNat_natCast, line_tx]
theorem joinL_nil (ts : List (List Nat)) : joinL [] ts = ts.flatten := by
  cases ts with
  | nil => rfl
  | cons a r =>
    show a ++ r.flatMap ([] ++ ·) = _
    rw [List.flatten_cons]
    congr 1
    simp [List.flatMap]
theorem pd_num : ∀ ns : List Int, pds (ns.map .num) = pds (ns.map .int)
  | [] => rfl
  | n :: ns => by show pd (.num n) :: pds (ns.map .num) = pd (.int n) :: pds (ns.map .int); rw [pd_num ns]; rfl
theorem pOk_ints : ∀ ns : List Int, pOks (ns.map .int) = true
  | [] => rfl
  | n :: ns => by show (true && pOks (ns.map .int)) = true; rw [pOk_ints ns]; rfl
theorem pOk_nums : ∀ ns : List Int, pOks (ns.map .num) = true
  | [] => rfl
  | n :: ns => by show (true && pOks (ns.map .num)) = true; rw [pOk_nums ns]; rfl
theorem depth_ints : ∀ ns : List Int, PyData.depthAll (pds (ns.map .int)) = 0
  | [] => rfl
  | n :: ns => by show max 0 (PyData.depthAll (pds (ns.map .int))) = 0; rw [depth_ints ns]; rfl
theorem plain_ints (ns : List Int) : Plain (ns.map .int) := ⟨pOk_ints ns, by rw [depth_ints]; exact Nat.zero_le _⟩
theorem plain_nums (ns : List Int) : Plain (ns.map .num) := ⟨pOk_nums ns, by rw [pd_num, depth_ints]; exact Nat.zero_le _⟩
theorem sorted_same : ∀ {l k : List Int}, l.Perm k → l.Pairwise (· ≤ ·) → k.Pairwise (· ≤ ·) → l = k := fun h h1 h2 => h.eq_of_pairwise (fun a b _ _ x y => Int.le_antisymm x y) h1 h2
theorem plain_rows {R : List Car} (h : ∀ k ∈ R, OkC k) (hp : ∀ k ∈ R, k.1 ≤ 90) : Plain ((R.map toRow).map rv) := by
  induction R with
  | nil => exact ⟨rfl, Nat.zero_le _⟩
  | cons k R ih =>
    obtain ⟨h1, h2⟩ := ih (fun z hz => h z (.tail _ hz)) fun z hz => hp z (.tail _ hz)
    have ok := toRow_ok (h k (.head _)) (hp k (.head _))
    refine ⟨?_, ?_⟩
    · show ((PyData.strOk (tx (toRow k).1) && (PyData.strOk (tx (toRow k).2) && true)) && pOks ((R.map toRow).map rv)) = true
      rw [strOk_tx _ ok.1.ascii, strOk_tx _ ok.2.ascii, h1]; rfl
    · show max (PyData.depth (pd (rv (toRow k)))) (PyData.depthAll (pds ((R.map toRow).map rv))) ≤ 60
      exact Nat.max_le.mpr ⟨by show 1 ≤ 60; decide, h2⟩
end
section
section
variable {P : Params} {n : Nat} {led : Led} {Q : V → Led → Prop} {prog : Program} {w : World}
noncomputable def dots? : V → Option V
  | .str s => some (.int (s.length - 1))
  | _ => none
theorem dots_nm (z : Car) : dots? (V.str (tx (nm z.1 z.2.1))) = some (.int (z.1 : Nat)) := by
  show some (V.int (((tx (nm z.1 z.2.1)).length : Int) - 1)) = _
  rw [tx_length]
  unfold nm
  rw [List.length_append, List.length_replicate]
  have : (((z.1 + [z.2.1].length : Nat) : Int) - 1) = (z.1 : Nat) := by show (((z.1 + 1 : Nat) : Int) - 1) = _; omega
  rw [this]
theorem count_one (a : Nat) : ∀ l : List Nat, (l.map fun c => [c]).count [a] = l.count a
  | [] => rfl
  | b :: l => by
    rw [List.map_cons, List.count_cons, List.count_cons, count_one a l]
    by_cases h : b = a
    · subst h; simp
    · rw [if_neg (by simpa using h), if_neg (by simpa using h)]
theorem count_cast : ∀ l : List Nat, (l.map fun c : Nat => (c : Int)).count ((46 : Nat) : Int) = l.count 46
  | [] => rfl
  | b :: l => by
    rw [List.map_cons, List.count_cons, List.count_cons, count_cast l, nat_beq_int]
theorem sum_cast : ∀ l : List Nat, (l.map fun c : Nat => (c : Int)).sum = ((l.sum : Nat) : Int)
  | [] => rfl
  | b :: l => by rw [List.map_cons, List.sum_cons, List.sum_cons, sum_cast l]; omega
theorem fs_holds {R : List Car} {ps : List Nat} {x dx a : Addr} {xr xp : V} (hok : ∀ k ∈ R, OkC k) (hb : ∀ k ∈ R, k.1 ≤ 60) (hlen : R.length = 5) (hnd : (pl R).Nodup) (hperm : (pl R).Perm ps) (hsort : ps.Pairwise (· ≤ ·))
    (hD : HD led x dx (.own a) (R.map toRow)) (hr : IsL led xr (R.map cv)) (hp : IsL led xp (ps.map fun p : Nat => V.int (p : Int))) (q : Q (.bool true) led) :
    FS prog w (Mine.hd.heap_39 P) (n+20) (.ref 285) [.own x, xr, xp] [] led Q := by
  refine fs_def (m₀ := [("lot", .own x), ("rows", xr), ("places", xp)]) (by k_is) (by k_is) ?_ ?_ ?_ ?_ ?_ ?_ ?_ ?_
  walk_at "fs"
  intro A L₀ oA
  have hrows := rows_oks hok (fun r h => Nat.le_trans (hb r h) (by decide)) (by omega)
  have hun : A.units < 9000 := by have := oA.hu; omega
  walk_at "go"
  first | refine ex_assign_two oA.hh ?_ rfl rfl | refine ex_assign_tuple ?_ rfl rfl
  walk_at "go"
  refine ev_comp oA.hh rfl rfl (by decide) ?_ fun _ => rfl
  walk_at "go"
  refine ⟨_, _, none, [], name?, src_isl hr, hr, fun led' e => hr.ext e, by rw [sizeLine_eq, List.length_map]; omega, by walk_at "clo", by walk_at "ful", fun C cl' j d led' he hx hcl => ?_, ?_⟩
  · subst hcl
    obtain ⟨r, hr1, hr2, rfl⟩ := cv_at he
    have h60 := hb r hr1
    rw [name_cv]
    refine each_nil ?_
    show AT _ _ (.tup [_, _, _]) _ _ _
    refine at_tuple oA.hh rfl rfl ?_
    walk_at "go"
    refine op_mul_str (l := [46]) (by decide) (by omega) ?_
    walk_at "go"
    refine op_add_str (by rw [tx_length, tx_length, flat46, List.length_replicate]; show _ + 1 ≤ _; omega) ?_
    rw [nm_tx]
    exact ⟨by walk_at "ls", rfl, rfl⟩
  have hnames : (R.map cv).filterMap name? = R.map fun z => V.str (tx (nm z.1 z.2.1)) := by
    rw [List.filterMap_map, ← List.filterMap_eq_map]
    exact fm_congr fun z _ => name_cv z
  rw [hnames]
  walk_at "go"
  walk_at "hm"
  walk_at "go"
  refine ca_of (n := n + 19) ((fs_keys (n := n) hD hrows ?_).up (by omega)) oA
  have hkeys : ((R.map toRow).map fun r => V.str (tx r.1)) = R.map fun z => V.str (tx (nm z.1 z.2.1)) := by rw [List.map_map]; rfl
  rw [hkeys]
  walk_at "go"
  refine ⟨by rw [sizeLine_eq]; exact (by decide : 2 ≤ 16777216), ?_⟩
  refine at_tuple oA.hh rfl rfl ?_
  walk_at "go"
  have hpr := plain_rows hok fun k h => Nat.le_trans (hb k h) (by decide)
  have pnl : Plain (R.map fun z => V.str (tx (nm z.1 z.2.1))) := by
    have := plain_strs (R.map fun z => nm z.1 z.2.1) fun l hl => by
      obtain ⟨z, hz, rfl⟩ := List.mem_map.mp hl
      exact (nm_ok (hok z hz).l (Nat.le_trans (hb z hz) (by decide))).ascii
    rw [List.map_map] at this; exact this
  walk_at "hm"
  walk_at "go"
  refine ca_of (n := n + 19) ((fs_items (n := n) hD hrows ?_).up (by omega)) oA
  refine ev_comp oA.hh rfl rfl (by decide) ?_ fun _ => rfl
  walk_at "go"
  walk_at "ct"
  walk_at "go"
  walk_at "cb"
  walk_at "go"
  refine ca_len hr (by rw [List.length_map]; omega) ?_
  walk_at "go"
  refine ca_range1 .int ?_
  rw [List.length_map]
  refine ⟨_, _, none, [("names", .lst (R.map fun z => V.str (tx (nm z.1 z.2.1)))), ("rows", xr)], pair? R, src_range (n := R.length) (.inl (by omega)) (by decide) (by decide) (by omega) (by omega), True.intro, fun led' e => True.intro, by rw [sizeLine_eq]; unfold rints; rw [List.length_map, List.length_range]; omega, by walk_at "clo", by walk_at "ful", fun C cl' j d led' he hx hcl => ?_, ?_⟩
  · subst hcl
    obtain ⟨hj, rfl⟩ := rints_at he
    have hr' := hr.ext hx
    have eg : pair? R (V.int (0 + (j : Nat))) = some (.tup [.str (tx (nm R[j].1 R[j].2.1)), .str (tx (carL R[j].2.2))]) := by
      show (R[((0 : Int) + (j : Nat)).toNat]?).map _ = _
      rw [show ((0 : Int) + (j : Nat)).toNat = j by omega, List.getElem?_eq_getElem hj]; rfl
    rw [eg]
    refine each_nil ?_
    walk_at "go"
    refine ev_sub ?_ fun o b => ⟨_, rfl⟩
    walk_at "go"
    refine ⟨.inl ⟨_, .lst⟩, op_item_list (k := j) (d := V.str (tx (nm R[j].1 R[j].2.1))) .lst .int (by omega) (by rw [List.length_map]; omega) (by rw [List.getElem?_map, List.getElem?_eq_getElem hj]; rfl) ?_⟩
    walk_at "go"
    refine ev_sub ?_ fun o b => ⟨_, rfl⟩
    refine ev_sub ?_ fun o b => ⟨_, rfl⟩
    walk_at "go"
    refine ⟨.inl ⟨_, hr'⟩, op_item_list (k := j) (d := cv R[j]) hr' .int (by omega) (by rw [List.length_map]; omega) (by rw [List.getElem?_map, List.getElem?_eq_getElem hj]; rfl) ?_⟩
    walk_at "go"
    unfold cv
    walk_at "it2"
    walk_at "go"
    refine ⟨by rw [sizeLine_eq]; exact (by decide : 2 ≤ 16777216), ?_⟩
    exact ⟨by walk_at "ls", rfl, rfl⟩
  rw [pair_all]
  refine op_ne_list .lst .lst hpr hpr hun ?_
  rw [eqvs_same _ hpr.1]
  refine ⟨_, rfl, ?_⟩
  rw [if_neg (by decide)]
  walk_at "go"
  refine op_ne_list .lst .lst pnl pnl hun ?_
  rw [eqvs_same _ pnl.1]
  refine ⟨_, rfl, ?_⟩
  rw [if_neg (by decide)]
  walk_at "go"
  refine ev_comp oA.hh rfl rfl (by decide) ?_ fun _ => rfl
  walk_at "go"
  refine ⟨_, _, none, [("told", .lst (R.map fun z => V.str (tx (nm z.1 z.2.1))))], fun _ => some (.int 1), src_list, True.intro, fun led' e => True.intro, by rw [sizeLine_eq, List.length_map]; omega, by walk_at "clo", by walk_at "ful", fun C cl' j d led' he hx hcl => ?_, ?_⟩
  · subst hcl
    obtain ⟨z, hz, rfl⟩ : ∃ z, z ∈ R ∧ d = V.str (tx (nm z.1 z.2.1)) := by
      have := List.mem_of_getElem? he
      obtain ⟨r, h1, h2⟩ := List.mem_map.mp this
      exact ⟨r, h1, h2.symm⟩
    refine each_nil ?_
    walk_at "go"
    walk_at "cf"
    walk_at "go"
    refine ca_of (n := n + 19) ((fs_count (n := n) (items := R.map fun z => nm z.1 z.2.1) (ok := fun _ => True) (fun A => by rw [List.map_map]; exact src_list) True.intro ?_).up (by omega)) oA
    rw [count_names hnd z hz]
    exact ⟨by walk_at "ls", rfl, rfl⟩
  walk_at "go"
  refine list_ ?_
  walk_at "go"
  refine ⟨by rw [sizeLine_eq]; exact (by decide : 1 ≤ 16777216), ?_⟩
  walk_at "go"
  walk_at "cb"
  walk_at "go"
  refine ca_len hr (by rw [List.length_map]; omega) ?_
  walk_at "go"
  refine op_mul_list .lst .int (n := (R.map cv).length) rfl (by rw [List.length_map]; show 1 * _ ≤ _; omega) (by rw [List.length_map]; omega) ?_
  have e1 : (R.map fun z => V.str (tx (nm z.1 z.2.1))).filterMap (fun _ => some (V.int 1)) = (List.replicate 5 (1 : Int)).map .int := by
    match R, hlen with
    | [_, _, _, _, _], _ => rfl
  have e2 : (List.replicate (R.map cv).length [V.int 1]).flatten = (List.replicate 5 (1 : Int)).map .int := by
    rw [List.length_map, hlen]; rfl
  rw [e1, e2]
  refine op_ne_list .lst .lst (plain_ints _) (plain_ints _) hun ?_
  rw [eqvs_same _ (plain_ints _).1]
  refine ⟨_, rfl, ?_⟩
  rw [if_neg (by decide)]
  walk_at "go"
  walk_at "cb"
  walk_at "go"
  refine ev_comp oA.hh rfl rfl (by decide) ?_ fun _ => rfl
  walk_at "go"
  refine ⟨_, _, none, [], dots?, src_list, True.intro, fun led' e => True.intro, by rw [sizeLine_eq, List.length_map]; omega, by walk_at "clo", by walk_at "ful", fun C cl' j d led' he hx hcl => ?_, ?_⟩
  · subst hcl
    obtain ⟨z, hz, rfl⟩ : ∃ z, z ∈ R ∧ d = V.str (tx (nm z.1 z.2.1)) := by
      have := List.mem_of_getElem? he
      obtain ⟨r, h1, h2⟩ := List.mem_map.mp this
      exact ⟨r, h1, h2.symm⟩
    have ha := (nm_ok (hok z hz).l (Nat.le_trans (hb z hz) (by decide))).ascii
    rw [dots_nm]
    refine each_nil ?_
    walk_at "go"
    walk_at "cf"
    walk_at "go"
    refine ca_of (n := n + 19) ((fs_count (n := n) (items := (nm z.1 z.2.1).map fun c => [c]) (t := [46]) (ok := fun _ => True) (fun A => by rw [List.map_map]; exact src_str ha) True.intro ?_).up (by omega)) oA
    rw [count_one, count_nm (hok z hz).l]
    exact ⟨by walk_at "ls", rfl, rfl⟩
  have e3 : (R.map fun z => V.str (tx (nm z.1 z.2.1))).filterMap dots? = ((pl R).map fun p : Nat => (p : Int)).map .int := by
    unfold pl
    rw [List.filterMap_map, List.map_map, List.map_map, ← List.filterMap_eq_map]
    exact fm_congr fun z hz => dots_nm z
  rw [e3]
  walk_at "go"
  refine ca_sorted .lst (Nums.int _) (by rw [List.length_map, List.length_map]; unfold pl; rw [List.length_map]; omega) fun ns' hns hs' => ?_
  walk_at "go"
  have e4 : ns' = ps.map fun p : Nat => (p : Int) := by
    refine sorted_same (hns.trans (hperm.map _)) hs' ?_
    rw [List.pairwise_map]
    exact hsort.imp fun h => by omega
  have e5 : (ps.map fun p : Nat => V.int (p : Int)) = (ps.map fun p : Nat => (p : Int)).map .int := by rw [List.map_map]; rfl
  rw [e5] at hp
  refine op_ne_list .lst hp (plain_nums _) (plain_ints _) hun ?_
  rw [e4, pd_num, eqvs_same _ (pOk_ints _)]
  refine ⟨_, rfl, ?_⟩
  rw [if_neg (by decide)]
  walk_at "go"
  refine ⟨_, gm_str F.slot_str_join ty_join, keep_builtin, ?_⟩
  walk_at "go"
  refine ev_comp oA.hh rfl rfl (by decide) ?_ fun _ => rfl
  walk_at "go"
  refine ⟨_, _, none, [], typed2?, src_isl hr, hr, fun led' e => hr.ext e, by rw [sizeLine_eq, List.length_map]; omega, by walk_at "clo", by walk_at "ful", fun C cl' j d led' he hx hcl => ?_, ?_⟩
  · subst hcl
    obtain ⟨r, hr1, hr2, rfl⟩ := cv_at he
    have h60 := hb r hr1
    have ok := toRow_ok (hok r hr1) (Nat.le_trans h60 (by decide))
    have l1 : (nm r.1 r.2.1).length ≤ 100 := ok.1.len
    have l2 : (carL r.2.2).length ≤ 100 := ok.2.len
    rw [typed2_cv]
    refine each_nil ?_
    show AT _ _ (.tup [_, _, _]) _ _ _
    refine at_tuple oA.hh rfl rfl ?_
    walk_at "go"
    refine op_mul_str (l := [46]) (by decide) (by omega) ?_
    walk_at "go"
    refine op_add_str (by rw [tx_length, tx_length, flat46, List.length_replicate]; show _ + 1 ≤ _; omega) ?_
    rw [nm_tx]
    walk_at "go"
    refine op_add_str (by rw [colon, tx_length, tx_length]; show _ + 2 ≤ _; omega) ?_
    rw [colon, tx_append]
    walk_at "go"
    refine op_add_str (by rw [tx_length, tx_length, List.length_append]; show _ + 2 + _ ≤ _; omega) ?_
    rw [tx_append]
    walk_at "go"
    refine op_add_str (by rw [crlf, tx_length, tx_length, List.length_append, List.length_append]; show _ + 2 + _ + 2 ≤ _; omega) ?_
    rw [crlf, tx_append]
    exact ⟨by walk_at "ls", rfl, rfl⟩
  have e6 : (R.map cv).filterMap typed2? = ((R.map fun z => line (toRow z) ++ [13, 10]).map tx).map .str := by
    rw [List.filterMap_map, List.map_map, List.map_map, ← List.filterMap_eq_map]
    exact fm_congr fun z hz => typed2_cv z
  rw [e6]
  have e7 : (R.map fun z => line (toRow z) ++ [13, 10]).flatten ++ [13, 10] = text (R.map toRow) := by
    unfold text
    rw [List.flatMap_map, List.flatMap_def]
  have htl := text_len hrows
  walk_at "go"
  refine ca_join .lst (Texts.str _) ?_ ?_
  · refine joinOk_tx [] _ ?_
    have := sum_le (fun t : List Nat => t.length + ([] : List Nat).length) 204 (R.map fun z => line (toRow z) ++ [13, 10]) fun t ht => by
      obtain ⟨z, hz, rfl⟩ := List.mem_map.mp ht
      have := line_len (toRow_ok (hok z hz) (Nat.le_trans (hb z hz) (by decide)))
      rw [List.length_append]; show _ + 2 + 0 ≤ _; omega
    rw [List.length_map] at this
    omega
  rw [show Txt.join (Str.ofString "") ((R.map fun z => line (toRow z) ++ [13, 10]).map tx) = tx (R.map fun z => line (toRow z) ++ [13, 10]).flatten from (join_tx [] _).trans (by rw [joinL_nil])]
  walk_at "go"
  refine op_add_txt .txt .str ?_ ?_
  · rw [crlf, tx_length, tx_length]
    have := congrArg List.length e7
    rw [List.length_append] at this
    omega
  rw [crlf, tx_append, e7]
  walk_at "go"
  walk_at "ct"
  walk_at "go"
  refine ca_bytes hD.isI (by walk_at "is") (by walk_at "is") ?_
  refine ca_of (n := n + 17) ((fs_bytes (n := n) hD hrows ?_).up (by omega)) (OkA.in1 (OkA.in1 oA))
  refine ⟨_, rfl, ?_⟩
  walk_at "go"
  refine ⟨_, gm_txt .txt F.slot_str_encode ty_encode, keep_builtin, ?_⟩
  walk_at "go"
  refine ca_encode .txt (.inl rfl) (okc_rows hrows) (by omega) ?_
  walk_at "go"
  refine op_eq_bytes ?_
  refine ⟨_, rfl, ?_⟩
  rw [if_pos (by simp)]
  walk_at "go"
  walk_at "cf"
  walk_at "go"
  walk_at "ct"
  walk_at "go"
  refine ca_bytes hD.isI (by walk_at "is") (by walk_at "is") ?_
  refine ca_of (n := n + 17) ((fs_bytes (n := n) hD hrows ?_).up (by omega)) (OkA.in1 (OkA.in1 oA))
  refine ⟨_, rfl, ?_⟩
  walk_at "go"
  have e8 : (octets (text (R.map toRow))).toList.map (fun c => V.int (c.toNat : Int)) = ((text (R.map toRow)).map fun c : Nat => (c : Int)).map .int := by
    have := octets_back (okc_rows hrows)
    have h2 := congrArg (List.map fun c : Nat => V.int (c : Int)) this
    rw [List.map_map] at h2
    rw [List.map_map]; exact h2
  refine ca_of (n := n + 19) ((fs_count_int (n := n) (items := (text (R.map toRow)).map fun c : Nat => (c : Int)) (ok := fun _ => True) (fun A => by rw [← e8]; exact src_bytes) True.intro ?_).up (by omega)) oA
  rw [show ((text (R.map toRow)).map fun c : Nat => (c : Int)).count (46 : Int) = (text (R.map toRow)).count 46 from count_cast _, count_text hok]
  walk_at "go"
  walk_at "cb"
  walk_at "go"
  refine ca_sum oA.hh hp (Nums.int _) ?_
  refine op_eq_int .int .num ?_
  rw [sum_cast, hperm.sum_nat]
  rw [beq_self_eq_true]
  walk_at "go"
  exact q
end
end
section
theorem occs_snoc (p : Nat) : ∀ (l occ : List Nat), occs occ (l ++ [p]) = ffrom (occs occ l) 4 p :: occs occ l
  | [], occ => rfl
  | a :: l, occ => occs_snoc p l _
theorem frees_at : ∀ (ws occ : List Nat), frees occ ws = true → ∀ i p, ws[i]? = some p → has (occs occ (ws.take i)) (ffrom (occs occ (ws.take i)) 4 p) = false
  | [], occ, _, i, p, h => by cases h
  | a :: ws, occ, h, i, p, e => by
    unfold frees at h
    cases hh : has occ (ffrom occ 4 a) with
    | true => rw [hh] at h; cases h
    | false =>
      rw [hh] at h
      cases i with
      | zero => cases e; exact hh
      | succ i => exact frees_at ws _ h i p e
theorem occs_le : ∀ (ws occ : List Nat), (∀ p ∈ ws, p ≤ 5) → (∀ q ∈ occ, q ≤ 9) → ∀ q ∈ occs occ ws, q ≤ 9
  | [], occ, _, h => h
  | a :: ws, occ, h1, h2 => occs_le ws _ (fun p hp => h1 p (.tail _ hp)) fun q hq => by
    rcases List.mem_cons.mp hq with rfl | hq
    · have := (ffrom_ge occ 4 a).2
      have := h1 a (.head _)
      omega
    · exact h2 q hq
theorem occs_len : ∀ (ws occ : List Nat), (occs occ ws).length = occ.length + ws.length
  | [], occ => rfl
  | a :: ws, occ => by show (occs (_ :: occ) ws).length = _; rw [occs_len ws]; simp; omega
theorem good_at {f : Nat} {cars : List Car} (hok : ∀ k ∈ cars, OkC k) (hf : frees [] (pl cars) = true) : ∀ i, i ≤ cars.length → Good (occs [] ((pl cars).take i)) (parks f ([], 0) (cars.take i)) (cars.take i)
  | 0, _ => ⟨List.Perm.refl _, .nil, rfl, List.Perm.refl _, fun r hr => by cases hr⟩
  | i + 1, h => by
    have g := good_at (f := f) hok hf i (by omega)
    have hk : cars[i]? = some cars[i] := List.getElem?_eq_getElem (by omega)
    have hp : (pl cars)[i]? = some cars[i].1 := by unfold pl; rw [List.getElem?_map, hk]; rfl
    have fr := frees_at _ _ hf i _ hp
    rw [List.take_add_one, List.take_add_one, hk, hp]
    show Good (occs [] (_ ++ [_])) (parks f ([], 0) (_ ++ [_])) (_ ++ [_])
    rw [occs_snoc, parks_snoc]
    exact (g.step fr (hok _ (List.getElem_mem _))).2
theorem fr_at {f : Nat} {cars : List Car} (hok : ∀ k ∈ cars, OkC k) (hf : frees [] (pl cars) = true) {i : Nat} {k : Car} (hk : cars[i]? = some k) : Fr 4 (parks f ([], 0) (cars.take i)).1 k.1 := by
  have hi : i < cars.length := by
    rcases Nat.lt_or_ge i cars.length with z | z
    · exact z
    · rw [List.getElem?_eq_none z] at hk; cases hk
  have g := good_at (f := f) hok hf i (by omega)
  have hp : (pl cars)[i]? = some k.1 := by unfold pl; rw [List.getElem?_map, hk]; rfl
  exact (g.step (f := f) (frees_at _ _ hf i _ hp) (hok k (List.mem_of_getElem? hk))).1
theorem ins_perm (a : Nat) : ∀ l : List Nat, (ins a l).Perm (a :: l)
  | [] => List.Perm.refl _
  | b :: l => by
    unfold ins
    cases Nat.ble a b with
    | true => exact List.Perm.refl _
    | false => exact ((ins_perm a l).cons b).trans (List.Perm.swap ..)
theorem isort_perm : ∀ l : List Nat, (isort l).Perm l
  | [] => List.Perm.refl _
  | a :: l => (ins_perm a (isort l)).trans ((isort_perm l).cons a)
theorem ins_sorted (a : Nat) : ∀ {l : List Nat}, l.Pairwise (· ≤ ·) → (ins a l).Pairwise (· ≤ ·)
  | [], _ => List.pairwise_singleton _ _
  | b :: l, h => by
    have h' := List.pairwise_cons.mp h
    unfold ins
    cases e : Nat.ble a b with
    | true =>
      have := Nat.le_of_ble_eq_true e
      refine List.pairwise_cons.mpr ⟨fun z hz => ?_, h⟩
      rcases List.mem_cons.mp hz with rfl | hz
      · exact this
      · exact Nat.le_trans this (h'.1 z hz)
    | false =>
      have : b ≤ a := by
        rcases Nat.le_total a b with z | z
        · rw [Nat.ble_eq_true_of_le z] at e; cases e
        · exact z
      refine List.pairwise_cons.mpr ⟨fun z hz => ?_, ins_sorted a h'.2⟩
      rcases List.mem_cons.mp ((ins_perm a l).mem_iff.mp hz) with rfl | hz
      · exact this
      · exact h'.1 z hz
theorem isort_sorted : ∀ l : List Nat, (isort l).Pairwise (· ≤ ·)
  | [] => .nil
  | a :: l => ins_sorted a (isort_sorted l)
theorem chk_split {a b c d e : Nat} (h : chk a b c d e = true) : chk1 a b c d e = true ∧ chk2 a b c d e = true ∧ chk3 a b c d e = true ∧ chk4 a b c d e = true := by
  unfold chk at h
  cases h1 : chk1 a b c d e <;> rw [h1] at h <;> simp only [cond_true, cond_false] at h
  · cases h
  cases h2 : chk2 a b c d e <;> rw [h2] at h <;> simp only [cond_true, cond_false] at h
  · cases h
  cases h3 : chk3 a b c d e <;> rw [h3] at h <;> simp only [cond_true, cond_false] at h
  · cases h
  exact ⟨rfl, rfl, rfl, h⟩
theorem chk1_split {a b c d e : Nat} (h : chk1 a b c d e = true) : frees [] [a, b, c, d, e] = true ∧ tk [a, b, c, d, e] 9 = isort (occs [] [a, b, c, d, e]) := by
  unfold chk1 at h
  cases h1 : frees [] [a, b, c, d, e] <;> rw [h1] at h <;> simp only [cond_true, cond_false] at h
  · cases h
  refine ⟨rfl, ?_⟩
  rw [eqs_eq h, placesF_tk, List.append_nil]
theorem sortB_mem {B : List Bk} (h5 : B.length = 5) : ∀ z ∈ sortB B, z ∈ B := fun z hz => by
  unfold sortB at hz
  obtain ⟨i, hi, rfl⟩ := List.mem_map.mp hz
  have := (runT_congr (less := fun i j => (B.getD i Bk.zero).lt (B.getD j Bk.zero)) (fun i j _ _ => rfl) 30 (kas_sort 5) ok5).2 i hi
  rw [List.getD_eq_getElem?_getD, List.getElem?_eq_getElem (by omega)]
  exact List.getElem_mem _
theorem brk_places (rev : List Pc) : ∀ (ps : List Nat) (w : List Pc), ∀ b ∈ brk rev w ps, b.place ∈ ps
  | [], w, b, hb => by cases hb
  | p :: ps, w, b, hb => by
    unfold brk at hb
    cases e : lastOf (w ++ sel p rev) with
    | none => rw [e] at hb; exact .tail _ (brk_places rev ps [] b hb)
    | some z =>
      obtain ⟨i, k⟩ := z
      rw [e] at hb
      rcases List.mem_cons.mp hb with rfl | hb
      · exact .head _
      · exact .tail _ (brk_places rev ps i b hb)
end
section
theorem xs_first {c : Cx} {m : Loc} {led : Led} {x : Str} {i : Int} {k : Nat} {p0 p1 p2 p3 : Pos} {es : List Expr} {rest : List Stmt} {Q : FV → Loc → Led → Prop}
    (hs : starEach (.Constant (.int i) k p0 :: es) c.env = (false, eval (.Constant (.int i) k p0) c.env) :: starEach es c.env) (hsw : swapsWith (.List (.Constant (.int i) k p0 :: es) p2) (some (.Name x p1)) p3.line c.env = pure false)
    (h : AWs c p2 es m led fun vs m₁ led₁ => vs.length + 1 ≤ sizeLine ∧ AN c x (.lst (.num i :: vs)) m₁ led₁ (Then c rest Q .next)) :
    ∀ bg (s : Shared) Z, Base c.K bg → Sh c.env bg Z m led s.heap → (∀ t, Z.tk t = none) → wpAny (model c.prog c.w) c.A (execs (.Assign [.Name x p1] (.List (.Constant (.int i) k p0 :: es) p2) p3 :: rest) c.env) (Post c bg RF s Z Q) NoE s := by
  intro bg s Z B S hz
  refine wpAny_execs_cons (wpAny_mono (Q := Post c bg RF s Z (Then c rest Q)) (wpAny_Assign_Name ?_ hsw) (fun f s₁ p => ?_) fun _ _ e => e)
  · refine List_ ?_
    rw [hs]
    refine spliced_cons (wpAny_Constant_int (k := k) (pos := p0) ?_)
    have S1 : St c.env bg Z m led { s with toks := s.toks + 1 } := ⟨S, ⟨Nat.succ_ne_zero _, fun t _ => hz t, hz 0⟩⟩
    refine wpAny_mono (h bg _ Z B S1) (fun vs s₂ p => ?_) fun _ _ e => e
    obtain ⟨b, m', led', Z', z', e', S', r, q1, q2⟩ := p
    refine wpAny_newObj_type ?_ (by show (Value.int i s.toks :: vs).toArray.size ≤ sizeLine; rw [List.size_toArray, List.length_cons, r.length]; exact q1)
    have zl := zup_le (Z := Z') { cls := .type "list", data := .seq (Value.int i s.toks :: vs).toArray } (S'.zlt (Nat.le_refl _))
    have S2 : St c.env bg (zup Z' s₂.heap.objs.size { cls := .type "list", data := .seq (Value.int i s.toks :: vs).toArray }) m' led' { s₂ with heap := s₂.heap.push { cls := .type "list", data := .seq (Value.int i s.toks :: vs).toArray } } := ⟨S'.allocZ rfl (.inl ⟨_, _, rfl, .inr rfl⟩), S'.tk.zup⟩
    refine wpAny_mono (q2 bg _ _ _ B S2 (.lst (zup_self ..) (.cons (.num _ _) (r.mono zl)))) (fun _ _ p => ?_) fun _ _ e => e
    obtain ⟨b, m₂, led₂, Z₂, z₂, e₂, S₂, r₂, q₂⟩ := p
    exact ⟨_, m₂, led₂, Z₂, (z'.trans zl).trans z₂, by rw [e₂, e'], S₂, .next, q₂⟩
  · obtain ⟨b, m', led', Z', z', e', S, r, q⟩ := p
    cases r with
    | next => exact wpAny_mono (q bg s₁ Z' B S) (fun _ _ p => p.up z' e') fun _ _ e => e
    | brk => exact ⟨_, m', led', Z', z', e', S, .brk, q⟩
    | cont => exact ⟨_, m', led', Z', z', e', S, .cont, q⟩
    | ret r => exact ⟨_, m', led', Z', z', e', S, .ret r, q⟩
theorem top_def {prog : Program} {w : World} {K : Frag} {n : Nat} {f : Addr} {args : List V} {Q : V → Prop} {name qual : Str} {params : Arguments} {body : List Stmt} {scope : Scope} {dV kV doc pm cdv ct oc : Value} {an od : Option Addr} {osl : Array (Option Value)} {m₀ : Loc}
    (ho : K.lookup f = some ⟨oc, od, .func (fnOf name qual params body scope dV kV doc pm an cdv ct), osl⟩) (hcd : codeIn K cdv qual = true)
    (hbind : ∀ (s : Shared) Z as ks, K.In s.heap → Rs Z as args → Ks Z ks [] → ∃ binds, BindsTo s (fnOf name qual params body scope dV kV doc pm an cdv ct) ⟨as, ks⟩ binds ∧ Bs Z binds m₀)
    (hnd : (m₀.map (·.1)).Nodup) (hcells : ((cellsFrom 0 scope.names []).map (·.1)).Nodup)
    (hkind : ∀ L, ∀ x ∈ m₀, scope.names.lookup x.1 = some .local ∨ (scope.names.lookup x.1 = some .cell ∧ ((cellsFrom L scope.names []).lookup x.1).isSome = true))
    (hco : scope.isCoroutine = false) (hgen : scope.isGenerator = false) (hk : scope.kind = .function)
    (hbody : ∀ A L, OkA A n → ∀ bg (s : Shared) Z, Base K bg → Sh (fenv qual scope cdv f L) bg Z m₀ (fun _ => none) s.heap → (∀ t, Z.tk t = none) → wpAny (model prog w) A (execs body (fenv qual scope cdv f L)) (Post ⟨prog, w, K, A, fenv qual scope cdv f L⟩ bg RF s Z (RetQ fun r _ => Q r)) NoE s) :
    ∀ (A : Around) (s : Shared) Z as, OkA A (n + 1) → Gd K s.heap → (∀ a o, Z.ob a = some o → s.heap.get? a = some o) → (∀ a o, Z.ob a = some o → DataObj o) → (∀ t, Z.tk t = none) → Rs Z as args →
      codeAny (model prog w) A (.call (.ref f) ⟨as, []⟩) (RC fun v s' => s' = { s with heap := s'.heap, toks := s'.toks } ∧ (∀ a o, s.heap.get? a = some o → s'.heap.get? a = some o) ∧ ∃ Z' r, R Z' v r ∧ Q r) s := by
  intro A s Z as oA G zk zc ztk ra
  obtain ⟨binds, hbi, hbs⟩ := hbind s Z as [] G.X ra .nil
  refine (codeAny_call_function oA.room (G.X _ _ ho) rfl hco hgen rfl (codeRec_of G.X hcd) (hbi _ _ _ _ ?_))
  refine wpAny_mono (wpAny_newFunctionEnv_cells (Q := fun env s' => env = newEnv scope s.heap.objs.size mainGlobals (cellsFrom (s.heap.objs.size + 1) scope.names []) (qual ++ ".<locals>.") (some f) cdv none builtinsNs ∧ InCallC s env.locals (bindL env.kindOf binds fun _ => none) env.cells (bindC env.kindOf binds fun _ => none) s') hk (fun x hx => ?_) fun env' he s' x => ⟨he, x⟩) (fun env' s' p => ?_) fun _ _ e => e
  · have : x.1 ∈ m₀.map (·.1) := hbs.names ▸ List.mem_map_of_mem hx
    obtain ⟨y, hy, e⟩ := List.mem_map.mp this
    have := hkind (s.heap.objs.size + 1) y hy
    rwa [e] at this
  · obtain ⟨he, x⟩ := p
    subst he
    refine ⟨G.lim.keeps x.toInCall.keep, codeAny_func ?_⟩
    obtain ⟨h₁, tk, e₁, _⟩ := x.done
    have kk := x.toInCall.keep
    have hL : ∀ {a o}, s.heap.get? a = some o → a ≠ s.heap.objs.size := fun e => Nat.ne_of_lt (Heap.lt_size e)
    have cellAt : ∀ y a, (fenv qual scope cdv f s.heap.objs.size).cells.lookup y = some a → s'.heap.IsCell a (bindC (fenv qual scope cdv f s.heap.objs.size).kindOf binds (fun _ => none) y) ∧ s.heap.objs.size < a := fun y a e =>
      ⟨x.cell y a e, x.above y a (mem_of_lookup e)⟩
    have bnone : ∀ {a}, s.heap.objs.size ≤ a → s.heap.get? a = none := fun {a} h => by
      cases e : s.heap.get? a with
      | none => rfl
      | some o => exact absurd (Nat.lt_of_lt_of_le (Heap.lt_size e) h) (Nat.lt_irrefl _)
    have znone : ∀ {a}, s.heap.objs.size ≤ a → Z.ob a = none := fun {a} h => by
      cases e : Z.ob a with
      | none => rfl
      | some o => have := zk _ _ e; rw [bnone h] at this; cases this
    have SC₀ : Sh (fenv qual scope cdv f s.heap.objs.size) (fun a => s.heap.get? a) Z m₀ (fun _ => none) s'.heap := {
      bgk := fun a o e => kk a o e
      zk := fun a o e => kk a o (zk a o e)
      loc := ⟨_, x.toInCall.ns, fun y v e l => hbs.local hnd e l _⟩
      cel := fun y a e => ⟨_, (cellAt y a e).1, fun v ev l => hbs.cell hnd ev l _⟩
      lk := fun a ao e => by cases e
      dled := fun a ao e => by cases e
      dloc := ⟨bnone (Nat.le_refl _), znone (Nat.le_refl _), fun y q => absurd (cellAt y _ q).2 (Nat.lt_irrefl _)⟩
      dcel := fun y a e => ⟨bnone (Nat.le_of_lt (cellAt y a e).2), znone (Nat.le_of_lt (cellAt y a e).2)⟩
      icel := fun y z a e1 e2 => name_of_addr x.apart (mem_of_lookup e1) (mem_of_lookup e2)
      zc := zc }
    have BC : Base K (fun a => s.heap.get? a) := ⟨s.heap, G, fun a o e => e⟩
    refine wpAny_mono (hbody _ s.heap.objs.size (oA.deeper _) _ s' Z BC SC₀ ztk) (fun fl s₂ p => ?_) fun _ _ e => e.elim
    obtain ⟨fv, m₂, led₂, Z₂, z₂, e₂, S₂, rf, q⟩ := p
    cases rf with
    | next => exact ⟨by rw [e₂, e₁], fun a o e => S₂.bgk a o e, Z₂, .none, .none, q⟩
    | brk => exact q.elim
    | cont => exact q.elim
    | ret rv => exact ⟨by rw [e₂, e₁], fun a o e => S₂.bgk a o e, Z₂, _, rv, q⟩
end
section
noncomputable def baseL : List Int := [1, 5, 6, 0, 3, 22, 0]
noncomputable def cellZ (ns : List Int) (k : Nat) : Int := (baseL.getD k 0 + (pick ns (some (k : Int)) none (some 7)).sum).fmod (10 ^ 6)
noncomputable def cellN (ns : List Int) (k : Nat) : Nat := (cellZ ns k).toNat
theorem cell_eq (ns : List Int) (k : Nat) : cellZ ns k = ((cellN ns k : Nat) : Int) := by
  unfold cellN
  rw [Int.toNat_of_nonneg]
  unfold cellZ
  rw [Int.fmod_eq_emod_of_nonneg _ (by decide)]
  exact Int.emod_nonneg _ (by decide)
noncomputable def cell? (ns : List Int) : V → Option V
  | .int k => some (.int (cellZ ns k.toNat))
  | _ => none
noncomputable def cellsV (ns : List Int) : List V := (List.range 7).map fun k => V.int ((cellN ns k : Nat) : Int)
theorem cells_all (ns : List Int) : (rints 0 7).filterMap (cell? ns) = cellsV ns := by
  unfold rints cellsV
  rw [List.filterMap_map, ← List.filterMap_eq_map]
  refine fm_congr fun k _ => ?_
  show some (V.int (cellZ ns ((0 : Int) + (k : Nat)).toNat)) = some (V.int _)
  rw [show ((0 : Int) + (k : Nat)).toNat = k by omega, cell_eq]
theorem cells_at (ns : List Int) {k : Nat} (h : k < 7) : (cellsV ns)[k]? = some (.int ((cellN ns k : Nat) : Int)) := by
  unfold cellsV
  rw [List.getElem?_map, List.getElem?_range h]; rfl
noncomputable def letN (ns : List Int) (k : Nat) : Nat := if cellN ns k / 5 % 2 = 0 then 112 else 80
noncomputable def wishN (ns : List Int) (k : Nat) : Nat := cellN ns k % 5 + 1
theorem let_ok (ns : List Int) (k : Nat) : letN ns k = 112 ∨ letN ns k = 80 := by unfold letN; split; exact .inl rfl; exact .inr rfl
theorem wish_ok (ns : List Int) (k : Nat) : 1 ≤ wishN ns k ∧ wishN ns k ≤ 5 := by unfold wishN; omega
noncomputable def wish? (ns : List Int) : V → Option V
  | .int k => some (cv (wishN ns k.toNat, letN ns k.toNat, k.toNat))
  | _ => none
noncomputable abbrev roadN (ns : List Int) : List Pc := rowsOf (wishN ns 0) (wishN ns 1) (wishN ns 2) (wishN ns 3) (wishN ns 4)
noncomputable abbrev carsN (ns : List Int) : List Car := (roadN ns).map (tc (letN ns))
theorem wishes_all (ns : List Int) : (rints 0 5).filterMap (wish? ns) = (carsN ns).map cv := by
  have : (rints 0 5).filterMap (wish? ns) = (List.range 5).map fun k => cv (wishN ns k, letN ns k, k) := by
    unfold rints
    rw [List.filterMap_map, ← List.filterMap_eq_map]
    refine fm_congr fun k _ => ?_
    show some (cv (wishN ns ((0 : Int) + (k : Nat)).toNat, letN ns ((0 : Int) + (k : Nat)).toNat, ((0 : Int) + (k : Nat)).toNat)) = some (cv _)
    rw [show ((0 : Int) + (k : Nat)).toNat = k by omega]
  rw [this]
  rfl
noncomputable def carrow? : V → Option V
  | .tup [.int p, .str t, .str c] => some (.tup [.str (tx (List.replicate p.toNat [46]).flatten ++ t), .str c])
  | _ => none
theorem carrow_cv (k : Car) : carrow? (cv k) = some (rv (toRow k)) := by
  show some (V.tup [.str (tx (List.replicate ((k.1 : Nat) : Int).toNat [46]).flatten ++ tx [k.2.1]), .str (tx (carL k.2.2))]) = _
  rw [Int.toNat_natCast, nm_tx]; rfl
theorem pylong_five (x : Int) : Builtin.divisionGoesByPylong x 5 = false := by
  unfold Builtin.divisionGoesByPylong
  have fin : ∀ b, (decide ((if ((5 : Int) == 0) = true then 0 else (5 : Int).natAbs.log2 / 30 + 1) > 300) && b) = false := fun b => by
    rw [show decide ((if ((5 : Int) == 0) = true then 0 else (5 : Int).natAbs.log2 / 30 + 1) > 300) = false by decide +kernel]; rfl
  exact fin _
theorem cars_ok (ns : List Int) : ∀ k ∈ carsN ns, OkC k := fun k hk => by
  obtain ⟨z, hz, rfl⟩ := List.mem_map.mp hk
  have h : z ∈ rowsOf (wishN ns 0) (wishN ns 1) (wishN ns 2) (wishN ns 3) (wishN ns 4) := hz
  unfold rowsOf at h
  simp only [List.mem_cons, List.not_mem_nil, or_false] at h
  rcases h with rfl | rfl | rfl | rfl | rfl
  · exact ⟨(wish_ok ns 0).1, let_ok ns 0, by show 0 < 5; decide⟩
  · exact ⟨(wish_ok ns 1).1, let_ok ns 1, by show 1 < 5; decide⟩
  · exact ⟨(wish_ok ns 2).1, let_ok ns 2, by show 2 < 5; decide⟩
  · exact ⟨(wish_ok ns 3).1, let_ok ns 3, by show 3 < 5; decide⟩
  · exact ⟨(wish_ok ns 4).1, let_ok ns 4, by show 4 < 5; decide⟩
theorem cars_le (ns : List Int) : ∀ k ∈ carsN ns, k.1 ≤ 5 := fun k hk => by
  obtain ⟨z, hz, rfl⟩ := List.mem_map.mp hk
  have h : z ∈ rowsOf (wishN ns 0) (wishN ns 1) (wishN ns 2) (wishN ns 3) (wishN ns 4) := hz
  unfold rowsOf at h
  simp only [List.mem_cons, List.not_mem_nil, or_false] at h
  rcases h with rfl | rfl | rfl | rfl | rfl
  · exact (wish_ok ns 0).2
  · exact (wish_ok ns 1).2
  · exact (wish_ok ns 2).2
  · exact (wish_ok ns 3).2
  · exact (wish_ok ns 4).2
noncomputable abbrev wsN (ns : List Int) : List Nat := [wishN ns 0, wishN ns 1, wishN ns 2, wishN ns 3, wishN ns 4]
theorem pl_cars (ns : List Int) : pl (carsN ns) = wsN ns := rfl
theorem cs_cars (ns : List Int) : cs (carsN ns) = [0, 1, 2, 3, 4] := rfl
theorem chkN (ns : List Int) : chk (wishN ns 0) (wishN ns 1) (wishN ns 2) (wishN ns 3) (wishN ns 4) = true := chk_at (wish_ok ns 0) (wish_ok ns 1) (wish_ok ns 2) (wish_ok ns 3) (wish_ok ns 4)
structure Facts (ns : List Int) (f : Nat) : Prop where
  at_ : ∀ i k, (carsN ns)[i]? = some k → Fr 4 (parks f ([], 0) ((carsN ns).take i)).1 k.1 ∧ (parks f ([], 0) ((carsN ns).take i)).1.length ≤ 5 ∧ (parks f ([], 0) ((carsN ns).take i)).2 ≤ 100 ∧ (∀ r ∈ (parks f ([], 0) ((carsN ns).take i)).1, OkC r) ∧
      (∀ r ∈ (parks f ([], 0) ((carsN ns).take i)).1, r.1 ≤ 60) ∧ (k.2.2 :: cs (parks f ([], 0) ((carsN ns).take i)).1).Nodup ∧ (pl (parks f ([], 0) ((carsN ns).take i)).1).Nodup
  good : Good (occs [] (wsN ns)) (parks f ([], 0) (carsN ns)) (carsN ns)
  le : ∀ q ∈ occs [] (wsN ns), q ≤ 9
  taken : tk (wsN ns) 9 = isort (occs [] (wsN ns))
theorem facts (ns : List Int) (f : Nat) : Facts ns f := by
  obtain ⟨h1, h2, h3, h4⟩ := chk_split (chkN ns)
  obtain ⟨hf, ht⟩ := chk1_split h1
  have hfr : frees [] (pl (carsN ns)) = true := hf
  have hws : ∀ p ∈ pl (carsN ns), p ≤ 5 := fun p hp => by
    obtain ⟨k, hk, rfl⟩ := List.mem_map.mp hp
    exact cars_le ns k hk
  refine ⟨fun i k hk => ?_, ?_, ?_, ht⟩
  · have hi : i < (carsN ns).length := by
      rcases Nat.lt_or_ge i (carsN ns).length with z | z
      · exact z
      · rw [List.getElem?_eq_none z] at hk; cases hk
    have g := good_at (f := f) (cars_ok ns) hfr i (Nat.le_of_lt hi)
    have hle : ∀ q ∈ occs [] ((pl (carsN ns)).take i), q ≤ 9 := occs_le _ [] (fun p hp => hws p (List.mem_of_mem_take hp)) fun q hq => (by cases hq)
    have hlen5 : (carsN ns).length = 5 := rfl
    have holen : (occs [] ((pl (carsN ns)).take i)).length ≤ 5 := by
      rw [occs_len, List.length_take]
      show 0 + min i 5 ≤ 5
      omega
    have hsum := sum_le (fun q : Nat => q) 9 _ hle
    rw [List.map_id'] at hsum
    have hmv := g.mv
    refine ⟨fr_at (cars_ok ns) hfr hk, ?_, ?_, g.ok, fun r hr => ?_, ?_, g.perm.nodup_iff.mpr g.nd⟩
    · have := g.perm.length_eq
      unfold pl at this
      rw [List.length_map] at this
      unfold pl at holen
      omega
    · have : (occs [] ((pl (carsN ns)).take i)).length * 9 ≤ 5 * 9 := Nat.mul_le_mul_right _ holen
      omega
    · have : r.1 ∈ occs [] ((pl (carsN ns)).take i) := g.perm.mem_iff.mp (List.mem_map.mpr ⟨r, hr, rfl⟩)
      have := hle _ this
      omega
    · have hp : (k.2.2 :: cs (parks f ([], 0) ((carsN ns).take i)).1).Perm (cs ((carsN ns).take (i + 1))) := by
        refine (g.cars.cons _).trans ?_
        rw [List.take_add_one, hk]
        unfold cs
        rw [List.map_append]
        exact List.perm_append_comm (l₁ := [k.2.2])
      refine hp.nodup_iff.mpr ?_
      unfold cs
      rw [List.map_take]
      have : ((carsN ns).map (·.2.2)) = [0, 1, 2, 3, 4] := rfl
      rw [this]
      exact List.Sublist.nodup (List.take_sublist _ _) (by decide)
  · have g := good_at (f := f) (cars_ok ns) hfr 5 (Nat.le_refl _)
    have e1 : (carsN ns).take 5 = carsN ns := rfl
    have e2 : (pl (carsN ns)).take 5 = wsN ns := rfl
    rw [e1, e2] at g
    exact g
  · exact occs_le _ [] hws fun q hq => by cases hq
end
section
section
variable {P : Params} {prog : Program} {w : World}
theorem pick_map {α β : Type} (g : α → β) (l : List α) (lo hi st : Option Int) : pick (l.map g) lo hi st = (pick l lo hi st).map g := by
  unfold pick
  rw [List.length_map]
  generalize sliceRange _ _ _ = r
  induction r with
  | nil => rfl
  | cons i r ih =>
    rw [List.filterMap_cons, List.filterMap_cons, List.getElem?_map, ih]
    cases l[i]? <;> rfl
structure Facts2 (ns : List Int) : Prop where
  len : (brk (roadN ns).reverse [] [1, 2, 3, 4, 5, 6, 7, 8, 9]).length = 5
  eq : allR 5 [] (roadN ns) = (sortB (brk (roadN ns).reverse [] [1, 2, 3, 4, 5, 6, 7, 8, 9])).map fun z => (z.place, z.car)
  perm : ((allR 5 [] (roadN ns)).map (·.1)).Perm (occs [] (wsN ns))
  len5 : (allR 5 [] (roadN ns)).length = 5
  sl : (sortB (brk (roadN ns).reverse [] [1, 2, 3, 4, 5, 6, 7, 8, 9])).length ≤ 1000
  ne : allR 5 [] (roadN ns) ≠ []
  ok : OkP (letN ns) 9 (roadN ns)
  cars : ∀ k ∈ (allR 5 [] (roadN ns)).map (tc (letN ns)), OkC k
  le : ∀ k ∈ (allR 5 [] (roadN ns)).map (tc (letN ns)), k.1 ≤ 9
theorem facts2 (ns : List Int) : Facts2 ns := by
  obtain ⟨h1, h2, h3, h4⟩ := chk_split (chkN ns)
  have len : (brk (roadN ns).reverse [] [1, 2, 3, 4, 5, 6, 7, 8, 9]).length = 5 := Nat.eq_of_beq_eq_true h4
  have eq : allR 5 [] (roadN ns) = (sortB (brk (roadN ns).reverse [] [1, 2, 3, 4, 5, 6, 7, 8, 9])).map fun z => (z.place, z.car) := eqp_eq h2
  have perm : ((allR 5 [] (roadN ns)).map (·.1)).Perm (occs [] (wsN ns)) := by
    have e := eqs_eq h3
    exact ((isort_perm _).symm.trans (e ▸ List.Perm.refl _)).trans (isort_perm _)
  have len5 : (allR 5 [] (roadN ns)).length = 5 := by
    have := perm.length_eq
    rw [List.length_map, occs_len] at this
    exact this
  have ok : OkP (letN ns) 9 (roadN ns) := ⟨fun k hk => cars_ok ns _ (List.mem_map.mpr ⟨k, hk, rfl⟩), fun k hk => Nat.le_trans (cars_le ns _ (List.mem_map.mpr ⟨k, hk, rfl⟩)) (by decide)⟩
  have mem : ∀ k ∈ (allR 5 [] (roadN ns)).map (tc (letN ns)), OkC k ∧ k.1 ≤ 9 := fun k hk => by
    obtain ⟨z, hz, rfl⟩ := List.mem_map.mp hk
    rw [eq] at hz
    obtain ⟨y, hy, rfl⟩ := List.mem_map.mp hz
    have hb := sortB_mem len y hy
    have hp := brk_places _ _ _ y hb
    have hc := brk_cars _ (fun k hk => (ok.ok k (List.mem_reverse.mp hk)).c) _ [] (fun k hk => by cases hk) y hb
    simp only [List.mem_cons, List.not_mem_nil, or_false] at hp
    exact ⟨⟨by show 1 ≤ y.place; omega, let_ok ns _, hc⟩, by show y.place ≤ 9; omega⟩
  exact ⟨len, eq, perm, len5, (by have := congrArg List.length eq; rw [List.length_map] at this; omega), fun e => (by rw [e] at len5; cases len5), ok, fun k hk => (mem k hk).1, fun k hk => (mem k hk).2⟩
theorem law_run (ns : List Int) (hn : ns.length ≤ 63) : ∀ (A : Around) (s : Shared) Z as, OkA A 31 → Gd (Mine.hd.heap_39 P) s.heap → (∀ a o, Z.ob a = some o → s.heap.get? a = some o) → (∀ a o, Z.ob a = some o → DataObj o) → (∀ t, Z.tk t = none) → Rs Z as [.lst (ns.map .num)] →
      codeAny (model prog w) A (.call (.ref 290) ⟨as, []⟩) (RC fun v s' => s' = { s with heap := s'.heap, toks := s'.toks } ∧ (∀ a o, s.heap.get? a = some o → s'.heap.get? a = some o) ∧ ∃ Z' r, R Z' v r ∧ r = .bool true) s := by
  refine top_def (m₀ := [("script", .lst (ns.map .num))]) (by k_is) (by k_is) ?_ ?_ ?_ ?_ ?_ ?_ ?_ ?_
  walk_at "fs"
  intro A L₀ oA
  refine xs_first (c := ⟨prog, w, Mine.hd.heap_39 P, A, fenv _ _ _ _ L₀⟩) rfl rfl ?_
  walk_at "go"
  refine ⟨by rw [sizeLine_eq]; exact (by decide : 7 ≤ 16777216), ?_⟩
  walk_at "go"
  refine ev_comp oA.hh rfl rfl (by decide) ?_ fun _ => rfl
  walk_at "go"
  walk_at "ct"
  walk_at "go"
  refine ca_range1 .int ?_
  refine ⟨_, _, none, [("base", .lst [.num 1, .int 5, .int 6, .int 0, .int 3, .int 22, .int 0]), ("script", .lst (ns.map .num))], cell? ns, src_range (n := 7) (.inl (by decide)) (by decide) (by decide) (by decide) (by decide), True.intro, fun led' e => True.intro, by rw [sizeLine_eq]; exact (by decide : 7 ≤ 16777216), by walk_at "clo", by walk_at "ful", fun C cl' k d led' he hx hcl => ?_, ?_⟩
  · subst hcl
    obtain ⟨hk, rfl⟩ := rints_at he
    have e0 : ((0 : Int) + (k : Nat)) = ((k : Nat) : Int) := Int.zero_add _
    rw [e0]
    obtain ⟨d, hd, hdi⟩ : ∃ d, ([.num 1, .int 5, .int 6, .int 0, .int 3, .int 22, .int 0] : List V)[k]? = some d ∧ IsI_ d (baseL.getD k 0) := by
      have : k = 0 ∨ k = 1 ∨ k = 2 ∨ k = 3 ∨ k = 4 ∨ k = 5 ∨ k = 6 := by omega
      rcases this with rfl | rfl | rfl | rfl | rfl | rfl | rfl
      · exact ⟨_, rfl, .num⟩
      all_goals exact ⟨_, rfl, .int⟩
    refine each_nil ?_
    walk_at "go"
    refine ev_sub ?_ fun o b => ⟨_, rfl⟩
    walk_at "go"
    refine ⟨.inl ⟨_, .lst⟩, op_item_list (k := k) .lst .int rfl (by exact (by decide : 7 ≤ 16777216)) hd ?_⟩
    walk_at "go"
    walk_at "cb"
    walk_at "go"
    refine ev_slice ?_ fun o b => ⟨_, rfl⟩
    walk_at "go"
    refine ⟨(k : Int), .inl rfl, ?_⟩
    walk_at "go"
    refine ⟨7, .inl rfl, ?_⟩
    refine ⟨.inl ⟨_, .lst⟩, gs_list .lst (by rw [List.length_map]; omega) (by decide) ?_⟩
    rw [pick_map]
    walk_at "go"
    refine ca_sum oA.hh .lst (Nums.num _) ?_
    refine op_add_int hdi .num ?_
    walk_at "go"
    refine op_pow_int (n := 6) (by decide) (by decide) ?_
    refine op_mod_int .int .int (by decide) ?_
    exact ⟨by walk_at "ls", rfl, rfl⟩
  rw [cells_all]
  walk_at "go"
  refine ex_assign_comp oA.hh rfl rfl (by decide) ?_ (fun _ => rfl) rfl
  walk_at "go"
  walk_at "ct"
  walk_at "go"
  refine ca_range1 .int ?_
  have hc7 : (cellsV ns).length ≤ 16777216 := by unfold cellsV; rw [List.length_map, List.length_range]; decide
  refine ⟨_, _, none, [("cells", .lst (cellsV ns))], wish? ns, src_range (n := 5) (.inl (by decide)) (by decide) (by decide) (by decide) (by decide), True.intro, fun led' e => True.intro, by rw [sizeLine_eq]; exact (by decide : 5 ≤ 16777216), by walk_at "clo", by walk_at "ful", fun C cl' k d led' he hx hcl => ?_, ?_⟩
  · subst hcl
    obtain ⟨hk, rfl⟩ := rints_at he
    have e0 : ((0 : Int) + (k : Nat)) = ((k : Nat) : Int) := Int.zero_add _
    rw [e0]
    have hc := cells_at ns (show k < 7 by omega)
    refine each_nil ?_
    walk_at "go"
    refine ev_sub ?_ fun o b => ⟨_, rfl⟩
    walk_at "go"
    refine ⟨.inl ⟨_, .lst⟩, op_item_list (k := k) .lst .int rfl hc7 hc ?_⟩
    walk_at "go"
    refine op_mod_int .int .int (by decide) ?_
    rw [show Int.fmod ((cellN ns k : Nat) : Int) 5 = ((cellN ns k % 5 : Nat) : Int) from fmod_nat _ 5]
    walk_at "go"
    refine op_add_int .int .int ?_
    rw [show (((cellN ns k % 5 : Nat) : Int) + 1) = ((wishN ns k : Nat) : Int) by unfold wishN; omega]
    walk_at "go"
    refine ev_sub ?_ fun o b => ⟨_, rfl⟩
    walk_at "go"
    refine ev_sub ?_ fun o b => ⟨_, rfl⟩
    walk_at "go"
    refine ⟨.inl ⟨_, .lst⟩, op_item_list (k := k) .lst .int rfl hc7 hc ?_⟩
    walk_at "go"
    refine op_floordiv_int .int .int (by decide) (pylong_five _) ?_
    rw [show Int.fdiv ((cellN ns k : Nat) : Int) 5 = ((cellN ns k / 5 : Nat) : Int) from fdiv_nat _ 5]
    walk_at "go"
    refine op_mod_int .int .int (by decide) ?_
    rw [show Int.fmod ((cellN ns k / 5 : Nat) : Int) 2 = ((cellN ns k / 5 % 2 : Nat) : Int) from fmod_nat _ 2]
    have hlet : ([112, 80] : List Nat)[cellN ns k / 5 % 2]? = some (letN ns k) := by
      unfold letN
      have : cellN ns k / 5 % 2 = 0 ∨ cellN ns k / 5 % 2 = 1 := by omega
      rcases this with h | h <;> (rw [h]; rfl)
    refine ⟨.inr (.inr ⟨_, rfl⟩), op_item_str (t := [112, 80]) (k := cellN ns k / 5 % 2) .int rfl (by exact (by decide : 2 ≤ 16777216)) hlet ?_⟩
    walk_at "go"
    refine ev_slice ?_ fun o b => ⟨_, rfl⟩
    walk_at "go"
    refine ⟨(k : Int), .inl rfl, ?_⟩
    walk_at "go"
    refine ⟨.inr (.inr ⟨_, rfl⟩), gs_str_upto (t := [97, 98, 99, 100]) (n := k) (by decide) (by omega) ?_⟩
    walk_at "go"
    refine ⟨by rw [sizeLine_eq]; exact (by decide : 3 ≤ 16777216), ?_⟩
    exact ⟨by walk_at "ls", rfl, rfl⟩
  rw [wishes_all]
  walk_at "go"
  refine ex_assign_comp oA.hh rfl rfl (by decide) ?_ (fun _ => rfl) rfl
  walk_at "go"
  refine ⟨_, _, none, [], carrow?, src_list, True.intro, fun led' e => True.intro, by rw [sizeLine_eq, List.length_map]; exact (by decide : 5 ≤ 16777216), by walk_at "clo", by walk_at "ful", fun C cl' j d led' he hx hcl => ?_, ?_⟩
  · subst hcl
    obtain ⟨r, hr1, hr2, rfl⟩ := cv_at he
    have h5 := cars_le ns r hr1
    rw [carrow_cv]
    refine each_nil ?_
    show AT _ _ (.tup [_, _, _]) _ _ _
    refine at_tuple oA.hh rfl rfl ?_
    walk_at "go"
    refine op_mul_str (l := [46]) (by decide) (by omega) ?_
    walk_at "go"
    refine op_add_str (by rw [tx_length, tx_length, flat46, List.length_replicate]; show _ + 1 ≤ _; omega) ?_
    rw [nm_tx]
    walk_at "go"
    refine ⟨by rw [sizeLine_eq]; exact (by decide : 2 ≤ 16777216), ?_⟩
    exact ⟨by walk_at "ls", rfl, rfl⟩
  have ecar : ((carsN ns).map cv).filterMap carrow? = (carsN ns).map fun k => rv (toRow k) := by
    rw [List.filterMap_map, ← List.filterMap_eq_map]
    exact fm_congr fun z _ => carrow_cv z
  rw [ecar]
  walk_at "go"
  walk_at "cf"
  walk_at "go"
  have ewis : ((carsN ns).map cv).filterMap fst? = (wsN ns).map fun w : Nat => V.int (w : Int) := rfl
  refine ev_comp oA.hh rfl rfl (by decide) ?_ fun _ => rfl
  walk_at "go"
  refine ⟨_, _, none, [], fst?, src_list, True.intro, fun led' e => True.intro, by rw [sizeLine_eq, List.length_map]; exact (by decide : 5 ≤ 16777216), by walk_at "clo", by walk_at "ful", fun C cl' j d led' he hx hcl => ?_, ?_⟩
  · subst hcl
    obtain ⟨r, hr1, hr2, rfl⟩ := cv_at he
    refine each_nil ?_
    walk_at "go"
    refine ev_sub ?_ fun o b => ⟨_, rfl⟩
    walk_at "go"
    unfold cv
    walk_at "it0"
    exact ⟨by walk_at "ls", rfl, rfl⟩
  rw [ewis]
  walk_at "go"
  refine ca_of (n := 30) ((fs_places (n := 0) .lst (by show 5 ≤ 100; decide) fun led₁ ap hap hled₁ => ?_).up (by omega)) oA
  have hp1 : led₁ ap = some (.list ((tk (wsN ns) 9).map fun p : Nat => V.int (p : Int))) := by rw [hled₁, upd_eq]
  walk_at "go"
  refine ex_assign_tuple ?_ rfl rfl
  walk_at "go"
  walk_at "cf"
  walk_at "go"
  refine ev_sub ?_ fun o b => ⟨_, rfl⟩
  walk_at "go"
  refine ⟨.inl ⟨_, .lst⟩, op_item_list (k := 5) .lst .int rfl hc7 (cells_at ns (by decide)) ?_⟩
  walk_at "go"
  refine ev_sub ?_ fun o b => ⟨_, rfl⟩
  walk_at "go"
  refine ⟨.inl ⟨_, .lst⟩, op_item_list (k := 6) .lst .int rfl hc7 (cells_at ns (by decide)) ?_⟩
  walk_at "go"
  have F := facts ns (cellN ns 5)
  have hce : (carsN ns).map (fun k => rv (toRow k)) = (roadN ns).map fun k => rv (pr (letN ns) k) := by rw [List.map_map]; rfl
  refine ca_of (n := 30) ((fs_one (n := 0) (f := cellN ns 5) (wv := cellN ns 6) (cars_ok ns) (fun k hk => Nat.le_trans (cars_le ns k hk) (by decide)) (by show 5 ≤ 10; decide) (fun i k h => let ⟨a1, a2, a3, a4, a5, a6, a7⟩ := F.at_ i k h; ⟨a1, a2, a3, a4, a5, a6, a7⟩) fun led₂ x dx a hx2 hD => ?_).up (by omega)) oA
  have hp2 := hx2 _ _ hp1
  refine at_tuple oA.hh rfl rfl ?_
  walk_at "go"
  walk_at "cb"
  walk_at "go"
  have e5 : ((tk (wsN ns) 9).map fun p : Nat => V.int (p : Int)) = ((tk (wsN ns) 9).map fun p : Nat => (p : Int)).map .int := by rw [List.map_map]; rfl
  refine ca_sum oA.hh (e5 ▸ IsL.own hp2) (Nums.int _) ?_
  walk_at "go"
  walk_at "cb"
  walk_at "go"
  refine ev_comp oA.hh rfl rfl (by decide) ?_ fun _ => rfl
  walk_at "go"
  refine ⟨_, _, none, [], fst?, src_list, True.intro, fun led' e => True.intro, by rw [sizeLine_eq, List.length_map]; exact (by decide : 5 ≤ 16777216), by walk_at "clo", by walk_at "ful", fun C cl' j d led' he hx hcl => ?_, ?_⟩
  · subst hcl
    obtain ⟨r, hr1, hr2, rfl⟩ := cv_at he
    refine each_nil ?_
    walk_at "go"
    refine ev_sub ?_ fun o b => ⟨_, rfl⟩
    walk_at "go"
    unfold cv
    walk_at "it0"
    exact ⟨by walk_at "ls", rfl, rfl⟩
  rw [ewis]
  walk_at "go"
  have e6 : ((wsN ns).map fun w : Nat => V.int (w : Int)) = ((wsN ns).map fun p : Nat => (p : Int)).map .int := by rw [List.map_map]; rfl
  rw [e6]
  refine ca_sum oA.hh .lst (Nums.int _) ?_
  refine op_sub_int .num .num ?_
  refine op_ne_int .int .int ?_
  refine ⟨_, rfl, ?_⟩
  have hsum : (((parks (cellN ns 5) ([], 0) (carsN ns)).2 : Nat) : Int) = ((tk (wsN ns) 9).map fun p : Nat => (p : Int)).sum - ((wsN ns).map fun p : Nat => (p : Int)).sum := by
    rw [sum_cast, sum_cast, F.taken, (isort_perm _).sum_nat]
    have := F.good.mv
    rw [pl_cars] at this
    omega
  rw [← hsum, if_neg (by simp)]
  walk_at "go"
  have hpl : (pl (parks (cellN ns 5) ([], 0) (carsN ns)).1).Perm (tk (wsN ns) 9) := F.good.perm.trans (F.taken ▸ (isort_perm _).symm)
  have hso : (tk (wsN ns) 9).Pairwise (· ≤ ·) := F.taken ▸ isort_sorted _
  have hle : ∀ k ∈ (parks (cellN ns 5) ([], 0) (carsN ns)).1, k.1 ≤ 60 := fun k hk => Nat.le_trans (F.le _ (F.good.perm.mem_iff.mp (List.mem_map.mpr ⟨k, hk, rfl⟩))) (by decide)
  have hl5 : (parks (cellN ns 5) ([], 0) (carsN ns)).1.length = 5 := by
    have := F.good.perm.length_eq
    unfold pl at this
    rw [List.length_map, occs_len] at this
    exact this
  walk_at "cf"
  walk_at "go"
  walk_at "cf"
  walk_at "go"
  refine ev_sub ?_ fun o b => ⟨_, rfl⟩
  walk_at "go"
  refine ⟨.inl ⟨_, .lst⟩, op_item_list (k := 5) .lst .int rfl hc7 (cells_at ns (by decide)) ?_⟩
  walk_at "go"
  refine ca_of (n := 30) ((fs_plain (n := 0) (f := cellN ns 5) (cars_ok ns) (by show 5 ≤ 10; decide) (fun i k hk => ⟨(F.at_ i k hk).1, Nat.le_trans (F.at_ i k hk).2.1 (by decide), (F.at_ i k hk).2.2.1, (F.at_ i k hk).2.2.2.1⟩) fun led₃ ar hx3 hr3 => ?_).up (by omega)) oA
  walk_at "go"
  refine ca_of (n := 30) ((fs_holds (n := 0) F.good.ok hle hl5 (F.good.perm.nodup_iff.mpr F.good.nd) hpl hso (hD.ext hx3) (.own hr3) (.own (hx3 _ _ hp2)) ?_).up (by omega)) oA
  refine truth_bool ?_
  rw [if_neg (by decide)]
  walk_at "go"
  have G := facts2 ns
  walk_at "cf"
  walk_at "go"
  walk_at "cf"
  walk_at "go"
  refine ev_sub ?_ fun o b => ⟨_, rfl⟩
  walk_at "go"
  refine ⟨.inl ⟨_, .lst⟩, op_item_list (k := 6) .lst .int rfl hc7 (cells_at ns (by decide)) ?_⟩
  walk_at "go"
  rw [hce]
  refine ca_of (n := 30) ((fs_all (n := 0) (L := letN ns) (wv := cellN ns 6) (G.ok.le (by decide)) (by show 5 ≤ 5; decide) rfl G.ne fun led₄ x' dx' a' hx4 hD' => ?_).up (by omega)) oA
  walk_at "go"
  walk_at "cf"
  walk_at "go"
  refine ca_of (n := 30) ((fs_brackets (n := 0) (L := letN ns) G.ok rfl G.len G.sl ?_).up (by omega)) oA
  walk_at "go"
  have hmap : ((sortB (brk (roadN ns).reverse [] [1, 2, 3, 4, 5, 6, 7, 8, 9])).map fun k => (k.place, letN ns k.car, k.car)) = (allR 5 [] (roadN ns)).map (tc (letN ns)) := by
    rw [G.eq, List.map_map]; rfl
  have hrow : (allR 5 [] (roadN ns)).map (pr (letN ns)) = ((allR 5 [] (roadN ns)).map (tc (letN ns))).map toRow := by rw [List.map_map]; rfl
  rw [hmap]
  rw [hrow] at hD'
  have hpl2 : pl ((allR 5 [] (roadN ns)).map (tc (letN ns))) = (allR 5 [] (roadN ns)).map (·.1) := by unfold pl; rw [List.map_map]; rfl
  refine ca_of (n := 30) ((fs_holds (n := 0) G.cars (fun k hk => Nat.le_trans (G.le k hk) (by decide)) (by rw [List.length_map]; exact G.len5) (hpl2 ▸ G.perm.nodup_iff.mpr F.good.nd) (hpl2 ▸ G.perm.trans (F.taken ▸ (isort_perm _).symm)) hso hD' .lst (.own (hx4 _ _ (hx3 _ _ hp2))) ?_).up (by omega)) oA
  walk_at "go"
end
end
end Mine
end
open PySem PySem.W PySem.Calls PyProof.Rows
set_option maxRecDepth 100000 in
set_option maxHeartbeats 8000000 in
theorem PySem.Challenge.cw_ti0033_01_holds : PySem.Challenge.rw_ti0033_01.Holds := by
  refine Mine.hd ?_
  intro w s₀ s₁ mg mb G Y fa o pm cd doc dV kV ho hd hcd hD hmg hg args vals as hpre hlay hrd hwl hlo
  have KX := kIn_of Y
  clear hcd hD hd
  have T := G.T
  have hfa : fa = 290 := by
    have := mg_of KX T.g (n := "law") (v := .ref 290) (by k_is)
    have h2 : mg "law" = some (.ref fa) := Mine.hd.fd_name ▸ hmg
    rw [h2] at this
    cases this; rfl
  subst hfa
  clear hmg ho
  have GD : Mine.Gd (Mine.hd.heap_39 w.params) s₁.heap := ⟨KX, by k_is, ⟨mg, T.g⟩, ⟨mb, T.b, T.builtins⟩, T.nolimit⟩
  clear T G Y
  wrow_args hpre hlay hrd hwl hlo
  rename_i ns hs1 hl0 hL1 hr1 hl2 as1 as2 l vs as3 hL ra hw hr0 hI hr hc hT
  have hn : ns.length ≤ 63 := by omega
  obtain ⟨n, ho⟩ : ∃ n, s₁.heap.get? l = some { cls := .type "list", data := .seq vs.toArray n } := by
    obtain ⟨o, e1, _, n, e2⟩ := hL
    cases hw with
    | list e3 _ =>
      rw [e1] at e3
      cases e3
      cases e2
      exact ⟨_, e1⟩
  refine enter_call (codeAny_mono (Mine.law_run ns hn callerA s₁ ⟨fun a => if a = l then some { cls := .type "list", data := .seq vs.toArray n } else none, fun _ => none⟩ [.ref l] ⟨rfl, by decide, by decide⟩ GD (fun a o e => ?_) (fun a o e => ?_) (fun _ => rfl) (.cons (.lst (if_pos rfl) (Mine.nums_of hI)) .nil)) fun r s' p => ?_)
  · have e : (if a = l then some ({ cls := .type "list", data := .seq vs.toArray n } : Obj) else none) = some o := e
    by_cases z : a = l
    · rw [if_pos z] at e; cases e; rw [z]; exact ho
    · rw [if_neg z] at e; cases e
  · have e : (if a = l then some ({ cls := .type "list", data := .seq vs.toArray n } : Obj) else none) = some o := e
    by_cases z : a = l
    · rw [if_pos z] at e; cases e; exact .inl ⟨_, _, rfl, .inr rfl⟩
    · rw [if_neg z] at e; cases e
  · match r, p with
    | .ok (.ret v), p =>
      obtain ⟨e, k, Z', r, rv, rfl⟩ := p
      cases rv
      refine GoodW.toG ⟨.inl ⟨_, _, _, rfl, raisesW_false ?_, .bool _, ?_, unshared_nil⟩, k, by rw [e], by rw [e]; exact hg⟩
      · wrow_none_raised
      · wrow_post
    | .ok .next, p => exact p.elim
    | .ok .brk, p => exact p.elim
    | .ok .cont, p => exact p.elim
    | .error _, p => exact p.elim
