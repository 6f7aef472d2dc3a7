import PyProof.Rows.All
import Wide.All
import OpenK.AllK
import Wide.FinOn
import PySem.Challenge.RW_fe0331_01
open PySem PySem.W PySem.Calls PyProof.Rows PyProof.V
set_option Elab.async false
set_option maxRecDepth 100000
set_option maxHeartbeats 8000000
set_option linter.unusedVariables false
set_option rowWalk.seconds 3000
namespace Mine
local macro_rules | `(tactic| k_head) => `(tactic| x_head)
open_top hd for PySem.Challenge.rw_fe0331_01
end Mine
namespace Mine
abbrev PW := PySem.Challenge.rw_fe0331_01.row.prog
noncomputable abbrev LO := looseW hd.view_39 [Str.ofString "ConfigError", Str.ofString "DidCodec", Str.ofString "_law_names"]
abbrev Led := List (Addr × Obj)
abbrev CKey := Int ⊕ Str

/-! keys that are ints or texts -/
def ckIs : CKey → Value → Bool
  | .inl n, v => Value.isInt n v
  | .inr x, v => Value.isStrOf x v
def ckHash (w : World) : CKey → Int
  | .inl n => hashInt n
  | .inr x => hashStr w x
theorem ckIs_inl {n : Int} {v : Value} (h : ckIs (.inl n) v = true) : ∃ t, v = .int n t := Value.isInt_shape h
theorem ckIs_inr {x : Str} {v : Value} (h : ckIs (.inr x) v = true) : ∃ t, v = .str x t := Value.isStrOf_shape h

def ckKind (prog : Program) (w : World) : KeyKind prog w CKey where
  is := ckIs
  hash := ckHash w
  inj := fun v a b ha hb => by
    cases a with
    | inl n => cases b with
      | inl k => rw [Value.isInt_inj v n k ha hb]
      | inr x => obtain ⟨t, rfl⟩ := ckIs_inl ha; obtain ⟨u, hu⟩ := ckIs_inr hb; cases hu
    | inr x => cases b with
      | inl k => obtain ⟨t, rfl⟩ := ckIs_inr ha; obtain ⟨u, hu⟩ := ckIs_inl hb; cases hu
      | inr y => rw [Value.isStrOf_inj v x y ha hb]
  byValue := fun k v h => by
    cases k with
    | inl n => obtain ⟨t, rfl⟩ := ckIs_inl h; rfl
    | inr x => obtain ⟨t, rfl⟩ := ckIs_inr h; rfl
  pyHash := fun {A E s k v Q} hv h => by
    cases k with
    | inl n => exact (intKind prog w).pyHash (k := n) hv h
    | inr x => exact (strKind prog w).pyHash (k := x) hv h
  eqBool := fun {A E s a b u v Q} hu hv h => by
    cases a with
    | inl n => cases b with
      | inl k => exact (intKind prog w).eqBool (a := n) (b := k) hu hv (by simpa using h)
      | inr x =>
        obtain ⟨t, rfl⟩ := ckIs_inl hu
        obtain ⟨t', rfl⟩ := ckIs_inr hv
        exact SeqAt.EqAt.int_str n t x t' prog w E Q (by simpa using h)
    | inr x => cases b with
      | inl k =>
        obtain ⟨t, rfl⟩ := ckIs_inr hu
        obtain ⟨t', rfl⟩ := ckIs_inl hv
        exact SeqAt.EqAt.str_int x t k t' prog w E Q (by simpa using h)
      | inr y => exact (strKind prog w).eqBool (a := x) (b := y) hu hv (by simpa using h)
  «strs» := fun k x t v h => by
    cases k with
    | inl n => obtain ⟨u, hu⟩ := ckIs_inl h; cases hu
    | inr y => exact (strKind prog w).«strs» y x t v h
theorem ck_int (prog : Program) (w : World) (n : Int) (t : Tok) : (ckKind prog w).is (.inl n) (.int n t) = true := intKind_is prog w n t
theorem ck_str (prog : Program) (w : World) (x : Str) (t : Tok) : (ckKind prog w).is (.inr x) (.str x t) = true := strKind_is prog w x t

/-! what a ledger bears -/
structure DictL {w : World} {K : Type} [DecidableEq K] (knd : KeyKind PW w K) (N : Led) (d : Addr) (kvs : List (K × Value)) : Prop where
  ex : ∃ o, (d, o) ∈ N ∧ o.IsDictOf knd kvs
  lo : (d == sysModules) = false
section
variable {w : World} {K : Type} [DecidableEq K] {knd : KeyKind PW w K} {N N' : Led} {d : Addr} {kvs : List (K × Value)}
theorem DictL.mono (h : DictL knd N d kvs) (hs : ∀ p ∈ N, p ∈ N') : DictL knd N' d kvs :=
  ⟨let ⟨o, a, b⟩ := h.ex; ⟨o, hs _ a, b⟩, h.lo⟩
theorem DictL.at {h₀ h : Heap} {L : Addr} (C : DictL knd N d kvs) (H : News h₀ L h N) : h.DictOf knd d kvs :=
  let ⟨o, a, b⟩ := C.ex; Heap.dictOf_iff.mpr ⟨o, (H _ a).1, b⟩
end
abbrev sK (w : World) : KeyKind PW w Str := strKind PW w
abbrev cK (w : World) : KeyKind PW w CKey := ckKind PW w

/-! the law's own formats -/
def fmtOf (k : Int) : Str := if k = 0 then Str.ofString "B" else if k = 1 then Str.ofString ">H" else if k = 2 then Str.ofString "<I" else if k = 3 then Str.ofString ">BHB" else Str.ofString ">qB"
def sizeOf' (k : Int) : Int := if k = 0 then 1 else if k = 1 then 2 else if k = 2 then 4 else if k = 3 then 4 else 9
def kd (n : Int) : Int := Int.fmod n 12
def rs (n : Int) : Int := Int.fmod (Int.fdiv n 12) 300
theorem kd_lo (n : Int) : 0 ≤ kd n := fmod_lo n (by decide)
theorem kd_hi (n : Int) : kd n < 12 := fmod_hi n (by decide)
theorem rs_lo (n : Int) : 0 ≤ rs n := fmod_lo _ (by decide)
theorem rs_hi (n : Int) : rs n < 300 := fmod_hi _ (by decide)

/-- plain data of the two tables that the law compares -/
inductive Dd where
  | none
  | bool (b : Bool)
  | int (i : Int)
  | str (x : Str)
  | list (xs : List Dd)
  | dmask (i : Int)
  | dcemp
  | dnest

mutual
inductive Rep (w : World) (N : Led) : Value → Dd → Prop
  | none : Rep w N .none .none
  | bool (b : Bool) : Rep w N (.bool b) (.bool b)
  | int (i : Int) (t : Tok) : Rep w N (.int i t) (.int i)
  | str (x : Str) (t : Tok) : Rep w N (.str x t) (.str x)
  | list {a : Addr} {vs : List Value} {n : Nat} {ds : List Dd} : (a, listOf vs.toArray n) ∈ N → RepAll w N vs ds → Rep w N (.ref a) (.list ds)
  | dmask {a : Addr} {i : Int} {t : Tok} : DictL (sK w) N a [(Str.ofString "mask", .int i t)] → Rep w N (.ref a) (.dmask i)
  | dcemp {a : Addr} {t : Tok} : DictL (sK w) N a [(Str.ofString "codec", .str (Str.ofString "") t)] → Rep w N (.ref a) .dcemp
  | dnest {a b c : Addr} {t : Tok} : DictL (sK w) N a [(Str.ofString "codec", .ref b)] → DictL (sK w) N b [(Str.ofString "codec", .str (Str.ofString "<hb") t), (Str.ofString "mask", .ref c)] →
      DictL (sK w) N c [] → Rep w N (.ref a) .dnest
inductive RepAll (w : World) (N : Led) : List Value → List Dd → Prop
  | nil : RepAll w N [] []
  | cons {v : Value} {d : Dd} {vs : List Value} {ds : List Dd} : Rep w N v d → RepAll w N vs ds → RepAll w N (v :: vs) (d :: ds)
end

mutual
theorem Rep.mono {w : World} {N N' : Led} (hs : ∀ p ∈ N, p ∈ N') : ∀ {v : Value} {d : Dd}, Rep w N v d → Rep w N' v d
  | _, _, .none => .none
  | _, _, .bool b => .bool b
  | _, _, .int i t => .int i t
  | _, _, .str x t => .str x t
  | _, _, .list hm hr => .list (hs _ hm) (RepAll.mono hs hr)
  | _, _, .dmask h => .dmask (h.mono hs)
  | _, _, .dcemp h => .dcemp (h.mono hs)
  | _, _, .dnest h1 h2 h3 => .dnest (h1.mono hs) (h2.mono hs) (h3.mono hs)
theorem RepAll.mono {w : World} {N N' : Led} (hs : ∀ p ∈ N, p ∈ N') : ∀ {vs : List Value} {ds : List Dd}, RepAll w N vs ds → RepAll w N' vs ds
  | _, _, .nil => .nil
  | _, _, .cons h r => .cons (Rep.mono hs h) (RepAll.mono hs r)
end

/-- a definition made of a number -/
inductive RepN (w : World) (N : Led) : Value → Int → Prop
  | fmt {n : Int} (x : Str) (t : Tok) : kd n < 5 → x = fmtOf (kd n) → RepN w N (.str x t) n
  | emp {n : Int} (t : Tok) : kd n = 5 → RepN w N (.str (Str.ofString "") t) n
  | num {n i : Int} (t : Tok) : kd n = 6 → i = rs n → RepN w N (.int i t) n
  | mask {n i : Int} {v : Value} : kd n = 7 → i = rs n → Rep w N v (.dmask i) → RepN w N v n
  | cemp {n : Int} {v : Value} : kd n = 8 → Rep w N v .dcemp → RepN w N v n
  | nest {n : Int} {v : Value} : kd n = 9 → Rep w N v .dnest → RepN w N v n
  | quad {n : Int} {a d : Addr} {t u : Tok} {h : Int} : kd n = 10 → (a, instObj 117 d) ∈ N → (d, dictOf [⟨h, .str (Str.ofString "packstr") u, .str (Str.ofString ">Q") t⟩] 1) ∈ N → RepN w N (.ref a) n
  | asc {n i : Int} {a d : Addr} {t u : Tok} {h : Int} : kd n = 11 → i = rs n → (a, instObj 159 d) ∈ N → (d, dictOf [⟨h, .str (Str.ofString "string_len") u, .int i t⟩] 1) ∈ N → RepN w N (.ref a) n
theorem RepN.mono {w : World} {N N' : Led} (hs : ∀ p ∈ N, p ∈ N') {v : Value} {n : Int} (h : RepN w N v n) : RepN w N' v n := by
  cases h with
  | fmt x t a b => exact .fmt x t a b
  | emp t a => exact .emp t a
  | num t a b => exact .num t a b
  | mask a b r => exact .mask a b (r.mono hs)
  | cemp a r => exact .cemp a (r.mono hs)
  | nest a r => exact .nest a (r.mono hs)
  | quad a b c => exact .quad a (hs _ b) (hs _ c)
  | asc a b c d => exact .asc a b (hs _ c) (hs _ d)

/-- what the law's tables tell of a definition -/
def plainD (n : Int) : Dd :=
  if kd n < 5 then .str (fmtOf (kd n)) else if kd n = 5 then .str (Str.ofString "") else if kd n = 6 then .int (rs n) else if kd n = 7 then .dmask (rs n)
  else if kd n = 8 then .dcemp else if kd n = 9 then .dnest else .str (Str.ofString "a codec")
def lenD (n : Int) : Option Int :=
  if kd n < 5 then some (sizeOf' (kd n)) else if kd n < 9 then none else if kd n = 9 then some 3 else if kd n = 10 then some 8 else some (rs n)
def formD (n : Int) : Dd := if kd n < 5 then .str (fmtOf (kd n)) else if kd n = 9 then .str (Str.ofString "<hb") else .none
def madeD (n : Int) : Dd := match lenD n with
  | none => .list [.str (Str.ofString "no codec")]
  | some l => .list [.str (Str.ofString "codec"), .int l, .bool (decide (9 < kd n)), formD n]

/-- the table of definitions, as data: keys in their order, each with its number -/
abbrev Cfg := List (CKey × Int)
def KvsRep (w : World) (N : Led) : List (CKey × Value) → Cfg → Prop
  | [], [] => True
  | kv :: kvs, c :: cs => kv.1 = c.1 ∧ RepN w N kv.2 c.2 ∧ KvsRep w N kvs cs
  | _, _ => False
theorem KvsRep.mono {w : World} {N N' : Led} (hs : ∀ p ∈ N, p ∈ N') : ∀ {kvs : List (CKey × Value)} {cs : Cfg}, KvsRep w N kvs cs → KvsRep w N' kvs cs
  | [], [], _ => trivial
  | _ :: _, _ :: _, ⟨a, b, c⟩ => ⟨a, b.mono hs, KvsRep.mono hs c⟩
  | [], _ :: _, h => h.elim
  | _ :: _, [], h => h.elim
def look (cs : Cfg) (k : CKey) : Option Int := (cs.find? fun c => decide (c.1 = k)).map (·.2)
theorem KvsRep.look {w : World} {N : Led} {k : CKey} : ∀ {kvs : List (CKey × Value)} {cs : Cfg}, KvsRep w N kvs cs →
    (valueAt kvs k = none ∧ look cs k = none) ∨ ∃ v n, valueAt kvs k = some v ∧ Mine.look cs k = some n ∧ RepN w N v n
  | [], [], _ => .inl ⟨rfl, rfl⟩
  | kv :: kvs, c :: cs, ⟨a, b, r⟩ => by
    have ih := KvsRep.look (k := k) r
    unfold valueAt Mine.look at ih ⊢
    simp only [List.find?_cons]
    by_cases h : kv.1 = k
    · have h' : c.1 = k := a ▸ h
      exact .inr ⟨kv.2, c.2, by simp [h], by simp [h'], b⟩
    · have h' : ¬ c.1 = k := a ▸ h
      simp only [h, h', decide_false]
      exact ih
  | [], _ :: _, h => h.elim
  | _ :: _, [], h => h.elim
theorem KvsRep.length {w : World} {N : Led} : ∀ {kvs : List (CKey × Value)} {cs : Cfg}, KvsRep w N kvs cs → kvs.length = cs.length
  | [], [], _ => rfl
  | _ :: _, _ :: _, ⟨_, _, r⟩ => congrArg (· + 1) (KvsRep.length r)
  | [], _ :: _, h => h.elim
  | _ :: _, [], h => h.elim
abbrev kDef : CKey := .inr (Str.ofString "default")
/-- the number whose definition answers -/
def answer (cs : Cfg) (d : Int) : Option Int := match look cs (.inl d) with
  | some n => some n
  | none => look cs kDef
def wantD (cs : Cfg) : List Int → Dd
  | [] => .list [.str (Str.ofString "taken"), .bool true]
  | d :: r => match answer cs d with
    | some _ => wantD cs r
    | none => .list [.str (Str.ofString "refused"), .int d]

/-! rules of the walk -/
section
variable {w : World} {A : Around} {E : Value → Shared → Prop} {s : Shared} {h₀ : Heap} {L d l : Addr} {m : Str → Option Value} {N N' : Led}
theorem c_in {K : Type} [DecidableEq K] {knd : KeyKind PW w K} {kvs : List (K × Value)} {k : K} {key : Value} {b : Bool} {Q : Value → Shared → Prop} (H : News h₀ L s.heap N) (C : DictL knd N d kvs) (hkey : knd.is k key = true) (hb : (valueAt kvs k).isSome = b)
    (h : Q (.bool b) { s with toks := s.toks + 1 }) : wpAny (model PW w) A (compareOp .In key (.ref d)) Q E s := wpAny_in_of hkey C.lo (C.at H).mapOf (by rw [hb]; exact h)
theorem c_notin {K : Type} [DecidableEq K] {knd : KeyKind PW w K} {kvs : List (K × Value)} {k : K} {key : Value} {b : Bool} {Q : Value → Shared → Prop} (H : News h₀ L s.heap N) (C : DictL knd N d kvs) (hkey : knd.is k key = true) (hb : (valueAt kvs k).isSome = b)
    (h : Q (.bool (!b)) { s with toks := s.toks + 1 }) : wpAny (model PW w) A (compareOp .NotIn key (.ref d)) Q E s := wpAny_notIn_of hkey C.lo (C.at H).mapOf (by rw [hb]; exact h)
theorem c_item {value slice : PySem.Expr} {K : Type} [DecidableEq K] {knd : KeyKind PW w K} {kvs : List (K × Value)} {k : K} {key v : Value} {Q : Value → Shared → Prop} (H : News h₀ L s.heap N) (C : DictL knd N d kvs) (hkey : knd.is k key = true) (hl : valueAt kvs k = some v)
    (h : Q v { s with toks := s.toks + 1 })
    (hs : subscripted slice false (.ref d) key = operate [.ref d, key] (getItem (.ref d) key) := by with_unfolding_all rfl) (hg : ∀ r, letTemporaryGo value (.ref d) r = pure () := by intro _; with_unfolding_all rfl) :
    wpAny (model PW w) A (subscriptTail value slice (.ref d) key) Q E s :=
  have hD := C.at H
  subscriptTail_builtin hD.typeIs slot_dict_getitem.lookup (wpAny_getItem_of hkey hD.mapOf hl h) hs hg
theorem item_at {value slice : PySem.Expr} {vs : List Value} {k : Int} {u : Tok} {Q : Value → Shared → Prop}
    (hl : s.heap.IsList l vs.toArray) (h0 : 0 ≤ k) (h1 : k < (vs.length : Int)) (hz : vs.length < 2 ^ 62) (h : ∀ v, vs[k.toNat]? = some v → Q v s)
    (hs : subscripted slice false (.ref l) (.int k u) = operate [.ref l, .int k u] (getItem (.ref l) (.int k u)) := by with_unfolding_all rfl) :
    wpAny (model PW w) A (subscriptTail value slice (.ref l) (.int k u)) Q E s := by
  have hlt : k.toNat < vs.length := by omega
  exact tail_any hl.typeIs slot_list_getitem.lookup (wpAny_getItem_list hl h0 (by omega) (by simpa using List.getElem?_eq_getElem hlt) (h _ (List.getElem?_eq_getElem hlt))) hs
end
end Mine
namespace Mine
local macro_rules | `(tactic| k_mem) => `(tactic| assumption)
local macro_rules | `(tactic| walk_at "compareOp In str ref") => `(tactic| (k_here; first
  | (refine c_in (k := Sum.inr _) (knd := ckKind _ _) (by k_asm) (DictL.mono (by assumption) (by kcj_all)) (ck_str _ _ _ _) (by assumption) ?_)
  | (refine c_in (b := true) (knd := strKind _ _) (by k_asm) (DictL.mono (by assumption) (by kcj_all)) (strKind_is _ _ _ _) (by rfl) ?_)
  | (refine c_in (b := false) (knd := strKind _ _) (by k_asm) (DictL.mono (by assumption) (by kcj_all)) (strKind_is _ _ _ _) (by rfl) ?_)))
local macro_rules | `(tactic| walk_at "compareOp NotIn str ref") => `(tactic| (k_here; refine c_notin (k := Sum.inr _) (knd := ckKind _ _) (by k_asm) (DictL.mono (by assumption) (by kcj_all)) (ck_str _ _ _ _) (by assumption) ?_))
local macro_rules | `(tactic| walk_at "compareOp In int ref") => `(tactic| (k_here; refine c_in (k := Sum.inl _) (knd := ckKind _ _) (by k_asm) (DictL.mono (by assumption) (by kcj_all)) (ck_int _ _ _ _) (by assumption) ?_))
local macro_rules | `(tactic| walk_at "compareOp NotIn int ref") => `(tactic| (k_here; refine c_notin (k := Sum.inl _) (knd := ckKind _ _) (by k_asm) (DictL.mono (by assumption) (by kcj_all)) (ck_int _ _ _ _) (by assumption) ?_))
local macro_rules | `(tactic| walk_at "subscriptTail") => `(tactic| (k_here; first
  | ((with_reducible show wpAny _ _ (subscriptTail _ _ (Value.ref _) (Value.int _ _)) _ _ _); (refine c_item (k := Sum.inl _) (knd := ckKind _ _) (by k_asm) (DictL.mono (by assumption) (by kcj_all)) (ck_int _ _ _ _) (by assumption) ?_))
  | ((with_reducible show wpAny _ _ (subscriptTail _ _ (Value.ref _) (Value.str _ _)) _ _ _); (refine c_item (k := Sum.inr _) (knd := ckKind _ _) (by k_asm) (DictL.mono (by assumption) (by kcj_all)) (ck_str _ _ _ _) (by assumption) ?_))
  | ((with_reducible show wpAny _ _ (subscriptTail _ _ (Value.ref _) (Value.str _ _)) _ _ _); (refine c_item (knd := strKind _ _) (by k_asm) (DictL.mono (by assumption) (by kcj_all)) (strKind_is _ _ _ _) (by rfl) ?_))))
def Ext (h h' : Heap) : Prop := ∀ b o, h.get? b = some o → h'.get? b = some o
def AN (d u : Nat) : Around := { handled := none, depth := d, frames := none, guards := none, units := u }
theorem wpAny_an {α : Type} {M : Model} {A : Around} {d u : Nat} {t : Sem α} {Q : α → Shared → Prop} {E : Value → Shared → Prop} {s : Shared} (h : wpAny M (AN d u) t Q E s) (hh : A.handled = none) (hd : A.depth ≤ d) (hu : A.units ≤ u) :
    wpAny M A t Q E s := fun Γ p hΓ => h Γ p ⟨by rw [hΓ.1, hh]; rfl, Nat.le_trans hΓ.2.1 hd, (fun _ e => by cases e), (fun _ e => by cases e), Nat.le_trans hΓ.2.2.2.2 hu⟩
def NewIn (h h' : Heap) (own : Led) : Prop := ∀ p ∈ own, h'.get? p.1 = some p.2 ∧ h.get? p.1 = none
def Ret (s : Shared) (P : Value → Led → Prop) (v : Value) (s' : Shared) : Prop :=
  ∃ h' tk own, s' = { s with heap := h', toks := tk } ∧ Ext s.heap h' ∧ NewIn s.heap h' own ∧ P v own
theorem ret_intro {s : Shared} {P : Value → Led → Prop} {v : Value} {h' : Heap} {news : List (Addr × Obj)} {tk : Nat} (D : X.Mem s.heap h' [] news) (hP : P v news) :
    Ret s P v ⟨h', s.gens, s.drawn, tk, s.os⟩ :=
  ⟨h', tk, news, rfl, fun b o e => D.keep b o e (by unfold X.away; simp), D.nw, hP⟩
/-- a call that was run by itself, used in a walk -/
theorem ret_use {w : World} {A : Around} {f : Value} {vs : List Value} {kw : List (Str × Value)} {P : Value → Led → Prop} {d u : Nat} {s : Shared} {Q E : Value → Shared → Prop} {h₀ : Heap} {L : Addr} {m : Str → Option Value} {N : Led}
    (h : wpAny (model PW w) (AN d u) (call f vs kw) (Ret s P) (fun _ _ => False) s) (hh : A.handled = none) (hd : A.depth ≤ d) (hu : A.units ≤ u)
    (F : Fr h₀ L s.heap m) (H : News h₀ L s.heap N)
    (k : ∀ v own h' tk, Ext s.heap h' → Fr h₀ L h' m → News h₀ L h' (own ++ N) → (∀ p ∈ own, ∀ q ∈ N, q.1 ≠ p.1) → NewIn s.heap h' own → P v own → Q v { s with heap := h', toks := tk }) :
    wpAny (model PW w) A (call f vs kw) Q E s := by
  refine wpAny_mono (wpAny_an h hh hd hu) (fun v s' r => ?_) fun _ _ z => z.elim
  obtain ⟨h', tk, own, rfl, ex, nw, hP⟩ := r
  refine k v own h' tk ex (F.keeps ex) (fun p hp => ?_) (fun p hp q hq e => ?_) nw hP
  · rcases List.mem_append.mp hp with hp | hp
    · obtain ⟨a, b⟩ := nw p hp
      refine ⟨a, fun e => ?_, ?_⟩
      · obtain ⟨oL, es, ep, hL, _⟩ := F.ns
        rw [e, hL] at b; cases b
      · cases z : h₀.get? p.1 with
        | none => rfl
        | some o => rw [F.keep _ _ z] at b; cases b
    · exact ⟨ex _ _ (H p hp).1, (H p hp).2⟩
  · have b := (nw p hp).2
    rw [← e, (H q hq).1] at b; cases b
end Mine
namespace Mine
theorem off_FEce1 : True := by
  w_top off
  trivial
local macro_rules | `(tactic| k_mem) => `(tactic| assumption)
local macro_rules | `(tactic| walk_at "compareOp In str ref") => `(tactic| (k_here; first
  | (refine c_in (k := Sum.inr _) (knd := ckKind _ _) (by k_asm) (DictL.mono (by assumption) (by kcj_all)) (ck_str _ _ _ _) (by assumption) ?_)
  | (refine c_in (b := true) (knd := strKind _ _) (by k_asm) (DictL.mono (by assumption) (by kcj_all)) (strKind_is _ _ _ _) (by rfl) ?_)
  | (refine c_in (b := false) (knd := strKind _ _) (by k_asm) (DictL.mono (by assumption) (by kcj_all)) (strKind_is _ _ _ _) (by rfl) ?_)))
local macro_rules | `(tactic| walk_at "compareOp NotIn str ref") => `(tactic| (k_here; refine c_notin (k := Sum.inr _) (knd := ckKind _ _) (by k_asm) (DictL.mono (by assumption) (by kcj_all)) (ck_str _ _ _ _) (by assumption) ?_))
local macro_rules | `(tactic| walk_at "compareOp In int ref") => `(tactic| (k_here; refine c_in (k := Sum.inl _) (knd := ckKind _ _) (by k_asm) (DictL.mono (by assumption) (by kcj_all)) (ck_int _ _ _ _) (by assumption) ?_))
local macro_rules | `(tactic| walk_at "compareOp NotIn int ref") => `(tactic| (k_here; refine c_notin (k := Sum.inl _) (knd := ckKind _ _) (by k_asm) (DictL.mono (by assumption) (by kcj_all)) (ck_int _ _ _ _) (by assumption) ?_))
local macro_rules | `(tactic| walk_at "subscriptTail") => `(tactic| (k_here; first
  | ((with_reducible show wpAny _ _ (subscriptTail _ _ (Value.ref _) (Value.int _ _)) _ _ _); (refine c_item (k := Sum.inl _) (knd := ckKind _ _) (by k_asm) (DictL.mono (by assumption) (by kcj_all)) (ck_int _ _ _ _) (by assumption) ?_))
  | ((with_reducible show wpAny _ _ (subscriptTail _ _ (Value.ref _) (Value.str _ _)) _ _ _); (refine c_item (k := Sum.inr _) (knd := ckKind _ _) (by k_asm) (DictL.mono (by assumption) (by kcj_all)) (ck_str _ _ _ _) (by assumption) ?_))
  | ((with_reducible show wpAny _ _ (subscriptTail _ _ (Value.ref _) (Value.str _ _)) _ _ _); (refine c_item (knd := strKind _ _) (by k_asm) (DictL.mono (by assumption) (by kcj_all)) (strKind_is _ _ _ _) (by rfl) ?_))))
local macro_rules | `(tactic| x_close) => `(tactic| (refine ret_intro (by assumption) ?_; exact ⟨_, _, rfl, .head _, .tail _ (.head _)⟩))
/-- the maker of exceptions makes the object and its tuple -/
theorem new_CE {w : World} {s : Shared} (X : (hd.heap_39 w.params).In s.heap) (v : Value) (kw : List (Str × Value)) :
    wpAny (model PW w) (AN 500 200) (call (.builtin "Exception.__new__") [.ref 62, v] kw) (Ret s fun r own => ∃ e tp, r = .ref e ∧ (e, { cls := .ref 62, data := .fields #[.ref tp, .none, .none, .none, .bool false, .none] }) ∈ own ∧ (tp, { cls := .type "tuple", data := .seq #[v] }) ∈ own) (fun _ _ => False) s := by
  x_run
theorem call_CE {w : World} {A : Around} {s : Shared} {h₀ : Heap} {L : Addr} {m : Str → Option Value} {N : Led} {v : Value} {kw : List (Str × Value)} {R : Result → Shared → Prop}
    (F : Fr h₀ L s.heap m) (X₀ : (hd.heap_39 w.params).In h₀) (H : News h₀ L s.heap N) (hh : A.handled = none) (hd : A.depth ≤ 490) (hu : A.units ≤ 190)
    (h : ∀ e tp own h' tk, Ext s.heap h' → s.heap.get? e = none → Fr h₀ L h' m → News h₀ L h' (own ++ N) → (∀ p ∈ own, ∀ q ∈ N, q.1 ≠ p.1) → (e, ({ cls := .ref 62, data := .fields #[.ref tp, .none, .none, .none, .bool false, .none] } : Obj)) ∈ own → (tp, ({ cls := .type "tuple", data := .seq #[v] } : Obj)) ∈ own →
      codeAny (model PW w) (A.under (.builtin "type.__call__" ⟨[.ref 62, v], kw⟩)) (.call (.ref 59) ⟨[.ref e, v], kw⟩) (InitBack e R) { s with heap := h', toks := tk }) :
    codeAny (model PW w) A (.call (.ref 62) ⟨[v], kw⟩) R s := by
  have X : (Mine.hd.heap_39 w.params).In s.heap := X₀.keeps F.keep
  revert X
  unfold PW
  k_fill
  intro X
  obtain ⟨hp, g, d, t, os⟩ := s
  have e62 : ∃ o, (Mine.hd.heap_39 w.params).lookup 62 = some o := ⟨_, by k_is⟩
  have call : Looks (model PW w) hp (specialOf (.ref 62) "__call__") (some (.builtin "type.__call__")) := looks_specialIn X (by k_is)
  have typ : Looks (model PW w) hp (isInstance (.ref 62) (.type "type")) true := looks_instIn X (by k_is)
  have sub : Looks (model PW w) hp (isSubtype (.ref 62) (.ref 62)) true := looks_mroIn X (by k_is)
  have hi : Looks (model PW w) hp (typeLookup (.ref 62) "__init__") (some (.ref 59)) := looks_findIn X (by k_is)
  have hC : hp.get? 62 = _ := X 62 _ (by k_is)
  have bf : ∀ self, Looks (model PW w) hp (bindSpecial (.ref 59) self) (.ref 59, [self]) := fun self => bind_fn X self (by k_is)
  refine codeAny_of_tree ?_
  show wpAny _ _ (callAny (.ref 62) _) _ _ _
  refine nd_load hC ?_
  show wpAny _ _ (callAny.viaDunder (.ref 62) _) _ _ _
  unfold callAny.viaDunder
  refine wpAny_bind (call.at ?_)
  dsimp only
  rw [tc_bind]
  refine wpAny_bind (wpAny_pure (wpAny_bind (wpAny_pure ?_)))
  refine wpAny_pure (a := Fin.again (.call (.builtin "type.__call__") ⟨[.ref 62, v], kw⟩)) (And.intro rfl ?_)
  refine codeAny_call_builtin_at (Code.quiet_builtin _ (by decide +kernel)) entry_typeCall (check_slot tc_kind tc_split typ (tc_args _ _ _) ?_)
  unfold Builtin.«type.__call__»
  have hm : Looks (model PW w) hp (mroOf (.ref 62)) [.ref 62, .type "Exception", .type "BaseException", .type "object"] := ((Looks.ld (part := none) hC).andThen .now).andThen .now
  have hhU : (A.under (Code.builtin "type.__call__" { pos := [Value.ref 62, v], kw := kw })).handled = none := hh
  have hdU : (A.under (Code.builtin "type.__call__" { pos := [Value.ref 62, v], kw := kw })).depth ≤ 500 := by show A.depth + 1 ≤ 500; omega
  have huU : (A.under (Code.builtin "type.__call__" { pos := [Value.ref 62, v], kw := kw })).units ≤ 200 := by show A.units + 1 ≤ 200; omega
  repeat (first
    | ((with_reducible show wpAny _ _ (PySem.call (Value.builtin "Exception.__new__") _ _) _ _ _); refine ret_use (new_CE X v kw) hhU hdU huU F H ?_)
    | simp only [List.isEmpty_cons, Bool.false_eq_true, if_false] | with_reducible refine wpAny_madeBy_exc hC ?_ | lk)
  rintro r own h' tk keep F' H' hne nw ⟨e, tp, rfl, he, htp⟩
  have hx : h'.get? e = some { cls := .ref 62, data := .fields #[.ref tp, .none, .none, .none, .bool false, .none] } := (H' _ (List.mem_append_left _ he)).1
  have t1 : Looks (model PW w) h' (typeOf (.ref e)) (.ref 62) := (Looks.ld hx).andThen .now
  have s1 := sub.keeps keep
  have i1 := hi.keeps keep
  have b1 := (bf (.ref e)).keeps keep
  unfold isInstance callSpecial? specialOf
  repeat (first | simp only [Bool.not_true, Bool.false_eq_true, if_false] | with_reducible refine wpAny_call ?_ | lk)
  refine codeAny_mono (h e tp own h' tk keep (nw _ he).2 F' H' hne he htp) fun r s' z => ?_
  rcases r with e | (v | _ | _ | _) <;> first | exact z | exact z.elim | skip
  obtain ⟨rfl, z⟩ := z
  exact wpAny_pure (wpAny_pure z)
end Mine
namespace Mine
local macro_rules | `(tactic| k_mem) => `(tactic| assumption)
local macro_rules | `(tactic| walk_at "compareOp In str ref") => `(tactic| (k_here; first
  | (refine c_in (k := Sum.inr _) (knd := ckKind _ _) (by k_asm) (DictL.mono (by assumption) (by kcj_all)) (ck_str _ _ _ _) (by assumption) ?_)
  | (refine c_in (b := true) (knd := strKind _ _) (by k_asm) (DictL.mono (by assumption) (by kcj_all)) (strKind_is _ _ _ _) (by rfl) ?_)
  | (refine c_in (b := false) (knd := strKind _ _) (by k_asm) (DictL.mono (by assumption) (by kcj_all)) (strKind_is _ _ _ _) (by rfl) ?_)))
local macro_rules | `(tactic| walk_at "compareOp NotIn str ref") => `(tactic| (k_here; refine c_notin (k := Sum.inr _) (knd := ckKind _ _) (by k_asm) (DictL.mono (by assumption) (by kcj_all)) (ck_str _ _ _ _) (by assumption) ?_))
local macro_rules | `(tactic| walk_at "compareOp In int ref") => `(tactic| (k_here; refine c_in (k := Sum.inl _) (knd := ckKind _ _) (by k_asm) (DictL.mono (by assumption) (by kcj_all)) (ck_int _ _ _ _) (by assumption) ?_))
local macro_rules | `(tactic| walk_at "compareOp NotIn int ref") => `(tactic| (k_here; refine c_notin (k := Sum.inl _) (knd := ckKind _ _) (by k_asm) (DictL.mono (by assumption) (by kcj_all)) (ck_int _ _ _ _) (by assumption) ?_))
local macro_rules | `(tactic| walk_at "subscriptTail") => `(tactic| (k_here; first
  | ((with_reducible show wpAny _ _ (subscriptTail _ _ (Value.ref _) (Value.int _ _)) _ _ _); (refine c_item (k := Sum.inl _) (knd := ckKind _ _) (by k_asm) (DictL.mono (by assumption) (by kcj_all)) (ck_int _ _ _ _) (by assumption) ?_))
  | ((with_reducible show wpAny _ _ (subscriptTail _ _ (Value.ref _) (Value.str _ _)) _ _ _); (refine c_item (k := Sum.inr _) (knd := ckKind _ _) (by k_asm) (DictL.mono (by assumption) (by kcj_all)) (ck_str _ _ _ _) (by assumption) ?_))
  | ((with_reducible show wpAny _ _ (subscriptTail _ _ (Value.ref _) (Value.str _ _)) _ _ _); (refine c_item (knd := strKind _ _) (by k_asm) (DictL.mono (by assumption) (by kcj_all)) (strKind_is _ _ _ _) (by rfl) ?_))))
theorem cown_exc : classOwn (.type "Exception") (Str.ofString "__init__") = pure (some (.builtin "Exception.__init__")) := by kernel_rfl
theorem tyof_exc : typeOf (.builtin "Exception.__init__") = pure (.type "wrapper_descriptor") := by kernel_rfl
theorem get_exc : typeLookup (.type "wrapper_descriptor") "__get__" = pure (some (.builtin "wrapper_descriptor.__get__")) := by rw [typeLookup_type, builtinLookup_eq_fast]; kernel_rfl
section
variable {w : World} {A : Around} {E : Value → Shared → Prop} {h : Heap} {g : Array GenState} {d : Drawn} {t : Nat} {os : OsState}
theorem super_ga {so e : Addr} {tk : Tok} {Q : Fin → Shared → Prop}
    (hso : h.get? so = some { cls := .type "super", dict := none, data := .fields #[.ref 62, .ref e, .ref 62], slots := #[] }) (X : (hd.heap_39 w.params).In h) (hne : e ≠ 62)
    (hq : wpAny (model PW w) A (call (.builtin "wrapper_descriptor.__get__") [.builtin "Exception.__init__", .ref e, .ref 62]) (fun v s' => Q (.done (.ret v)) s') E ⟨h, g, d, t, os⟩) :
    wpAny (model PW w) A (Builtin.«super.__getattribute__» ⟨[.ref so, .str (Str.ofString "__init__") tk], []⟩) Q E ⟨h, g, d, t, os⟩ := by
  revert X
  unfold PW
  k_fill
  intro X
  have hne' : (Value.ref e == Value.ref 62) = false := by simp [hne]
  have hC : h.get? 62 = _ := X 62 _ (by k_is)
  have hno : Looks (model PW w) h (opaqueClassAbove (.ref 62)) none := by
    exact looks_opaque X (by k_is)
  have hm : Looks (model PW w) h (mroOf (.ref 62)) [.ref 62, .type "Exception", .type "BaseException", .type "object"] := ((Looks.ld (part := none) hC).andThen .now).andThen .now
  have hl : (([Value.ref 62, .type "Exception", .type "BaseException", .type "object"] : List Value).dropWhile (· != .ref 62)).drop 1 = [.type "Exception", .type "BaseException", .type "object"] := by decide
  have hdt : ({ cls := .type "super", dict := none, data := .fields #[.ref 62, .ref e, .ref 62], slots := #[] } : Obj).data = .fields #[.ref 62, .ref e, .ref 62] := rfl
  have f0 : (#[.ref 62, .ref e, .ref 62] : Array Value)[0]? = some (.ref 62) := rfl
  have f1 : (#[.ref 62, .ref e, .ref 62] : Array Value)[1]? = some (.ref e) := rfl
  have f2 : (#[.ref 62, .ref e, .ref 62] : Array Value)[2]? = some (.ref 62) := rfl
  have c1 := cown_exc
  have c2 := tyof_exc
  have c3 := get_exc
  unfold Builtin.«super.__getattribute__»
  repeat (first
    | (with_reducible refine wpAny_field hso hdt f0 ?_) | (with_reducible refine wpAny_field hso hdt f1 ?_) | (with_reducible refine wpAny_field hso hdt f2 ?_)
    | (with_reducible refine ks_wpAny_notOpaque hno ?_)
    | (with_reducible refine Looks.at hm ?_; rw [hl])
    | ((with_reducible show wpAny _ _ (PySem.call _ _ _) _ _ _); refine wpAny_mono hq (fun v s' q => ?_) fun _ _ z => z)
    | (simp only [hne', Bool.false_eq_true, if_false, List.forIn_cons])
    | wp_step
    | dsimp only)
  exact q
end
end Mine
namespace Mine
local macro_rules | `(tactic| k_mem) => `(tactic| assumption)
local macro_rules | `(tactic| walk_at "compareOp In str ref") => `(tactic| (k_here; first
  | (refine c_in (k := Sum.inr _) (knd := ckKind _ _) (by k_asm) (DictL.mono (by assumption) (by kcj_all)) (ck_str _ _ _ _) (by assumption) ?_)
  | (refine c_in (b := true) (knd := strKind _ _) (by k_asm) (DictL.mono (by assumption) (by kcj_all)) (strKind_is _ _ _ _) (by rfl) ?_)
  | (refine c_in (b := false) (knd := strKind _ _) (by k_asm) (DictL.mono (by assumption) (by kcj_all)) (strKind_is _ _ _ _) (by rfl) ?_)))
local macro_rules | `(tactic| walk_at "compareOp NotIn str ref") => `(tactic| (k_here; refine c_notin (k := Sum.inr _) (knd := ckKind _ _) (by k_asm) (DictL.mono (by assumption) (by kcj_all)) (ck_str _ _ _ _) (by assumption) ?_))
local macro_rules | `(tactic| walk_at "compareOp In int ref") => `(tactic| (k_here; refine c_in (k := Sum.inl _) (knd := ckKind _ _) (by k_asm) (DictL.mono (by assumption) (by kcj_all)) (ck_int _ _ _ _) (by assumption) ?_))
local macro_rules | `(tactic| walk_at "compareOp NotIn int ref") => `(tactic| (k_here; refine c_notin (k := Sum.inl _) (knd := ckKind _ _) (by k_asm) (DictL.mono (by assumption) (by kcj_all)) (ck_int _ _ _ _) (by assumption) ?_))
local macro_rules | `(tactic| walk_at "subscriptTail") => `(tactic| (k_here; first
  | ((with_reducible show wpAny _ _ (subscriptTail _ _ (Value.ref _) (Value.int _ _)) _ _ _); (refine c_item (k := Sum.inl _) (knd := ckKind _ _) (by k_asm) (DictL.mono (by assumption) (by kcj_all)) (ck_int _ _ _ _) (by assumption) ?_))
  | ((with_reducible show wpAny _ _ (subscriptTail _ _ (Value.ref _) (Value.str _ _)) _ _ _); (refine c_item (k := Sum.inr _) (knd := ckKind _ _) (by k_asm) (DictL.mono (by assumption) (by kcj_all)) (ck_str _ _ _ _) (by assumption) ?_))
  | ((with_reducible show wpAny _ _ (subscriptTail _ _ (Value.ref _) (Value.str _ _)) _ _ _); (refine c_item (knd := strKind _ _) (by k_asm) (DictL.mono (by assumption) (by kcj_all)) (strKind_is _ _ _ _) (by rfl) ?_))))
section
variable {w : World} {A : Around} {E : Value → Shared → Prop} {h : Heap} {g : Array GenState} {d : Drawn} {t : Nat} {os : OsState}
theorem mw_call {mw e : Addr} {vs : Array Value} {sl : Array (Option Value)} {dd : Option Addr} {t0 : Addr} {x : Value} {Q : Value → Shared → Prop} (X : (hd.heap_39 w.params).In h)
    (hmw : h.get? mw = some { cls := .type "method-wrapper", data := .fields #[.builtin "Exception.__init__", .ref e] }) (he : h.get? e = some ⟨.ref 62, dd, .fields vs, sl⟩) (hk0 : vs[0]? = some (.ref t0))
    (hq : ∀ h', h' = (h.push { cls := .type "tuple", data := .seq #[x] }).update e (Obj.mapFields (·.setIfInBounds 0 (.ref h.objs.size))) → Q .none ⟨h', g, d, t, os⟩) :
    wpAny (model PW w) A (call (.ref mw) [x]) Q E ⟨h, g, d, t, os⟩ := by
  revert X
  unfold PW
  k_fill
  intro X
  have hC : h.get? 62 = _ := X 62 _ (by k_is)
  have hT : (⟨h, g, d, t, os⟩ : Shared).TypeIs (.ref mw) "method-wrapper" := ⟨_, hmw, rfl⟩
  refine wpAny_call (codeAny_of_tree ?_)
  show wpAny _ _ (callAny (.ref mw) _) _ _ _
  repeat (any_goals (first | assumption | with_reducible refine wpAny_loadPart_at hmw ?_ | wp_step))
  refine ⟨Code.quiet_builtin _ (by decide +kernel), codeAny_builtin PySem.F.excBase_Exception.initEntry ?_⟩
  have hd' : (⟨.ref 62, dd, .fields vs, sl⟩ : Obj).data = .fields vs := rfl
  have he₁ := Heap.get?_push_of_some (h := h) { cls := .type "tuple", data := .seq #[x] } he
  have hv : 0 < vs.size := (Array.getElem?_eq_some_iff.mp hk0).1
  unfold Builtin.«BaseException.__init__»
  dsimp only
  rw [if_neg (by simp)]
  unfold newTuple Builtin.BaseException.bexcPut
  refine wpAny_bind (wpAny_newObj_type ?_ (by size_fits))
  refine wpAny_bind (wpAny_bind (wpAny_field he₁ hd' hk0 (wpAny_bind (wpAny_setField he₁ hd' hv ?_))))
  exact wpAny_letGo (wpAny_pure (hq _ rfl))
end
end Mine
namespace Mine
local macro_rules | `(tactic| k_mem) => `(tactic| assumption)
local macro_rules | `(tactic| walk_at "compareOp In str ref") => `(tactic| (k_here; first
  | (refine c_in (k := Sum.inr _) (knd := ckKind _ _) (by k_asm) (DictL.mono (by assumption) (by kcj_all)) (ck_str _ _ _ _) (by assumption) ?_)
  | (refine c_in (b := true) (knd := strKind _ _) (by k_asm) (DictL.mono (by assumption) (by kcj_all)) (strKind_is _ _ _ _) (by rfl) ?_)
  | (refine c_in (b := false) (knd := strKind _ _) (by k_asm) (DictL.mono (by assumption) (by kcj_all)) (strKind_is _ _ _ _) (by rfl) ?_)))
local macro_rules | `(tactic| walk_at "compareOp NotIn str ref") => `(tactic| (k_here; refine c_notin (k := Sum.inr _) (knd := ckKind _ _) (by k_asm) (DictL.mono (by assumption) (by kcj_all)) (ck_str _ _ _ _) (by assumption) ?_))
local macro_rules | `(tactic| walk_at "compareOp In int ref") => `(tactic| (k_here; refine c_in (k := Sum.inl _) (knd := ckKind _ _) (by k_asm) (DictL.mono (by assumption) (by kcj_all)) (ck_int _ _ _ _) (by assumption) ?_))
local macro_rules | `(tactic| walk_at "compareOp NotIn int ref") => `(tactic| (k_here; refine c_notin (k := Sum.inl _) (knd := ckKind _ _) (by k_asm) (DictL.mono (by assumption) (by kcj_all)) (ck_int _ _ _ _) (by assumption) ?_))
local macro_rules | `(tactic| walk_at "subscriptTail") => `(tactic| (k_here; first
  | ((with_reducible show wpAny _ _ (subscriptTail _ _ (Value.ref _) (Value.int _ _)) _ _ _); (refine c_item (k := Sum.inl _) (knd := ckKind _ _) (by k_asm) (DictL.mono (by assumption) (by kcj_all)) (ck_int _ _ _ _) (by assumption) ?_))
  | ((with_reducible show wpAny _ _ (subscriptTail _ _ (Value.ref _) (Value.str _ _)) _ _ _); (refine c_item (k := Sum.inr _) (knd := ckKind _ _) (by k_asm) (DictL.mono (by assumption) (by kcj_all)) (ck_str _ _ _ _) (by assumption) ?_))
  | ((with_reducible show wpAny _ _ (subscriptTail _ _ (Value.ref _) (Value.str _ _)) _ _ _); (refine c_item (knd := strKind _ _) (by k_asm) (DictL.mono (by assumption) (by kcj_all)) (strKind_is _ _ _ _) (by rfl) ?_))))
section
variable {w : World} {A : Around} {E : Value → Shared → Prop} {h : Heap} {g : Array GenState} {d : Drawn} {t : Nat} {os : OsState}
theorem set_key {e : Addr} {vs : Array Value} {v : Value} {Q : Unit → Shared → Prop} (X : (hd.heap_39 w.params).In h)
    (he : h.get? e = some ⟨.ref 62, none, .fields vs, #[]⟩)
    (hq : ∀ h' tk D hs tk', (∀ b o, b ≠ e → h.get? b = some o → h'.get? b = some o) → h.get? D = none → h'.get? e = some ⟨.ref 62, some D, .fields vs, #[]⟩ → h'.get? D = some (dictOf [⟨hs, .str (Str.ofString "key") tk', v⟩] 1) → Q () ⟨h', g, d, tk, os⟩) :
    wpAny (model PW w) A (setAttr (.ref e) (Str.ofString "key") v) Q E ⟨h, g, d, t, os⟩ := by
  revert X
  unfold PW
  k_fill
  intro X
  have hC : h.get? 62 = _ := X 62 _ (by k_is)
  have tE : Looks (model PW w) h (typeOf (.ref e)) (.ref 62) := (Looks.ld he).andThen .now
  have lk0 := (looks_findIn (M := model PW w) (t := .ref 62) (name := Str.ofString "__setattr__") X (by k_is))
  have lkk : Looks (model PW w) h (typeLookup (.ref 62) "key") none := looks_findIn X (by k_is)
  have hm : Looks (model PW w) h (mroOf (.ref 62)) [.ref 62, .type "Exception", .type "BaseException", .type "object"] := ((Looks.ld (part := none) hC).andThen .now).andThen .now
  unfold setAttr callSpecial? specialOf
  repeat (first | with_reducible refine wpAny_call ?_ | lk)
  have SF := PySem.F.store_object
  have sub : Looks (model PW w) h (isInstance (.ref e) (.type "object")) true := tE.andThen (looks_mroIn X (by k_is))
  refine codeAny_call_builtin SF.slot.plain SF.entry (@check_slot (model PW w) _ _ _ "object.__setattr__" "object" "__setattr__" (.ref e) [.str (Str.ofString "key") t, v] [] _ SF.kind SF.split sub (SF.args (.ref e) (.str (Str.ofString "key") t) v) ?_)
  rw [show ([Value.ref e] ++ [Value.str (Str.ofString "key") t, v] : List Value) = [.ref e, .str (Str.ofString "key") t, v] from rfl, osa_eq, refuse_eq]
  refine wpAny_bind (wpAny_bind (tE.here (wpAny_bind (hm.here ?_))))
  rw [show refuseLoop (Value.ref e) (Str.ofString "__setattr__") [Value.ref 62, Value.type "Exception", Value.type "BaseException", Value.type "object"] = pure () from by rw [refuseLoop_ref]; kernel_rfl]
  refine wpAny_pure (wpAny_bind (tE.here (wpAny_bind (lkk.here ?_))))
  have hcd : Looks (model PW w) h (classData 62) { name := Str.ofString "ConfigError", bases := [Value.type "Exception"], mro := [Value.ref 62, Value.type "Exception", Value.type "BaseException", Value.type "object"], ns := 61, qualname := Str.ofString "ConfigError" } := (Looks.ld (part := none) hC).andThen .now
  repeat (any_goals (first | assumption | with_reducible refine wpAny_loadPart_at he ?_ | with_reducible refine wpAny_loadPart_at hC ?_ | with_reducible refine wpAny_askSetting ?_ | wp_step))
  have lt : e < h.objs.size := Heap.lt_size he
  have hD := (Heap.get?_update_other (h.push { cls := .type "dict", data := .dict #[] }) (fun o => { o with dict := some h.objs.size }) (Nat.ne_of_lt lt)).trans (Heap.get?_push_size h rfl)
  refine wpAny_loadPart hD ?_
  dsimp only
  rw [if_neg (by decide)]
  refine wpAny_updatePart hD ?_
  have hE := Heap.get?_update_self (fun o => { o with dict := some h.objs.size }) (Heap.get?_push_of_some { cls := .type "dict", data := .dict #[] } he) rfl
  have hD' := Heap.get?_update_self (Obj.putName (Str.ofString "key") (PyData.keyHash w.params (Str.ofString "key")) (Value.str (Str.ofString "key") (t + 1)) v) hD (by rfl)
  refine wpAny_bind (wpAny_lookBehind hD' rfl ?_)
  refine wpAny_pure (wpAny_pure (wpAny_pure (hq _ _ h.objs.size _ _ ?_ (Heap.get?_none_of_le (Nat.le_refl _)) ?_ hD')))
  · intro b o hb ho
    rw [Heap.get?_update_other _ _ (Nat.ne_of_gt (Heap.lt_size ho)), Heap.get?_update_other _ _ (Ne.symm hb)]
    exact Heap.get?_push_of_some _ ho
  · rw [Heap.get?_update_other _ _ (Nat.ne_of_gt lt)]
    exact hE
end
end Mine
namespace Mine
local macro_rules | `(tactic| walk_at "zz0") => `(tactic| fail "zz")
theorem off_FEce6 : True := by
  w_top off
  trivial
local macro_rules | `(tactic| k_mem) => `(tactic| assumption)
local macro_rules | `(tactic| walk_at "compareOp In str ref") => `(tactic| (k_here; first
  | (refine c_in (k := Sum.inr _) (knd := ckKind _ _) (by k_asm) (DictL.mono (by assumption) (by kcj_all)) (ck_str _ _ _ _) (by assumption) ?_)
  | (refine c_in (b := true) (knd := strKind _ _) (by k_asm) (DictL.mono (by assumption) (by kcj_all)) (strKind_is _ _ _ _) (by rfl) ?_)
  | (refine c_in (b := false) (knd := strKind _ _) (by k_asm) (DictL.mono (by assumption) (by kcj_all)) (strKind_is _ _ _ _) (by rfl) ?_)))
local macro_rules | `(tactic| walk_at "compareOp NotIn str ref") => `(tactic| (k_here; refine c_notin (k := Sum.inr _) (knd := ckKind _ _) (by k_asm) (DictL.mono (by assumption) (by kcj_all)) (ck_str _ _ _ _) (by assumption) ?_))
local macro_rules | `(tactic| walk_at "compareOp In int ref") => `(tactic| (k_here; refine c_in (k := Sum.inl _) (knd := ckKind _ _) (by k_asm) (DictL.mono (by assumption) (by kcj_all)) (ck_int _ _ _ _) (by assumption) ?_))
local macro_rules | `(tactic| walk_at "compareOp NotIn int ref") => `(tactic| (k_here; refine c_notin (k := Sum.inl _) (knd := ckKind _ _) (by k_asm) (DictL.mono (by assumption) (by kcj_all)) (ck_int _ _ _ _) (by assumption) ?_))
local macro_rules | `(tactic| walk_at "subscriptTail") => `(tactic| (k_here; first
  | ((with_reducible show wpAny _ _ (subscriptTail _ _ (Value.ref _) (Value.int _ _)) _ _ _); (refine c_item (k := Sum.inl _) (knd := ckKind _ _) (by k_asm) (DictL.mono (by assumption) (by kcj_all)) (ck_int _ _ _ _) (by assumption) ?_))
  | ((with_reducible show wpAny _ _ (subscriptTail _ _ (Value.ref _) (Value.str _ _)) _ _ _); (refine c_item (k := Sum.inr _) (knd := ckKind _ _) (by k_asm) (DictL.mono (by assumption) (by kcj_all)) (ck_str _ _ _ _) (by assumption) ?_))
  | ((with_reducible show wpAny _ _ (subscriptTail _ _ (Value.ref _) (Value.str _ _)) _ _ _); (refine c_item (knd := strKind _ _) (by k_asm) (DictL.mono (by assumption) (by kcj_all)) (strKind_is _ _ _ _) (by rfl) ?_))))
local macro_rules | `(tactic| x_close) => `(tactic| (refine ret_intro (by assumption) ?_; exact ⟨_, rfl, .head _⟩))
theorem super_made {w : World} {s : Shared} {e : Addr} {vs : Array Value} {sl : Array (Option Value)} {dd : Option Addr} (X : (hd.heap_39 w.params).In s.heap) (he : s.heap.get? e = some ⟨.ref 62, dd, .fields vs, sl⟩) :
    wpAny (model PW w) (AN 500 200) (call (.type "super") [.ref 62, .ref e]) (Ret s fun r own => ∃ so, r = .ref so ∧ (so, { cls := .type "super", dict := none, data := .fields #[.ref 62, .ref e, .ref 62], slots := #[] }) ∈ own) (fun _ _ => False) s := by
  x_run
theorem wd_got {w : World} {s : Shared} {e : Addr} {vs : Array Value} {sl : Array (Option Value)} {dd : Option Addr} (X : (hd.heap_39 w.params).In s.heap) (he : s.heap.get? e = some ⟨.ref 62, dd, .fields vs, sl⟩) :
    wpAny (model PW w) (AN 500 200) (call (.builtin "wrapper_descriptor.__get__") [.builtin "Exception.__init__", .ref e, .ref 62]) (Ret s fun r own => ∃ mw, r = .ref mw ∧ (mw, { cls := .type "method-wrapper", data := .fields #[.builtin "Exception.__init__", .ref e] }) ∈ own) (fun _ _ => False) s := by
  x_run
section
variable {w : World} {A : Around} {E : Value → Shared → Prop} {h : Heap} {g : Array GenState} {d : Drawn} {t : Nat} {os : OsState}
theorem super_attr {so e : Addr} {vs : Array Value} {sl : Array (Option Value)} {dd : Option Addr} {Q : Value → Shared → Prop} (X : (hd.heap_39 w.params).In h) (hne : e ≠ 62) (hh : A.handled = none) (hdp : A.depth ≤ 490) (hun : A.units ≤ 190)
    (hso : h.get? so = some { cls := .type "super", dict := none, data := .fields #[.ref 62, .ref e, .ref 62], slots := #[] }) (he : h.get? e = some ⟨.ref 62, dd, .fields vs, sl⟩)
    (hq : ∀ mw h' tk, Ext h h' → h.get? mw = none → h'.get? mw = some { cls := .type "method-wrapper", data := .fields #[.builtin "Exception.__init__", .ref e] } → Q (.ref mw) ⟨h', g, d, tk, os⟩) :
    wpAny (model PW w) A (getAttr (.ref so) (Str.ofString "__init__") true) Q E ⟨h, g, d, t, os⟩ := by
  have hlk := PySem.F.ks_slot_super_ga.lookup
  have hT : ∀ t', (⟨h, g, d, t', os⟩ : Shared).TypeIs (.ref so) "super" := fun _ => ⟨_, hso, rfl⟩
  unfold getAttr getAttrBy
  refine wpAny_bind (wpAny_mkText (wpAny_holding (wpAny_bind (wpAny_typeOf (hT _) (wpAny_bind (wpAny_of_eq hlk ?_))))))
  show wpAny _ _ (getAttrByItsOwn (.ref so) (.str (Str.ofString "__init__") t) (.type "super") (.builtin "super.__getattribute__") true true) _ _ _
  unfold getAttrByItsOwn hookBefore callGetattribute boundAndCalled
  refine wpAny_bind (wpAny_of_eq (show (if onTheHeap (.type "super") then typeLookup (.type "super") "__getattr__" else pure none) = pure none from rfl) ?_)
  refine wpAny_bind (wpAny_attempt (wpAny_holding ?_))
  show wpAny _ _ (bindSpecial (.builtin "super.__getattribute__") (.ref so) >>= _) _ _ _
  refine wpAny_bind (wpAny_of_eq (PySem.F.ks_slot_super_ga.bind _) ?_)
  refine wpAny_mono (Q := fun v s' => ∃ mw h' tk, v = .ref mw ∧ s' = ⟨h', g, d, tk, os⟩ ∧ Ext h h' ∧ h.get? mw = none ∧ h'.get? mw = some { cls := .type "method-wrapper", data := .fields #[.builtin "Exception.__init__", .ref e] }) (E := fun _ _ => False)
    (wpAny_call_entry PySem.F.ks_slot_super_ga (hT _) PySem.F.ks_entry_super_ga (super_ga hso X hne ?_) (PySem.F.ks_gaArgs_super _ _)) (fun v s' hv => ?_) fun _ _ z => z.elim
  · refine wpAny_mono (wpAny_an (wd_got (s := ⟨h, g, d, t + 1, os⟩) X he) ?_ ?_ ?_) (fun v s' r => ?_) fun _ _ z => z.elim
    · exact hh
    · show A.depth ≤ 500; omega
    · show A.units + 1 ≤ 200; omega
    obtain ⟨h', tk, own, rfl, ex, nw, mw, rfl, hm⟩ := r
    exact ⟨_, rfl, mw, h', tk, rfl, rfl, ex, (nw _ hm).2, (nw _ hm).1⟩
  · obtain ⟨mw, h', tk, rfl, rfl, ex, n1, n2⟩ := hv
    exact wpAny_pure (hq mw h' tk ex n1 n2)
end
end Mine
namespace Mine
local macro_rules | `(tactic| k_mem) => `(tactic| assumption)
local macro_rules | `(tactic| walk_at "compareOp In str ref") => `(tactic| (k_here; first
  | (refine c_in (k := Sum.inr _) (knd := ckKind _ _) (by k_asm) (DictL.mono (by assumption) (by kcj_all)) (ck_str _ _ _ _) (by assumption) ?_)
  | (refine c_in (b := true) (knd := strKind _ _) (by k_asm) (DictL.mono (by assumption) (by kcj_all)) (strKind_is _ _ _ _) (by rfl) ?_)
  | (refine c_in (b := false) (knd := strKind _ _) (by k_asm) (DictL.mono (by assumption) (by kcj_all)) (strKind_is _ _ _ _) (by rfl) ?_)))
local macro_rules | `(tactic| walk_at "compareOp NotIn str ref") => `(tactic| (k_here; refine c_notin (k := Sum.inr _) (knd := ckKind _ _) (by k_asm) (DictL.mono (by assumption) (by kcj_all)) (ck_str _ _ _ _) (by assumption) ?_))
local macro_rules | `(tactic| walk_at "compareOp In int ref") => `(tactic| (k_here; refine c_in (k := Sum.inl _) (knd := ckKind _ _) (by k_asm) (DictL.mono (by assumption) (by kcj_all)) (ck_int _ _ _ _) (by assumption) ?_))
local macro_rules | `(tactic| walk_at "compareOp NotIn int ref") => `(tactic| (k_here; refine c_notin (k := Sum.inl _) (knd := ckKind _ _) (by k_asm) (DictL.mono (by assumption) (by kcj_all)) (ck_int _ _ _ _) (by assumption) ?_))
local macro_rules | `(tactic| walk_at "subscriptTail") => `(tactic| (k_here; first
  | ((with_reducible show wpAny _ _ (subscriptTail _ _ (Value.ref _) (Value.int _ _)) _ _ _); (refine c_item (k := Sum.inl _) (knd := ckKind _ _) (by k_asm) (DictL.mono (by assumption) (by kcj_all)) (ck_int _ _ _ _) (by assumption) ?_))
  | ((with_reducible show wpAny _ _ (subscriptTail _ _ (Value.ref _) (Value.str _ _)) _ _ _); (refine c_item (k := Sum.inr _) (knd := ckKind _ _) (by k_asm) (DictL.mono (by assumption) (by kcj_all)) (ck_str _ _ _ _) (by assumption) ?_))
  | ((with_reducible show wpAny _ _ (subscriptTail _ _ (Value.ref _) (Value.str _ _)) _ _ _); (refine c_item (knd := strKind _ _) (by k_asm) (DictL.mono (by assumption) (by kcj_all)) (strKind_is _ _ _ _) (by rfl) ?_))))
theorem mergeMapping_empty {M : Model} {A : Around} {E : Value → Shared → Prop} {s : Shared} {ka d : Addr} {Q : Unit → Shared → Prop}
   (hk' : s.heap.get? ka = some { cls := .type "dict", data := .dict #[] }) (hd : s.heap.get? d = some { cls := .type "dict", data := .dict #[] }) (h1' : (ka == sysModules) = false) (hq : Q () s) :
   wpAny M A (mergeMapping d (.ref ka) true) Q E s := by
  have hT : s.TypeIs (.ref ka) "dict" := ⟨_, hk', rfl⟩
  unfold mergeMapping
  refine wpAny_bind (wpAny_isInstance (T := "dict") (U := "dict") (b := true) hT isSubtype_dict_dict ?_)
  simp only [if_true]
  refine wpAny_bind (wpAny_specialOf hT PySem.F.slot_dict_iter.lookup ?_)
  refine wpAny_bind (wpAny_pure ?_)
  simp only [beq_self_eq_true, h1', Bool.false_eq_true, if_false]
  repeat (first | (rw [if_pos (by rfl)]) | (with_reducible refine wpAny_dictEntries hd rfl ?_) | (with_reducible refine wpAny_dictEntries hk' rfl ?_) | (with_reducible refine wpAny_dictEpoch hk' rfl ?_) | (with_reducible wp_step))
  rw [← Array.forIn_toList, show (#[] : Array DictEntry).toList = [] from rfl, List.forIn_nil]
  refine wpAny_pure ?_
  repeat (first | (rw [if_pos (by rfl)]) | (with_reducible refine wpAny_dictEntries hd rfl ?_) | (with_reducible refine wpAny_dictEntries hk' rfl ?_) | (with_reducible refine wpAny_dictEpoch hk' rfl ?_) | (with_reducible wp_step))
  rw [show List.range (#[] : Array DictEntry).size = [] from rfl, List.forIn_nil]
  repeat (first | (with_reducible wp_step))
  exact hq
theorem merged_empty {M : Model} {A : Around} {E : Value → Shared → Prop} {h : Heap} {g : Array GenState} {d : Drawn} {t : Nat} {os : OsState} {f : Value} {x : Sem Value} {pos : Pos} {ka : Addr} {Q : Addr → Shared → Prop}
   (hk : h.get? ka = some { cls := .type "dict", data := .dict #[] }) (h1 : ka ≠ 1)
   (hx : ∀ R : Value → Shared → Prop, R (.ref ka) ⟨h.push { cls := .type "dict", data := .dict #[] }, g, d, t, os⟩ → wpAny M A x R E ⟨h.push { cls := .type "dict", data := .dict #[] }, g, d, t, os⟩)
   (hq : Q h.objs.size ⟨h.push { cls := .type "dict", data := .dict #[] }, g, d, t, os⟩) :
   wpAny M A (mergedKeywords f (backToKw pos [(none, x)])) Q E ⟨h, g, d, t, os⟩ := by
  have hd : (h.push { cls := .type "dict", data := .dict #[] }).get? h.objs.size = some { cls := .type "dict", data := .dict #[] } := Heap.get?_push_size h rfl
  have hk' : (h.push { cls := .type "dict", data := .dict #[] }).get? ka = some { cls := .type "dict", data := .dict #[] } := Heap.get?_push_of_some _ hk
  have hT : (⟨h.push { cls := .type "dict", data := .dict #[] }, g, d, t, os⟩ : Shared).TypeIs (.ref ka) "dict" := ⟨_, hk', rfl⟩
  have h1' : (ka == sysModules) = false := by simpa [sysModules] using h1
  unfold mergedKeywords
  repeat (first | with_reducible wp_step)
  rw [show backToKw pos [(none, x)] = [(none, do let v ← x; standAt pos; pure v)] from rfl, List.forIn_cons]
  refine wpAny_bind (wpAny_bind ?_)
  dsimp only
  rw [if_pos (by rfl)]
  repeat (first | (rw [if_pos (by rfl)]) | (with_reducible wp_step) | (refine hx _ ?_))
  refine wpAny_onRaise (wpAny_holding (wpAny_tryCatch (wpAny_onRaise (mergeMapping_empty hk' hd h1' ?_))))
  repeat (first | (with_reducible wp_step))
  rw [List.forIn_nil]
  refine wpAny_pure ?_
  rw [if_pos (by rfl)]
  repeat (first | (with_reducible wp_step))
  exact hq
end Mine
namespace Mine
local macro_rules | `(tactic| k_mem) => `(tactic| assumption)
local macro_rules | `(tactic| walk_at "compareOp In str ref") => `(tactic| (k_here; first
  | (refine c_in (k := Sum.inr _) (knd := ckKind _ _) (by k_asm) (DictL.mono (by assumption) (by kcj_all)) (ck_str _ _ _ _) (by assumption) ?_)
  | (refine c_in (b := true) (knd := strKind _ _) (by k_asm) (DictL.mono (by assumption) (by kcj_all)) (strKind_is _ _ _ _) (by rfl) ?_)
  | (refine c_in (b := false) (knd := strKind _ _) (by k_asm) (DictL.mono (by assumption) (by kcj_all)) (strKind_is _ _ _ _) (by rfl) ?_)))
local macro_rules | `(tactic| walk_at "compareOp NotIn str ref") => `(tactic| (k_here; refine c_notin (k := Sum.inr _) (knd := ckKind _ _) (by k_asm) (DictL.mono (by assumption) (by kcj_all)) (ck_str _ _ _ _) (by assumption) ?_))
local macro_rules | `(tactic| walk_at "compareOp In int ref") => `(tactic| (k_here; refine c_in (k := Sum.inl _) (knd := ckKind _ _) (by k_asm) (DictL.mono (by assumption) (by kcj_all)) (ck_int _ _ _ _) (by assumption) ?_))
local macro_rules | `(tactic| walk_at "compareOp NotIn int ref") => `(tactic| (k_here; refine c_notin (k := Sum.inl _) (knd := ckKind _ _) (by k_asm) (DictL.mono (by assumption) (by kcj_all)) (ck_int _ _ _ _) (by assumption) ?_))
local macro_rules | `(tactic| walk_at "subscriptTail") => `(tactic| (k_here; first
  | ((with_reducible show wpAny _ _ (subscriptTail _ _ (Value.ref _) (Value.int _ _)) _ _ _); (refine c_item (k := Sum.inl _) (knd := ckKind _ _) (by k_asm) (DictL.mono (by assumption) (by kcj_all)) (ck_int _ _ _ _) (by assumption) ?_))
  | ((with_reducible show wpAny _ _ (subscriptTail _ _ (Value.ref _) (Value.str _ _)) _ _ _); (refine c_item (k := Sum.inr _) (knd := ckKind _ _) (by k_asm) (DictL.mono (by assumption) (by kcj_all)) (ck_str _ _ _ _) (by assumption) ?_))
  | ((with_reducible show wpAny _ _ (subscriptTail _ _ (Value.ref _) (Value.str _ _)) _ _ _); (refine c_item (knd := strKind _ _) (by k_asm) (DictL.mono (by assumption) (by kcj_all)) (strKind_is _ _ _ _) (by rfl) ?_))))
def par59 : Arguments := ⟨[], [⟨Str.ofString "self", none, ⟨5, 17, 5, 21⟩⟩, ⟨Str.ofString "key", none, ⟨5, 23, 5, 26⟩⟩, ⟨Str.ofString "msg", none, ⟨5, 28, 5, 31⟩⟩],
    some ⟨Str.ofString "args", none, ⟨5, 55, 5, 59⟩⟩, [], [], some ⟨Str.ofString "kwargs", none, ⟨5, 63, 5, 69⟩⟩, [Expr.Constant (Const.str (Str.ofString "<No details given>")) 0 ⟨5, 32, 5, 52⟩]⟩
theorem bind59 {fd : FuncData} {M : Model} {A : Around} {E : Value → Shared → Prop} {h : Heap} {g : Array GenState} {dr : Drawn} {tk : Nat} {os : OsState} {e : Addr} {v msg : Value} {Q : List (Str × Value) → Shared → Prop}
  (hp : fd.params = par59) (hdf : fd.defaults = .ref 51) (hq : fd.qualname = Str.ofString "ConfigError.__init__")
  (h51 : h.get? 51 = some { cls := .type "tuple", data := .seq #[.str (Str.ofString "<No details given>") 341] })
  (hQ : Q [(Str.ofString "self", .ref e), (Str.ofString "key", v), (Str.ofString "msg", msg), (Str.ofString "args", .ref h.objs.size), (Str.ofString "kwargs", .ref (h.push { cls := .type "tuple", data := .seq #[] }).objs.size)]
    ⟨(h.push { cls := .type "tuple", data := .seq #[] }).push { cls := .type "dict", data := .dict #[] }, g, dr, tk, os⟩) :
  wpAny M A (bindArgs fd ⟨[.ref e, v], [(Str.ofString "msg", msg)]⟩) Q E ⟨h, g, dr, tk, os⟩ := by
  unfold bindArgs
  rw [hp, hdf, hq]
  unfold par59
  repeat (any_goals (first | with_reducible refine wpAny_loadPart_at h51 ?_ | (simp only [List.nil_append, List.forIn_cons, List.forIn_nil]) | wp_step))
  refine Eq.mp (congrArg (fun b => Q b _) ?_) hQ
  kernel_rfl

theorem bind59' {fd : FuncData} {M : Model} {A : Around} {E : Value → Shared → Prop} {h : Heap} {g : Array GenState} {dr : Drawn} {tk : Nat} {os : OsState} {e : Addr} {v : Value} {Q : List (Str × Value) → Shared → Prop}
  (hp : fd.params = par59) (hdf : fd.defaults = .ref 51) (hq : fd.qualname = Str.ofString "ConfigError.__init__")
  (h51 : h.get? 51 = some { cls := .type "tuple", data := .seq #[.str (Str.ofString "<No details given>") 341] })
  (hQ : Q [(Str.ofString "self", .ref e), (Str.ofString "key", v), (Str.ofString "msg", .str (Str.ofString "<No details given>") 341), (Str.ofString "args", .ref h.objs.size), (Str.ofString "kwargs", .ref (h.push { cls := .type "tuple", data := .seq #[] }).objs.size)]
    ⟨(h.push { cls := .type "tuple", data := .seq #[] }).push { cls := .type "dict", data := .dict #[] }, g, dr, tk, os⟩) :
  wpAny M A (bindArgs fd ⟨[.ref e, v], []⟩) Q E ⟨h, g, dr, tk, os⟩ := by
  unfold bindArgs
  rw [hp, hdf, hq]
  unfold par59
  repeat (any_goals (first | with_reducible refine wpAny_loadPart_at h51 ?_ | (simp only [List.nil_append, List.forIn_cons, List.forIn_nil]) | wp_step))
  refine Eq.mp (congrArg (fun b => Q b _) ?_) hQ
  kernel_rfl
def KwMsg (kw : List (Str × Value)) (msg : Value) : Prop := kw = [(Str.ofString "msg", msg)] ∨ (kw = [] ∧ msg = .str (Str.ofString "<No details given>") 341)
theorem wpAny_rew {α : Type} {M : Model} {A : Around} {t t' : Sem α} {Q : α → Shared → Prop} {E : Value → Shared → Prop} {s : Shared} (e : t = t') (h : wpAny M A t' Q E s) : wpAny M A t Q E s := e ▸ h

theorem init_in {w : World} {mean : ExcName → Option Value} {mg mb : Str → Option Value} {A : Around} {h : Heap} {g : Array GenState} {dr : Drawn} {tk : Nat} {os : OsState} {h₀ : Heap} (X₀ : (hd.heap_39 w.params).In h₀) (k₀ : Ext h₀ h) {e tp : Addr} (hne : h₀.get? e = none) (T : Top Mine.hd.view_39 LO mean mg mb h₀) {v msg : Value} {kw : List (Str × Value)} (hkw : KwMsg kw msg) {R : Result → Shared → Prop} (hh : A.handled = none) (hdp : A.depth ≤ 480) (hun : A.units ≤ 180)
  (he : h.get? e = some { cls := .ref 62, data := .fields #[.ref tp, .none, .none, .none, .bool false, .none] })
  (hq : ∀ h' t' D hs tk' t1, (∀ b o, b ≠ e → h.get? b = some o → h'.get? b = some o) → h'.get? e = some ⟨.ref 62, some D, .fields #[.ref t1, .none, .none, .none, .bool false, .none], #[]⟩ →
    h'.get? D = some (dictOf [⟨hs, .str (Str.ofString "key") tk', v⟩] 1) → h.get? D = none → h'.get? t1 = some { cls := .type "tuple", data := .seq #[msg] } → h.get? t1 = none → R (.ok (.ret .none)) ⟨h', g, dr, t', os⟩) :
  codeAny (model PW w) A (.call (.ref 59) ⟨[.ref e, v], kw⟩) R ⟨h, g, dr, tk, os⟩ := by
  have X : (Mine.hd.heap_39 w.params).In h := X₀.keeps k₀
  have hl : h.NoLimit := T.nolimit.keeps k₀
  revert X
  unfold PW
  k_fill
  intro X
  have hA : A.depth < recursionLimit := Nat.lt_of_le_of_lt hdp (by decide)
  have h59 : h.get? 59 = _ := X 59 _ (by k_is)
  have h51 : h.get? 51 = _ := X 51 _ (by k_is)
  refine codeAny_call_function hA h59 rfl rfl rfl rfl ?cd ?_
  case cd => exact codeRec_of X (by dsimp only; k_is)
  have bnd : ∀ {fd : FuncData} {M : Model} {A : Around} {E : Value → Shared → Prop} {Q : List (Str × Value) → Shared → Prop}, fd.params = par59 → fd.defaults = .ref 51 → fd.qualname = Str.ofString "ConfigError.__init__" →
      Q [(Str.ofString "self", .ref e), (Str.ofString "key", v), (Str.ofString "msg", msg), (Str.ofString "args", .ref h.objs.size), (Str.ofString "kwargs", .ref (h.push { cls := .type "tuple", data := .seq #[] }).objs.size)]
      ⟨(h.push { cls := .type "tuple", data := .seq #[] }).push { cls := .type "dict", data := .dict #[] }, g, dr, tk, os⟩ → wpAny M A (bindArgs fd ⟨[.ref e, v], kw⟩) Q E ⟨h, g, dr, tk, os⟩ := fun a b c q => by
    rcases hkw with rfl | ⟨rfl, rfl⟩
    · exact bind59 a b c h51 q
    · exact bind59' a b c h51 q
  refine bnd rfl rfl rfl ?_
  refine wpAny_newFunctionEnv (by decide) (locs rfl) (fun h₁ hns hsb => ⟨?_, ks_codeAny_funcAt ?_⟩)
  · exact (hl.push _).push _ |>.fresh _ hsb
  have k₁ : ∀ b o, h.get? b = some o → h₁.get? b = some o := fun b o hb => by
    have lt : @LT.lt Nat _ b h.objs.size := Heap.lt_size hb
    rw [hsb.2 b (by dsimp only; rw [Heap.size_push, Heap.size_push]; exact Nat.ne_of_lt (by omega))]
    exact Heap.get?_push_of_some _ (Heap.get?_push_of_some _ (Heap.get?_push_of_some _ hb))
  have X₁ := X.keeps k₁
  have he₁ := k₁ _ _ he
  refine ks_wpAt_execs_cons (ks_wpAt_Assign_Attr (wpAt_of_wpAny (wpAny_Name (wpAny_loadName_local rfl rfl hns rfl (wpAny_Name (wpAny_loadName_local rfl rfl hns rfl ?_))))))
  refine set_key X₁ he₁ fun h₂ tk₂ D hs tk' k₂ hD he₂ hD₂ => ?_
  have hLe : (⟨(h.push { cls := .type "tuple", data := .seq #[] }).push { cls := .type "dict", data := .dict #[] }, g, dr, tk, os⟩ : Shared).heap.objs.size ≠ e := by
    have lt : @LT.lt Nat _ e h.objs.size := Heap.lt_size he
    dsimp only; rw [Heap.size_push, Heap.size_push]; exact Nat.ne_of_gt (by omega)
  have hns₂ := hns.at fun o ho => k₂ _ o hLe ho
  have X₂ : (Mine.hd.heap_39 w.params).In h₂ := X₀.keeps fun b o hb => k₂ b o (fun z => by subst z; rw [hne] at hb; cases hb) (k₁ _ _ (k₀ _ _ hb))
  dsimp only
  refine ks_wpAt_execs_cons (ks_wpAt_Expr_any ?_)
  have h58 : h₂.get? 58 = _ := X₂ 58 _ (by k_is)
  have h59' : h₂.get? 59 = _ := X₂ 59 _ (by k_is)
  have h46 : h₂.get? 46 = _ := X₂ 46 _ (by k_is)
  have h62 : h₂.get? 62 = _ := X₂ 62 _ (by k_is)
  refine PySem.wpAt_bind ?_
  refine ks_wpAt_super_base rfl rfl rfl rfl h59' rfl rfl rfl h58 rfl rfl (by decide +kernel) (by decide +kernel) ?_
  refine ks_loadName_global rfl rfl ?_
  have k₂' : ∀ b o, h₀.get? b = some o → h₂.get? b = some o := fun b o hb => k₂ b o (fun z => by subst z; rw [hne] at hb; cases hb) (k₁ _ _ (k₀ _ _ hb))
  have hmiss : mg (Str.ofString "super") = none := mg_none_of X₀ T.g (by k_is)
  have hsup : mb (Str.ofString "super") = some (.type "super") := (T.builtins (Str.ofString "super") (by decide)).trans (by first | boot_by_name | rfl | kernel_rfl)
  refine Calls.loadGlobal_builtin (T.g.keeps k₂') hmiss (T.b.keeps k₂') hsup ⟨rfl, ?_⟩
  refine wpAny_loadName_free (c := 46) (v := .ref 62) rfl rfl rfl ?cell ?_
  case cell => exact ⟨_, h46, rfl⟩
  refine wpAny_loadName_local rfl rfl hns₂ rfl ?_
  refine ks_wpAny_isType_cls h62 rfl ⟨rfl, ?_⟩
  have ne62 : e ≠ 62 := fun z => by subst z; have q := X₀ 62 _ (by k_is); rw [hne] at q; cases q
  refine wpAny_mono (wpAny_an (super_made (s := ⟨h₂, g, dr, tk₂, os⟩) X₂ he₂) ?_ ?_ ?_) (fun r s' z => ?_) fun _ _ z => z.elim
  · exact hh
  · show A.depth + 1 ≤ 500; omega
  · show A.units + 3 ≤ 200; omega
  obtain ⟨h₃, tk₃, own₃, rfl, ex₃, nw₃, so, rfl, hso⟩ := z
  have X₃ := X₂.keeps ex₃
  have he₃ := ex₃ _ _ he₂
  have hso₃ := (nw₃ _ hso).1
  refine PySem.wpAt_of_wpAny ?_
  refine wpAny_bind (wpAny_standAt ?_)
  unfold methodCall
  have hns₃ := hns₂.at fun o ho => ex₃ _ o ho
  refine wpAny_bind (wpAny_holding ?_)
  refine wpAny_rew (show calleeOf (methodCallForm _ _ _) _ _ (.ref so) (Str.ofString "__init__") = (do pure (← getAttr (.ref so) (Str.ofString "__init__") true, [])) from rfl) ?_
  refine wpAny_bind (super_attr X₃ ne62 ?_ ?_ ?_ hso₃ he₃ fun mw h₄ tk₄ ex₄ nmw hmw => wpAny_pure ?_)
  · exact hh
  · show A.depth + 1 ≤ 490; omega
  · show A.units + 3 ≤ 190; omega
  dsimp only
  have X₄ := X₃.keeps ex₄
  have he₄ := ex₄ _ _ he₃
  have hns₄ := hns₃.at fun o ho => ex₄ _ o ho
  refine wpAny_bind (wpAny_of_eq (show methodCallPos (methodCallForm _ _ _) _ _ _ _ = pure _ from rfl) ?_)
  unfold callWith
  refine wpAny_bind (wpAny_holding ?_)
  refine wpAny_rew (show evalArgs (.ref mw) true (backTo _ (starEach _ _)) _ = (do
    let pos ← spliced (backTo _ (starEach _ _))
    holding (pos ++ []) do
      let d ← mergedKeywords (.ref mw) (backToKw _ _)
      return ⟨pos, ← holding (.ref d :: pos) (keywordsIn (.ref mw) d)⟩) from rfl) ?_
  have ht₁ : h₁.get? h.objs.size = some { cls := .type "tuple", data := .seq #[] } := by
    rw [hsb.2 _ (by dsimp only; rw [Heap.size_push, Heap.size_push]; exact Nat.ne_of_lt (by omega))]
    exact Heap.get?_push_of_some _ <| Heap.get?_push_of_some (h := h.push { cls := .type "tuple", data := .seq #[] }) { cls := .type "dict", data := .dict #[] } (Heap.get?_push_size (o := { cls := .type "tuple", data := .seq #[] }) h rfl)
  refine wpAny_bind ?_
  simp only [starEach, backTo, List.map_cons, List.map_nil, spliced, Bool.false_eq_true, if_false, if_true]
  repeat (first | with_reducible wp_step | refine wpAny_Name (wpAny_loadName_local rfl rfl hns₄ rfl ?_))
  have kL : ∀ b o, b ≠ (⟨(h.push { cls := .type "tuple", data := .seq #[] }).push { cls := .type "dict", data := .dict #[] }, g, dr, tk, os⟩ : Shared).heap.objs.size → b ≠ e → h₁.get? b = some o → h₄.get? b = some o :=
    fun b o n1 n2 hb => ex₄ _ _ (ex₃ _ _ (k₂ b o n2 hb))
  have ht₄ : h₄.get? h.objs.size = some { cls := .type "tuple", data := .seq #[] } := kL _ _ (by dsimp only; rw [Heap.size_push, Heap.size_push]; exact Nat.ne_of_lt (by omega)) (fun z => by have := Heap.lt_size he; rw [← z] at this; exact Nat.lt_irrefl _ this) ht₁
  unfold notIterableAtAll
  refine wpAny_bind (wpAny_specialOf (T := "tuple") ⟨_, ht₄, rfl⟩ PyProof.Rows.slot_tuple_iter.lookup (wpAny_pure ?_))
  simp only [Bool.false_eq_true, if_false]
  refine wpAny_bind (PySem.wpAny_collect_seq _ (.inr rfl) ht₄ rfl rfl (fun h₅ ex₅ => ?_))
  refine wpAny_bind (wpAny_holding (wpAny_pure (wpAny_pure ?_)))
  refine wpAny_pure (wpAny_holding ?_)
  have X₅ := X₄.keeps ex₅
  have he₅ := ex₅ _ _ he₄
  have hmw₅ := ex₅ _ _ hmw
  have hns₅ := hns₄.at fun o ho => ex₅ _ o ho
  have z1 : (h.push { cls := .type "tuple", data := .seq #[] }).objs.size = h.objs.size + 1 := Heap.size_push ..
  have z2 : ((h.push { cls := .type "tuple", data := .seq #[] }).push { cls := .type "dict", data := .dict #[] }).objs.size = h.objs.size + 2 := (Heap.size_push ..).trans (congrArg (· + 1) z1)
  have z0 : @LT.lt Nat _ 62 h.objs.size := Heap.lt_size (X 62 _ (by k_is))
  have ze : @LT.lt Nat _ e h.objs.size := Heap.lt_size he
  have nka : (h.push { cls := .type "tuple", data := .seq #[] }).objs.size ≠ 1 := Nat.ne_of_gt (by omega)
  have hka₁ : h₁.get? (h.push { cls := .type "tuple", data := .seq #[] }).objs.size = some { cls := .type "dict", data := .dict #[] } := by
    rw [hsb.2 _ (Nat.ne_of_lt (show @LT.lt Nat _ (h.push { cls := .type "tuple", data := .seq #[] }).objs.size ((h.push { cls := .type "tuple", data := .seq #[] }).push { cls := .type "dict", data := .dict #[] }).objs.size by omega))]
    exact Heap.get?_push_of_some _ (Heap.get?_push_size (o := { cls := .type "dict", data := .dict #[] }) (h.push { cls := .type "tuple", data := .seq #[] }) rfl)
  have hka₅ := ex₅ _ _ (kL _ _ (Nat.ne_of_lt (show @LT.lt Nat _ (h.push { cls := .type "tuple", data := .seq #[] }).objs.size ((h.push { cls := .type "tuple", data := .seq #[] }).push { cls := .type "dict", data := .dict #[] }).objs.size by omega)) (Nat.ne_of_gt (show @LT.lt Nat _ e (h.push { cls := .type "tuple", data := .seq #[] }).objs.size by omega)) hka₁)
  refine wpAny_bind ?_
  have k₆ : Ext h₅ (h₅.push { cls := .type "dict", data := .dict #[] }) := fun b o hb => Heap.get?_push_of_some _ hb
  have hns₆ := hns₅.at fun o ho => k₆ _ o ho
  have X₆ := X₅.keeps k₆
  refine merged_empty hka₅ nka (fun R hR => wpAny_Name (wpAny_loadName_local rfl rfl hns₆ rfl hR)) ?_
  have hd₆ : (h₅.push { cls := .type "dict", data := .dict #[] }).get? h₅.objs.size = some { cls := .type "dict", data := .dict #[] } := Heap.get?_push_size h₅ rfl
  unfold keywordsIn
  refine wpAny_bind (wpAny_holding (wpAny_bind (wpAny_dictEntries hd₆ rfl ?_)))
  rw [← Array.forIn_toList, show (#[] : Array DictEntry).toList = [] from rfl, List.forIn_nil]
  refine wpAny_bind (wpAny_pure (wpAny_pure (wpAny_pure (wpAny_bind (wpAny_standAt ?_)))))
  have hmw₆ := k₆ _ _ hmw₅
  have he₆ := k₆ _ _ he₅
  unfold keeperOf
  refine wpAny_bind (wpAny_bind (wpAny_load hmw₆ ?_))
  dsimp only
  rw [if_pos (by decide), if_pos (by decide)]
  refine wpAny_pure ?_
  show wpAny _ _ (do
    let r ← operate _ (call (.ref mw) [msg] [])
    holding [r] point
    pure r) _ _ _
  refine wpAny_bind (wpAny_operating (mw_call X₆ hmw₆ he₆ rfl fun h₇ hh₇ => ?_))
  refine wpAny_bind (wpAny_holding (wpAny_point (wpAny_pure ?_)))
  refine PySem.wpAt_of_wpAny (wpAny_pure ?_)
  have kA : ∀ b o, b ≠ e → h.get? b = some o → ((h₅.push { cls := .type "dict", data := .dict #[] }).get? b = some o) := fun b o n hb =>
    k₆ _ _ (ex₅ _ _ (ex₄ _ _ (ex₃ _ _ (k₂ b o n (k₁ _ _ hb)))))
  have k₇ : ∀ b o, b ≠ e → (h₅.push { cls := .type "dict", data := .dict #[] }).get? b = some o → h₇.get? b = some o := fun b o n hb => by
    rw [hh₇, Heap.get?_update_other _ _ n.symm]; exact Heap.get?_push_of_some _ hb
  have nDe : D ≠ e := fun z => by rw [z, he₁] at hD; cases hD
  have ht1 : h₇.get? (h₅.push { cls := .type "dict", data := .dict #[] }).objs.size = some { cls := .type "tuple", data := .seq #[msg] } := by
    rw [hh₇, Heap.get?_update_other _ _ (Nat.ne_of_lt (Heap.lt_size he₆))]; exact Heap.get?_push_size _ rfl
  refine hq h₇ _ D hs tk' (h₅.push { cls := .type "dict", data := .dict #[] }).objs.size (fun b o n hb => k₇ b o n (kA b o n hb)) ?_ (k₇ _ _ nDe (k₆ _ _ (ex₅ _ _ (ex₄ _ _ (ex₃ _ _ hD₂))))) ?_ ht1 ?_
  · rw [hh₇]; exact Heap.get?_update_self _ (Heap.get?_push_of_some _ he₆) rfl
  · cases z : h.get? D with
    | none => rfl
    | some o => rw [k₁ _ _ z] at hD; cases hD
  · cases z : h.get? (h₅.push { cls := .type "dict", data := .dict #[] }).objs.size with
    | none => rfl
    | some o => exact absurd (Heap.lt_size (kA _ _ (Nat.ne_of_gt (Heap.lt_size he₆)) z)) (Nat.lt_irrefl _)
end Mine
namespace Mine
local macro_rules | `(tactic| k_mem) => `(tactic| assumption)
local macro_rules | `(tactic| walk_at "compareOp In str ref") => `(tactic| (k_here; first
  | (refine c_in (k := Sum.inr _) (knd := ckKind _ _) (by k_asm) (DictL.mono (by assumption) (by kcj_all)) (ck_str _ _ _ _) (by assumption) ?_)
  | (refine c_in (b := true) (knd := strKind _ _) (by k_asm) (DictL.mono (by assumption) (by kcj_all)) (strKind_is _ _ _ _) (by rfl) ?_)
  | (refine c_in (b := false) (knd := strKind _ _) (by k_asm) (DictL.mono (by assumption) (by kcj_all)) (strKind_is _ _ _ _) (by rfl) ?_)))
local macro_rules | `(tactic| walk_at "compareOp NotIn str ref") => `(tactic| (k_here; refine c_notin (k := Sum.inr _) (knd := ckKind _ _) (by k_asm) (DictL.mono (by assumption) (by kcj_all)) (ck_str _ _ _ _) (by assumption) ?_))
local macro_rules | `(tactic| walk_at "compareOp In int ref") => `(tactic| (k_here; refine c_in (k := Sum.inl _) (knd := ckKind _ _) (by k_asm) (DictL.mono (by assumption) (by kcj_all)) (ck_int _ _ _ _) (by assumption) ?_))
local macro_rules | `(tactic| walk_at "compareOp NotIn int ref") => `(tactic| (k_here; refine c_notin (k := Sum.inl _) (knd := ckKind _ _) (by k_asm) (DictL.mono (by assumption) (by kcj_all)) (ck_int _ _ _ _) (by assumption) ?_))
local macro_rules | `(tactic| walk_at "subscriptTail") => `(tactic| (k_here; first
  | ((with_reducible show wpAny _ _ (subscriptTail _ _ (Value.ref _) (Value.int _ _)) _ _ _); (refine c_item (k := Sum.inl _) (knd := ckKind _ _) (by k_asm) (DictL.mono (by assumption) (by kcj_all)) (ck_int _ _ _ _) (by assumption) ?_))
  | ((with_reducible show wpAny _ _ (subscriptTail _ _ (Value.ref _) (Value.str _ _)) _ _ _); (refine c_item (k := Sum.inr _) (knd := ckKind _ _) (by k_asm) (DictL.mono (by assumption) (by kcj_all)) (ck_str _ _ _ _) (by assumption) ?_))
  | ((with_reducible show wpAny _ _ (subscriptTail _ _ (Value.ref _) (Value.str _ _)) _ _ _); (refine c_item (knd := strKind _ _) (by k_asm) (DictL.mono (by assumption) (by kcj_all)) (strKind_is _ _ _ _) (by rfl) ?_))))
def KD (e D : Addr) (h : Heap) : Prop := ∃ o, h.get? e = some o ∧ o.dict = some D
/-- a tree that keeps every object's dict -/
def Tm {α : Type} (m : Sem α) : Prop := ∀ (M : Model) (Γ : Ctx) (Q : α → Pos → Shared → Prop) (E : Value → Pos → Shared → Prop) (p : Pos) (s : Shared) (e D : Addr),
  KD e D s.heap → Sem.wp M Γ m Q E p s → Sem.wp M Γ m (fun a p' s' => Q a p' s' ∧ KD e D s'.heap) (fun v p' s' => E v p' s' ∧ KD e D s'.heap) p s
section
variable {α β : Type}
theorem tm_pure (a : α) : Tm (pure a : Sem α) := fun M Γ Q E p s e D k h => by
  rw [Sem.wp_pure'] at h ⊢; exact ⟨h, k⟩
theorem tm_unsup (w : String) : Tm (PySem.unsupported w : Sem α) := fun M Γ Q E p s e D k h => by
  have : False := by simp [PySem.unsupported] at h
  exact this.elim
theorem tm_bind {m : Sem α} {f : α → Sem β} (hm : Tm m) (hf : ∀ a, Tm (f a)) : Tm (m >>= f) := fun M Γ Q E p s e D k h => by
  rw [Sem.wp_bind'] at h ⊢
  exact Sem.wp_mono M Γ m (fun a p' s' z => hf a M Γ Q E p' s' e D z.2 z.1) (fun v p' s' z => z) p s (hm M Γ _ E p s e D k h)
theorem tm_load (a : Addr) : Tm (load a) := fun M Γ Q E p s e D k h => by
  unfold load at h ⊢
  rw [Sem.wp_load] at h ⊢
  obtain ⟨o, ho, z⟩ := h
  exact ⟨o, ho, z, k⟩
theorem tm_stack : Tm stack := fun M Γ Q E p s e D k h => by
  unfold stack at h ⊢
  exact ⟨h, k⟩
theorem tm_update (a : Addr) (f : Obj → Obj) (hf : ∀ o, (f o).dict = o.dict) (hd : ∀ o : Obj, o.isFreed = false → (f o).isFreed = false) : Tm (update a f) := fun M Γ Q E p s e D k h => by
  unfold update at h ⊢
  rw [Sem.wp_update] at h ⊢
  refine ⟨h.1, h.2, ?_⟩
  obtain ⟨o, ho, q⟩ := k
  by_cases z : a = e
  · subst z
    exact ⟨f o, Heap.get?_update_self f ho (hd o (Heap.get?_some_iff.mp ho).2), (hf o).trans q⟩
  · exact ⟨o, (Heap.get?_update_other _ f z).trans ho, q⟩
theorem tm_alloc (o : Obj) : Tm (alloc o) := fun M Γ Q E p s e D k h => by
  unfold alloc at h ⊢
  rw [Sem.wp_alloc] at h ⊢
  obtain ⟨o', ho, q⟩ := k
  exact ⟨h, o', Heap.get?_push_of_some _ ho, q⟩
theorem tm_ite {c : Prop} [Decidable c] {x y : Sem α} (hx : Tm x) (hy : Tm y) : Tm (if c then x else y) := by split <;> assumption
theorem tm_map {m : Sem α} {f : α → β} (hm : Tm m) : Tm (f <$> m) := tm_bind (f := fun a => pure (f a)) hm fun a => tm_pure _
end
theorem tm_fieldsOf (v : Value) : Tm (fieldsOf v) := by
  unfold fieldsOf
  split
  · refine tm_bind (tm_load _) fun o => ?_
    split
    · exact tm_pure _
    · exact tm_unsup _
  · exact tm_unsup _
theorem tm_field (v : Value) (i : Nat) : Tm (field v i) := by
  unfold field
  refine tm_bind (tm_fieldsOf v) fun o => ?_
  split
  · exact tm_pure _
  · exact tm_unsup _
theorem tm_setField (v : Value) (i : Nat) (x : Value) : Tm (setField v i x) := by
  unfold setField
  split
  · unfold updateField
    refine tm_bind (tm_load _) fun o => ?_
    split
    · refine tm_ite (tm_update _ _ (fun o => ?_) fun o ho => ?_) (tm_unsup _)
      · obtain ⟨c, d, dt, sl⟩ := o
        cases dt <;> rfl
      · obtain ⟨c, d, dt, sl⟩ := o
        cases dt <;> first | rfl | exact ho
    · exact tm_unsup _
  · exact tm_unsup _
theorem tm_newFields (ty : String) (vs : List Value) : Tm (newFields ty vs) := by
  unfold newFields newObj
  dsimp only
  have z : Tm (newObjAsIs (.type ty) (.fields vs.toArray)) := by
    unfold newObjAsIs
    exact tm_bind (tm_alloc _) fun a => tm_pure _
  split
  · exact tm_bind (tm_unsup _) fun _ => z
  · exact z
theorem tm_setFlight (e : Value) (f : Option Addr) : Tm (setFlight e f) := by
  unfold setFlight
  exact tm_bind (tm_field _ _) fun _ => tm_ite (tm_setField _ _ _) (tm_pure _)
theorem tm_ready : ∀ l : List Env, Tm (readyFrames l)
  | [] => tm_pure _
  | env :: outer => by
    unfold readyFrames
    split
    · refine tm_bind (tm_load _) fun o => tm_ite (tm_pure _) (tm_bind ?_ fun b => tm_bind ?_ fun v => tm_bind ?_ fun _ => tm_ready outer)
      · unfold behindIsImport
        refine tm_ite (tm_pure _) (tm_ite (tm_pure _) (tm_bind (tm_field _ _) fun _ => tm_pure _))
      · unfold keptBack
        split
        · refine tm_ite (tm_pure _) (tm_bind ?_ fun _ => ?_)
          · unfold underTheClaimsCaller
            exact tm_bind tm_stack fun _ => tm_pure _
          · exact tm_pure _
        · exact tm_pure _
      · exact tm_update _ _ (fun o => rfl) fun o ho => by obtain ⟨c, d, dt, sl⟩ := o; cases dt <;> exact ho
    · exact tm_unsup _
theorem tm_frameOf (env : Env) : Tm (PySem.frameOf env) := by
  unfold PySem.frameOf
  refine tm_bind (tm_bind tm_stack fun _ => tm_pure _) fun l => tm_bind ?_ fun r => ?_
  · unfold frameObject
    split
    · exact tm_pure _
    · exact tm_bind (tm_ready _) fun _ => tm_pure _
  · split
    · exact tm_pure _
    · exact tm_unsup _
theorem tm_entryPlaceOf (f : Addr) (b : Bool) : Tm (entryPlaceOf f b) := by
  unfold entryPlaceOf
  refine tm_bind tm_stack fun _ => ?_
  split
  · exact tm_pure _
  · exact tm_pure _
theorem tm_noteFrame (e : Value) (env : Env) : Tm (noteFrame e env) := by
  unfold noteFrame
  have tail : ∀ f head, Tm (do setField e 1 (← EntryCells.newEntry head (← PySem.frameOf env) .none (rawInt f) .none (← entryPlaceOf f (head != .none)))) := fun f head =>
    tm_bind (tm_frameOf _) fun _ => tm_bind (tm_entryPlaceOf _ _) fun _ => tm_bind (tm_newFields _ _) fun _ => tm_setField _ _ _
  split
  · refine tm_bind (tm_field _ _) fun head => tm_ite (tm_bind (tm_field _ _) fun x => tm_ite (tm_pure _) (tm_bind (tm_setField _ _ _) fun _ => tail _ _)) (tail _ _)
  · exact tm_unsup _
theorem tm_leaving (env : Env) (e : Value) : Tm (leaving env e) := by
  unfold leaving
  exact tm_bind (tm_noteFrame _ _) fun _ => tm_setFlight _ _
theorem wpAny_tm {α : Type} {M : Model} {A : Around} {m : Sem α} {Q : α → Shared → Prop} {E : Value → Shared → Prop} {s : Shared} {e D : Addr} (t : Tm m) (k : KD e D s.heap) (h : wpAny M A m Q E s) :
    wpAny M A m (fun a s' => Q a s' ∧ KD e D s'.heap) (fun v s' => E v s' ∧ KD e D s'.heap) s := fun Γ p hΓ => t M Γ _ _ p s e D k (h Γ p hΓ)
end Mine
namespace Mine
local macro_rules | `(tactic| k_mem) => `(tactic| assumption)
local macro_rules | `(tactic| walk_at "compareOp In str ref") => `(tactic| (k_here; first
  | (refine c_in (k := Sum.inr _) (knd := ckKind _ _) (by k_asm) (DictL.mono (by assumption) (by kcj_all)) (ck_str _ _ _ _) (by assumption) ?_)
  | (refine c_in (b := true) (knd := strKind _ _) (by k_asm) (DictL.mono (by assumption) (by kcj_all)) (strKind_is _ _ _ _) (by rfl) ?_)
  | (refine c_in (b := false) (knd := strKind _ _) (by k_asm) (DictL.mono (by assumption) (by kcj_all)) (strKind_is _ _ _ _) (by rfl) ?_)))
local macro_rules | `(tactic| walk_at "compareOp NotIn str ref") => `(tactic| (k_here; refine c_notin (k := Sum.inr _) (knd := ckKind _ _) (by k_asm) (DictL.mono (by assumption) (by kcj_all)) (ck_str _ _ _ _) (by assumption) ?_))
local macro_rules | `(tactic| walk_at "compareOp In int ref") => `(tactic| (k_here; refine c_in (k := Sum.inl _) (knd := ckKind _ _) (by k_asm) (DictL.mono (by assumption) (by kcj_all)) (ck_int _ _ _ _) (by assumption) ?_))
local macro_rules | `(tactic| walk_at "compareOp NotIn int ref") => `(tactic| (k_here; refine c_notin (k := Sum.inl _) (knd := ckKind _ _) (by k_asm) (DictL.mono (by assumption) (by kcj_all)) (ck_int _ _ _ _) (by assumption) ?_))
local macro_rules | `(tactic| walk_at "subscriptTail") => `(tactic| (k_here; first
  | ((with_reducible show wpAny _ _ (subscriptTail _ _ (Value.ref _) (Value.int _ _)) _ _ _); (refine c_item (k := Sum.inl _) (knd := ckKind _ _) (by k_asm) (DictL.mono (by assumption) (by kcj_all)) (ck_int _ _ _ _) (by assumption) ?_))
  | ((with_reducible show wpAny _ _ (subscriptTail _ _ (Value.ref _) (Value.str _ _)) _ _ _); (refine c_item (k := Sum.inr _) (knd := ckKind _ _) (by k_asm) (DictL.mono (by assumption) (by kcj_all)) (ck_str _ _ _ _) (by assumption) ?_))
  | ((with_reducible show wpAny _ _ (subscriptTail _ _ (Value.ref _) (Value.str _ _)) _ _ _); (refine c_item (knd := strKind _ _) (by k_asm) (DictL.mono (by assumption) (by kcj_all)) (strKind_is _ _ _ _) (by rfl) ?_))))

/-- what the making of a ConfigError leaves -/
structure MadeD (h h' : Heap) (e D : Addr) (v msg : Value) : Prop where
  keeps : Ext h h'
  new : h.get? e = none
  there : ∃ t1, h'.get? e = some ⟨.ref 62, some D, .fields #[.ref t1, .none, .none, .none, .bool false, .none], #[]⟩
  dict : ∃ hs tk, h'.get? D = some (dictOf [⟨hs, .str (Str.ofString "key") tk, v⟩] 1)
  newD : h.get? D = none
theorem make_CE {w : World} {mean : ExcName → Option Value} {mg mb : Str → Option Value} {A : Around} {s : Shared} {h₀ : Heap} {L : Addr} {m : Str → Option Value} {N : Led} {v msg : Value} {kw : List (Str × Value)} {Q E : Value → Shared → Prop}
    (F : Fr h₀ L s.heap m) (X₀ : (hd.heap_39 w.params).In h₀) (H : News h₀ L s.heap N) (T : Top Mine.hd.view_39 LO mean mg mb h₀) (hh : A.handled = none) (hdp : A.depth ≤ 470) (hun : A.units ≤ 170) (hkw : KwMsg kw msg)
    (k : ∀ h' tk e D, MadeD s.heap h' e D v msg → Q (.ref e) { s with heap := h', toks := tk }) :
    wpAny (model PW w) A (call (.ref 62) [v] kw) Q E s := by
  refine wpAny_call (call_CE F X₀ H hh (by omega) (by omega) fun e tp own h' tk ex en F' H' hne he htp => ?_)
  have e1 := H' _ (List.mem_append_left _ he)
  refine init_in (h := h') X₀ F'.keep e1.2.2 T hkw ?_ ?_ ?_ e1.1 ?_
  · exact hh
  · show A.depth + 1 ≤ 480; omega
  · show A.units + 1 ≤ 180; omega
  intro h₂ t' D hs tk' t1 k₂ he₂ hD₂ hDn ht1 htn
  refine ⟨rfl, k h₂ t' e D ⟨fun b o q => k₂ b o (fun z => by rw [z, en] at q; cases q) (ex _ _ q), en, ⟨t1, he₂⟩, ⟨hs, tk', hD₂⟩, ?_⟩⟩
  cases z : s.heap.get? D with
  | none => rfl
  | some o => rw [ex _ _ z] at hDn; cases hDn
end Mine
namespace Mine
local macro_rules | `(tactic| k_mem) => `(tactic| assumption)
local macro_rules | `(tactic| walk_at "compareOp In str ref") => `(tactic| (k_here; first
  | (refine c_in (k := Sum.inr _) (knd := ckKind _ _) (by k_asm) (DictL.mono (by assumption) (by kcj_all)) (ck_str _ _ _ _) (by assumption) ?_)
  | (refine c_in (b := true) (knd := strKind _ _) (by k_asm) (DictL.mono (by assumption) (by kcj_all)) (strKind_is _ _ _ _) (by rfl) ?_)
  | (refine c_in (b := false) (knd := strKind _ _) (by k_asm) (DictL.mono (by assumption) (by kcj_all)) (strKind_is _ _ _ _) (by rfl) ?_)))
local macro_rules | `(tactic| walk_at "compareOp NotIn str ref") => `(tactic| (k_here; refine c_notin (k := Sum.inr _) (knd := ckKind _ _) (by k_asm) (DictL.mono (by assumption) (by kcj_all)) (ck_str _ _ _ _) (by assumption) ?_))
local macro_rules | `(tactic| walk_at "compareOp In int ref") => `(tactic| (k_here; refine c_in (k := Sum.inl _) (knd := ckKind _ _) (by k_asm) (DictL.mono (by assumption) (by kcj_all)) (ck_int _ _ _ _) (by assumption) ?_))
local macro_rules | `(tactic| walk_at "compareOp NotIn int ref") => `(tactic| (k_here; refine c_notin (k := Sum.inl _) (knd := ckKind _ _) (by k_asm) (DictL.mono (by assumption) (by kcj_all)) (ck_int _ _ _ _) (by assumption) ?_))
local macro_rules | `(tactic| walk_at "subscriptTail") => `(tactic| (k_here; first
  | ((with_reducible show wpAny _ _ (subscriptTail _ _ (Value.ref _) (Value.int _ _)) _ _ _); (refine c_item (k := Sum.inl _) (knd := ckKind _ _) (by k_asm) (DictL.mono (by assumption) (by kcj_all)) (ck_int _ _ _ _) (by assumption) ?_))
  | ((with_reducible show wpAny _ _ (subscriptTail _ _ (Value.ref _) (Value.str _ _)) _ _ _); (refine c_item (k := Sum.inr _) (knd := ckKind _ _) (by k_asm) (DictL.mono (by assumption) (by kcj_all)) (ck_str _ _ _ _) (by assumption) ?_))
  | ((with_reducible show wpAny _ _ (subscriptTail _ _ (Value.ref _) (Value.str _ _)) _ _ _); (refine c_item (knd := strKind _ _) (by k_asm) (DictL.mono (by assumption) (by kcj_all)) (strKind_is _ _ _ _) (by rfl) ?_))))
def CEok (h : Heap) : Prop := ∃ nm qn N bs bm hdct sn sub ab col dd k0 k1 k2 k3 k5 newId,
    h.get? 62 = some (excClassObj nm qn 62 N bs bm hdct sn sub ab col dd k0 k1 k2 k3 k5 newId) ∧ bm.contains (.type "BaseException") = true
theorem CEok.of {K : Frag} {h : Heap} (X : K.In h) (q : ktsIn K 62 "BaseException" = true) : CEok h := by
  obtain ⟨nm, qn, N, bs, bm, hdct, sn, sub, ab, col, dd, k0, k1, k2, k3, k5, newId, hC, hb, _⟩ := kts_cls X q
  exact ⟨nm, qn, N, bs, bm, hdct, sn, sub, ab, col, dd, k0, k1, k2, k3, k5, newId, hC, hb⟩
def RaisableD (E : Value → Shared → Prop) (v : Value) (s₁ : Shared) : Prop :=
  ∃ e t D, v = .ref e ∧ CEok s₁.heap ∧ s₁.heap.get? e = some ⟨.ref 62, some D, .fields #[.ref t, .none, .none, .none, .bool false, .none], #[]⟩ ∧ E (.ref e) s₁
theorem Raise_D {M : Model} {A : Around} {env : Env} {e : Expr} {pos : Pos} {s : Shared} {Q : Flow → Shared → Prop} {E : Value → Shared → Prop} (hh : A.handled = none)
    (h : wpAny M A (eval e env) (RaisableD E) E s) : wpAny M A (exec (.Raise (some e) none pos) env) Q E s := by
  show wpAny M A (do standAt pos; raiseStmt env (some (do let v ← eval e env; standAt pos; pure v)) none) Q E s
  refine wpAny_bind (wpAny_standAt ?_)
  unfold raiseStmt
  dsimp only
  refine wpAny_bind (wpAny_bind (wpAny_mono h (fun v s₁ h₁ => wpAny_bind (wpAny_standAt (wpAny_pure ?_))) fun _ _ x => x))
  obtain ⟨e, t, D, rfl, ⟨nm, qn, N, bs, bm, hdct, sn, sub, ab, col, dd, k0, k1, k2, k3, k5, newId, hC, hbase⟩, he, hE⟩ := h₁
  obtain ⟨hp, g, d, tk, os⟩ := s₁
  have hcB : (Value.ref 62 :: bm).contains (.type "BaseException") = true := by rw [List.contains_cons, hbase, Bool.or_true]
  repeat (first | with_reducible refine wpAny_loadPart_at he ?_ | with_reducible refine wpAny_loadPart_at hC ?_ | (with_reducible refine wpAny_isSubtype_exc hC ?_; rw [hcB]) | wp_step)
  exact wpAny_raiseNew_none hh hE
theorem raise_CE {w : World} {mean : ExcName → Option Value} {mg mb : Str → Option Value} {A : Around} {s : Shared} {h₀ : Heap} {L : Addr} {m : Str → Option Value} {N : Led} {v msg : Value} {kw : List (Str × Value)} {E E' : Value → Shared → Prop}
    (F : Fr h₀ L s.heap m) (X₀ : (hd.heap_39 w.params).In h₀) (H : News h₀ L s.heap N) (T : Top Mine.hd.view_39 LO mean mg mb h₀) (hh : A.handled = none) (hdp : A.depth ≤ 470) (hun : A.units ≤ 170) (hkw : KwMsg kw msg)
    (hc : ktsIn (hd.heap_39 w.params) 62 "BaseException" = true)
    (k : ∀ h' tk e D, MadeD s.heap h' e D v msg → E (.ref e) { s with heap := h', toks := tk }) :
    wpAny (model PW w) A (call (.ref 62) [v] kw) (RaisableD E) E' s :=
  make_CE F X₀ H T hh hdp hun hkw fun h' tk e D m => by
    obtain ⟨t1, he⟩ := m.there
    exact ⟨e, t1, D, rfl, CEok.of ((X₀.keeps F.keep).keeps m.keeps) hc, he, k h' tk e D m⟩
section
variable {M : Model} {A : Around} {E : Value → Shared → Prop} {s' : Shared} {base g g₂ h : Heap} {outer : List Env} {L a e D : Addr} {m : Str → Option Value} {name : Str} {scope : Scope} {cd v msg : Value} {Q : Unit → Shared → Prop} {news : List (Addr × Obj)}
theorem leave_D (K : Below A base outer g) (hx : MadeD h s'.heap e D v msg) (F : Fr g L h m) (N : News g L h news)
    (hQ : ∀ h' hs tk, RaisedSN base g outer e (.ref 62) ((D, dictOf [⟨hs, .str (Str.ofString "key") tk, v⟩] 1) :: news) h' → KD e D h' → g.UpToSlots h' → Q () { s' with heap := h' }) (hk : scope.kind = .function := by rfl) :
    wpAny M (A.deeper (envOf name scope L a cd)) (leaving (envOf name scope L a cd) (.ref e)) Q E s' := by
  have K' := K.push (name := name) (a := a) (cd := cd) F hk
  obtain ⟨t1, he⟩ := hx.there
  obtain ⟨hs, tk, hD⟩ := hx.dict
  have nDe : D ≠ e := fun z => by rw [z, he] at hD; cases hD
  have hin : ∀ env ∈ (envOf name scope L a cd :: outer), ∀ b, env.frame = some b → b ∈ e :: (envOf name scope L a cd :: outer).filterMap (·.frame) := fun env he b hb => .tail _ (List.mem_filterMap.mpr ⟨env, he, hb⟩)
  have fr : ∀ b, b ∈ (envOf name scope L a cd :: outer).filterMap (·.frame) → ∃ o, h.get? b = some o := fun b hb => let ⟨_, o, ho, _⟩ := K'.frames.mem hb; ⟨o, ho⟩
  have new : ∀ b o, h.get? b = some o → b ∉ (envOf name scope L a cd :: outer).filterMap (·.frame) → (hideAll s'.heap (e :: (envOf name scope L a cd :: outer).filterMap (·.frame))).get? b = some o := fun b o q nm => hideAll_get _ (hx.keeps b o q) fun hm => by
    rcases List.mem_cons.mp hm with z | z
    · rw [z, hx.new] at q; cases q
    · exact nm z
  have st : base.StaysIn (hideAll s'.heap (e :: (envOf name scope L a cd :: outer).filterMap (·.frame))) := fun b o q => new b o (K'.stays b o q) fun hm => by
    rw [(K'.frames.mem hm).1] at q; cases q
  have sg : ∀ b o, g.get? b = some o → b ∉ outer.filterMap (·.frame) → (hideAll s'.heap (e :: (envOf name scope L a cd :: outer).filterMap (·.frame))).get? b = some o := fun b o q nm => new b o (F.keep b o q) fun hm => by
    rcases kts_mem hm with z | z
    · rw [z, kts_self F] at q
      cases q
    · exact nm z
  have hl : ∀ q ∈ (D, dictOf [⟨hs, .str (Str.ofString "key") tk, v⟩] 1) :: news, (hideAll s'.heap (e :: (envOf name scope L a cd :: outer).filterMap (·.frame))).get? q.1 = some q.2 ∧ g.get? q.1 = none ∧ base.get? q.1 = none := fun q hq => by
    rcases List.mem_cons.mp hq with rfl | hq
    · have gD : g.get? D = none := kts_none F.keep hx.newD
      refine ⟨hideAll_get _ hD fun hm => ?_, gD, fresh_of_stays K.stays gD⟩
      rcases List.mem_cons.mp hm with z | z
      · exact nDe z
      · obtain ⟨o, ho⟩ := fr _ z
        rw [hx.newD] at ho; cases ho
    refine ⟨new _ _ (N q hq).1 fun hm => ?_, (N q hq).2.2, fresh_of_stays K.stays (N q hq).2.2⟩
    obtain ⟨env, he, hf⟩ := List.mem_filterMap.mp hm
    rcases List.mem_cons.mp he with rfl | he
    · exact (N q hq).2.1 (Option.some.inj hf).symm
    · obtain ⟨o, ho, _⟩ := (K.frames.mem (List.mem_filterMap.mpr ⟨env, he, hf⟩)).2
      rw [(N q hq).2.2] at ho; cases ho
  have hen : (hideAll s'.heap (e :: (envOf name scope L a cd :: outer).filterMap (·.frame))).get? e = none := hideAll_none _ (.head _)
  have fl := K'.frames.of_keeps (h' := s'.heap) fun b o hb _ => ⟨o, hx.keeps b o hb, rfl⟩
  refine wpAny_mono (wpAny_tm (D := D) (e := e) (tm_leaving _ _) ⟨_, he, rfl⟩ (wpAny_leaving_firstW (a0 := .ref t1) (Q := fun _ s => ∃ h', s = { s' with heap := h' } ∧ Heap.LeftW (hideAll s'.heap (e :: (envOf name scope L a cd :: outer).filterMap (·.frame))) (envOf name scope L a cd :: outer) e (.ref 62) (.ref t1) s'.heap h')
    (E := E) K'.stack (funFrames_hide fl hin) rfl he (fun b o hb => of_hideAll _ hb) hen rfl rfl rfl fun h' hL => ⟨h', rfl, hL⟩)) ?_ fun _ _ z => z.1
  rintro _ _ ⟨⟨h', rfl, hL⟩, kd⟩
  obtain ⟨k1, ⟨_, _, k2⟩, k3, k4⟩ := hL
  exact hQ h' hs tk ⟨_, .ref t1, st, sg, hl, k1, hen, k2, k3⟩ kd (((Heap.UpToSlots.of_keeps F.keep).trans (Heap.UpToSlots.of_keeps hx.keeps)).trans k4)
end
section
variable {prog : Program} {w : World} {A₀ : Around} {E : Value → Shared → Prop} {s' : Shared} {base g g₀ G : Heap} {outer : List Env} {L a e C Dd : Addr} {m : Str → Option Value} {name : Str} {scope : Scope} {cd : Value}
  {n : Str} {b₀ : Stmt} {suite : List Stmt} {pos np : Pos} {rest : List ExceptHandler} {Q : Flow → Shared → Prop} {news : List (Addr × Obj)} {KF : Frag}
  {p : Program} {loose : List Str} {mean : ExcName → Option Value} {mg mb : Str → Option Value} {x : Str}
theorem caught_D (R : RaisedSN base G (envOf name scope L a cd :: outer) e (.ref C) news s'.heap) (kd : KD e Dd s'.heap) (F : Fr g L G m) (K : Below A₀ base outer g) (hsm : G.UpToSlots s'.heap) (XB : KF.In base) (TB : Top p loose mean mg mb base)
    (D : KtsDicts (outer.filterMap (·.frame)) g) (T0 : KtsTurn (outer.filterMap (·.frame)) g₀ g)
    (ex : nsIn KF mainGlobals x = some (some (.ref C))) (q : ktsIn KF C "BaseException" = true)
    (k : ∀ h' g' cls vs sl tk, KtsTurn (outer.filterMap (·.frame)) g₀ g' → Fr g' L h' (fun y => if y = n then some (.ref e) else m y) → News g' L h' ((e, ⟨cls, some Dd, .fields vs, sl⟩) :: news) → cls = .ref C → Below A₀ base outer g' → KF.In g' → Top p loose mean mg mb g' → KtsDicts (outer.filterMap (·.frame)) g' →
      wpAny (model prog w) ((A₀.deeper (envOf name scope L a cd)).mark (some (.ref e))) (execs (b₀ :: suite) (envOf name scope L a cd))
        (fun f s₄ => wpAny (model prog w) (A₀.deeper (envOf name scope L a cd)) (do bindName (envOf name scope L a cd) n .none; unbindBehindTheSuite (envOf name scope L a cd) n pos) (fun _ s₅ => Q f s₅) E s₄)
        (AsSuiteRaised (model prog w) ((A₀.deeper (envOf name scope L a cd)).mark (some (.ref e))) (envOf name scope L a cd) n pos (notedBy (model prog w) ((A₀.deeper (envOf name scope L a cd)).mark (some (.ref e))) (envOf name scope L a cd) (cameBackBy (model prog w) (A₀.deeper (envOf name scope L a cd)) (envOf name scope L a cd) E)))
        { s' with heap := h', toks := tk })
    (hk : scope.kind = .function := by rfl) (hlo : (envOf name scope L a cd).kindOf n = some .local := by rfl) (hx : (envOf name scope L a cd).kindOf x = some .globalImplicit := by rfl) (hd : (x == ("__debug__" : Str)) = false := by decide) :
    wpAny (model prog w) (A₀.deeper (envOf name scope L a cd)) (noteFrame (.ref e) (envOf name scope L a cd))
      (fun _ s₂ => wpAny (model prog w) (A₀.deeper (envOf name scope L a cd)) (setFlight (.ref e) none) (fun _ s₃ =>
        wpAny (model prog w) (A₀.deeper (envOf name scope L a cd)) (handleBy (.ref e) (envOf name scope L a cd) (.ExceptHandler (some (.Name x np)) (some n) (b₀ :: suite) pos :: rest)) Q E s₃) E s₂) E s' := by
  obtain ⟨B, a0, hB, hBG, hl, hfl⟩ := R
  have hL : B.get? L = none := by
    obtain ⟨_, ⟨L', _, hf, hn', _⟩, _⟩ := hfl.2.2.1
    obtain rfl : L = L' := Option.some.inj hf
    exact hn'
  refine wpAny_mono (wpAny_tm (tm_noteFrame _ _) kd (wpAny_looks_onW (E := E) (Q := fun _ s => ∃ h₄, s = { s' with heap := h₄ } ∧ Heap.HeldW B (envOf name scope L a cd :: outer) e (.ref C) a0 L h₄ ∧ s'.heap.UpToSlots h₄) (Around.frames_deeper K.stack) rfl hfl fun h₄ x y => ⟨h₄, rfl, x, y⟩)) ?_ fun _ _ z => z.1
  rintro _ _ ⟨⟨h₄, rfl, hheld₄, hsm₄⟩, kd₄⟩
  refine wpAny_mono (wpAny_tm (tm_setFlight _ _) kd₄ (wpAny_landsW (s := { s' with heap := h₄ }) (E := E) (Q := fun _ s => ∃ h₅, s = { s' with heap := h₅ } ∧ Heap.FlyingW B (envOf name scope L a cd :: outer) e (.ref C) a0 h₅ ∧ h₄.UpToSlots h₅) hheld₄ fun h₅ x y => ⟨h₅, rfl, x, y⟩)) ?_ fun _ _ z => z.1
  rintro _ _ ⟨⟨h₅, rfl, hheld, hsm₅'⟩, kd₅⟩
  have hsm₅ := hsm₄.trans hsm₅'
  obtain ⟨g₅, T₅, F₅, K₅⟩ := kts_ground K F hBG hheld.1 (hsm.trans hsm₅)
  have X₅ : KF.In g₅ := XB.keeps K₅.stays
  have P₅ : TopRead p loose mg mb g₅ := topRead_of (TB.keeps K₅.stays)
  obtain ⟨ob, hob, hobc⟩ := hheld.there
  obtain ⟨nm, q', N, bs, bm, hdct, sn, sub, ab, col, dd, k0, k1, k2, k3, k5, newId, hC, hbase, hbT⟩ := kts_cls X₅ q
  have hC₅ := F₅.keep _ _ hC
  refine wpAny_handleBy_cons (codeAny_handlers_test (name_K F₅ X₅ P₅ ex ?_ hk hx hd)) (by intro q; cases q)
  refine wpAny_excMatches_sub_self hC₅ hob hobc hbase (codeAny_handlers_suite_as ?_)
  refine wpAny_mono (wpAny_tm (tm_setFlight _ _) kd₅ (lands_againW (s := { s' with heap := h₅ }) (Q := fun _ s => ∃ h₆, s = { s' with heap := h₆ } ∧ Heap.FlyingW B (envOf name scope L a cd :: outer) e (.ref C) a0 h₆ ∧ h₅.UpToSlots h₆) hheld fun h₆ x y => ⟨h₆, rfl, x, y⟩)) ?_ fun _ _ z => z.1
  rintro _ _ ⟨⟨h₆, rfl, hfl₆, hsm₆⟩, kd₆⟩
  obtain ⟨g₆, T₆, F₆, K₆⟩ := kts_ground K F hBG hfl₆.1 ((hsm.trans hsm₅).trans hsm₆)
  obtain ⟨oe, ws, hoe, hoec, hoed, hoe0⟩ := hfl₆.first
  have ne₆ : g₆.get? e = none := T₆.none_ _ (kts_fresh F hBG hfl₆.2.1 fun o ho m => by
    obtain ⟨_, o', ho', hd⟩ := K.frames.mem m
    rw [ho] at ho'
    cases ho'
    obtain ⟨sl, hs⟩ := ((hsm.trans hsm₅).trans hsm₆) _ _ (F.keep _ _ ho) hd
    rw [hoe] at hs
    cases hs
    exact hd _ hoed)
  have Nl : News g₆ L h₆ news := fun q hq => ⟨hfl₆.1 _ _ (hl q hq).1, (fun z => by have := (hl q hq).1; rw [z, hL] at this; cases this), T₆.none_ _ (kts_none F.keep (hl q hq).2.1)⟩
  have N₆ := News.more F₆ Nl hoe (fun es n q => by rw [hoed] at q; cases q) ne₆
  have X₆ : KF.In g₆ := XB.keeps K₆.stays
  have P₆ : Top p loose mean mg mb g₆ := TB.keeps K₆.stays
  have D₆ : KtsDicts (outer.filterMap (·.frame)) g₆ := D.turn T₆
  obtain ⟨o2, ho2, hdd⟩ := kd₆
  have := hoe.symm.trans ho2
  cases this
  obtain ⟨oc, od, odt, osl⟩ := oe
  cases hoed
  cases hdd
  refine stN F₆ (news := _) N₆ (fun h₇ F₇ N₇ => ?_) hk hlo
  exact k h₇ g₆ _ _ _ _ (T0.trans T₆) F₇ N₇ hoec K₆ X₆ P₆ D₆
end
end Mine
namespace Mine
local macro_rules | `(tactic| k_mem) => `(tactic| assumption)
local macro_rules | `(tactic| walk_at "compareOp In str ref") => `(tactic| (k_here; first
  | (refine c_in (k := Sum.inr _) (knd := ckKind _ _) (by k_asm) (DictL.mono (by assumption) (by kcj_all)) (ck_str _ _ _ _) (by assumption) ?_)
  | (refine c_in (b := true) (knd := strKind _ _) (by k_asm) (DictL.mono (by assumption) (by kcj_all)) (strKind_is _ _ _ _) (by rfl) ?_)
  | (refine c_in (b := false) (knd := strKind _ _) (by k_asm) (DictL.mono (by assumption) (by kcj_all)) (strKind_is _ _ _ _) (by rfl) ?_)))
local macro_rules | `(tactic| walk_at "compareOp NotIn str ref") => `(tactic| (k_here; refine c_notin (k := Sum.inr _) (knd := ckKind _ _) (by k_asm) (DictL.mono (by assumption) (by kcj_all)) (ck_str _ _ _ _) (by assumption) ?_))
local macro_rules | `(tactic| walk_at "compareOp In int ref") => `(tactic| (k_here; refine c_in (k := Sum.inl _) (knd := ckKind _ _) (by k_asm) (DictL.mono (by assumption) (by kcj_all)) (ck_int _ _ _ _) (by assumption) ?_))
local macro_rules | `(tactic| walk_at "compareOp NotIn int ref") => `(tactic| (k_here; refine c_notin (k := Sum.inl _) (knd := ckKind _ _) (by k_asm) (DictL.mono (by assumption) (by kcj_all)) (ck_int _ _ _ _) (by assumption) ?_))
local macro_rules | `(tactic| walk_at "subscriptTail") => `(tactic| (k_here; first
  | ((with_reducible show wpAny _ _ (subscriptTail _ _ (Value.ref _) (Value.int _ _)) _ _ _); (refine c_item (k := Sum.inl _) (knd := ckKind _ _) (by k_asm) (DictL.mono (by assumption) (by kcj_all)) (ck_int _ _ _ _) (by assumption) ?_))
  | ((with_reducible show wpAny _ _ (subscriptTail _ _ (Value.ref _) (Value.str _ _)) _ _ _); (refine c_item (k := Sum.inr _) (knd := ckKind _ _) (by k_asm) (DictL.mono (by assumption) (by kcj_all)) (ck_str _ _ _ _) (by assumption) ?_))
  | ((with_reducible show wpAny _ _ (subscriptTail _ _ (Value.ref _) (Value.str _ _)) _ _ _); (refine c_item (knd := strKind _ _) (by k_asm) (DictL.mono (by assumption) (by kcj_all)) (strKind_is _ _ _ _) (by rfl) ?_))))
def FMT : Str := Str.ofString "Actual data identifier configuration contains no definition for data identifier 0x%04x"
def NAMES : List Int := [0, 1, 255, 256, 61840, 65280, 65535]
theorem mod_0 (t u : Tok) : Meets (Builtin.«str.__mod__» ⟨[.str FMT t, .int 0 u], []⟩) (fun _ R s => ∀ t' k, R (.ok (.ret (.str (Str.ofString "Actual data identifier configuration contains no definition for data identifier 0x0000") t'))) { s with toks := k }) := by
  apply KPc.meets_of
  intro prog w A s Q E h
  rw [KPc.entry_is]
  unfold Builtin.Str.percentFormat
  refine wpAny_bind (wpAny_isInstance (typeIs_int _ _ _) F.sub_int_tuple ?_)
  refine wpAny_bind (wpAny_of_eq (a := none) rfl ?_)
  refine wpAny_bind (wpAny_of_eq (KPc.fills _ _) ?_)
  have fin' : wpAny (model prog w) A (do let v ← mkStr (Str.ofString "Actual data identifier configuration contains no definition for data identifier 0x0000"); pure (Fin.done (.ret v))) Q E s := by
    refine wpAny_bind (wpAny_mkStr (wpAny_pure (h _ _)) (by decide +kernel))
  refine Eq.mp (congrArg (fun z => wpAny (model prog w) A z Q E s) ?_) fin'
  kernel_rfl
theorem mod_1 (t u : Tok) : Meets (Builtin.«str.__mod__» ⟨[.str FMT t, .int 1 u], []⟩) (fun _ R s => ∀ t' k, R (.ok (.ret (.str (Str.ofString "Actual data identifier configuration contains no definition for data identifier 0x0001") t'))) { s with toks := k }) := by
  apply KPc.meets_of
  intro prog w A s Q E h
  rw [KPc.entry_is]
  unfold Builtin.Str.percentFormat
  refine wpAny_bind (wpAny_isInstance (typeIs_int _ _ _) F.sub_int_tuple ?_)
  refine wpAny_bind (wpAny_of_eq (a := none) rfl ?_)
  refine wpAny_bind (wpAny_of_eq (KPc.fills _ _) ?_)
  have fin' : wpAny (model prog w) A (do let v ← mkStr (Str.ofString "Actual data identifier configuration contains no definition for data identifier 0x0001"); pure (Fin.done (.ret v))) Q E s := by
    refine wpAny_bind (wpAny_mkStr (wpAny_pure (h _ _)) (by decide +kernel))
  refine Eq.mp (congrArg (fun z => wpAny (model prog w) A z Q E s) ?_) fin'
  kernel_rfl
theorem mod_255 (t u : Tok) : Meets (Builtin.«str.__mod__» ⟨[.str FMT t, .int 255 u], []⟩) (fun _ R s => ∀ t' k, R (.ok (.ret (.str (Str.ofString "Actual data identifier configuration contains no definition for data identifier 0x00ff") t'))) { s with toks := k }) := by
  apply KPc.meets_of
  intro prog w A s Q E h
  rw [KPc.entry_is]
  unfold Builtin.Str.percentFormat
  refine wpAny_bind (wpAny_isInstance (typeIs_int _ _ _) F.sub_int_tuple ?_)
  refine wpAny_bind (wpAny_of_eq (a := none) rfl ?_)
  refine wpAny_bind (wpAny_of_eq (KPc.fills _ _) ?_)
  have fin' : wpAny (model prog w) A (do let v ← mkStr (Str.ofString "Actual data identifier configuration contains no definition for data identifier 0x00ff"); pure (Fin.done (.ret v))) Q E s := by
    refine wpAny_bind (wpAny_mkStr (wpAny_pure (h _ _)) (by decide +kernel))
  refine Eq.mp (congrArg (fun z => wpAny (model prog w) A z Q E s) ?_) fin'
  kernel_rfl
theorem mod_256 (t u : Tok) : Meets (Builtin.«str.__mod__» ⟨[.str FMT t, .int 256 u], []⟩) (fun _ R s => ∀ t' k, R (.ok (.ret (.str (Str.ofString "Actual data identifier configuration contains no definition for data identifier 0x0100") t'))) { s with toks := k }) := by
  apply KPc.meets_of
  intro prog w A s Q E h
  rw [KPc.entry_is]
  unfold Builtin.Str.percentFormat
  refine wpAny_bind (wpAny_isInstance (typeIs_int _ _ _) F.sub_int_tuple ?_)
  refine wpAny_bind (wpAny_of_eq (a := none) rfl ?_)
  refine wpAny_bind (wpAny_of_eq (KPc.fills _ _) ?_)
  have fin' : wpAny (model prog w) A (do let v ← mkStr (Str.ofString "Actual data identifier configuration contains no definition for data identifier 0x0100"); pure (Fin.done (.ret v))) Q E s := by
    refine wpAny_bind (wpAny_mkStr (wpAny_pure (h _ _)) (by decide +kernel))
  refine Eq.mp (congrArg (fun z => wpAny (model prog w) A z Q E s) ?_) fin'
  kernel_rfl
theorem mod_61840 (t u : Tok) : Meets (Builtin.«str.__mod__» ⟨[.str FMT t, .int 61840 u], []⟩) (fun _ R s => ∀ t' k, R (.ok (.ret (.str (Str.ofString "Actual data identifier configuration contains no definition for data identifier 0xf190") t'))) { s with toks := k }) := by
  apply KPc.meets_of
  intro prog w A s Q E h
  rw [KPc.entry_is]
  unfold Builtin.Str.percentFormat
  refine wpAny_bind (wpAny_isInstance (typeIs_int _ _ _) F.sub_int_tuple ?_)
  refine wpAny_bind (wpAny_of_eq (a := none) rfl ?_)
  refine wpAny_bind (wpAny_of_eq (KPc.fills _ _) ?_)
  have fin' : wpAny (model prog w) A (do let v ← mkStr (Str.ofString "Actual data identifier configuration contains no definition for data identifier 0xf190"); pure (Fin.done (.ret v))) Q E s := by
    refine wpAny_bind (wpAny_mkStr (wpAny_pure (h _ _)) (by decide +kernel))
  refine Eq.mp (congrArg (fun z => wpAny (model prog w) A z Q E s) ?_) fin'
  kernel_rfl
theorem mod_65280 (t u : Tok) : Meets (Builtin.«str.__mod__» ⟨[.str FMT t, .int 65280 u], []⟩) (fun _ R s => ∀ t' k, R (.ok (.ret (.str (Str.ofString "Actual data identifier configuration contains no definition for data identifier 0xff00") t'))) { s with toks := k }) := by
  apply KPc.meets_of
  intro prog w A s Q E h
  rw [KPc.entry_is]
  unfold Builtin.Str.percentFormat
  refine wpAny_bind (wpAny_isInstance (typeIs_int _ _ _) F.sub_int_tuple ?_)
  refine wpAny_bind (wpAny_of_eq (a := none) rfl ?_)
  refine wpAny_bind (wpAny_of_eq (KPc.fills _ _) ?_)
  have fin' : wpAny (model prog w) A (do let v ← mkStr (Str.ofString "Actual data identifier configuration contains no definition for data identifier 0xff00"); pure (Fin.done (.ret v))) Q E s := by
    refine wpAny_bind (wpAny_mkStr (wpAny_pure (h _ _)) (by decide +kernel))
  refine Eq.mp (congrArg (fun z => wpAny (model prog w) A z Q E s) ?_) fin'
  kernel_rfl
theorem mod_65535 (t u : Tok) : Meets (Builtin.«str.__mod__» ⟨[.str FMT t, .int 65535 u], []⟩) (fun _ R s => ∀ t' k, R (.ok (.ret (.str (Str.ofString "Actual data identifier configuration contains no definition for data identifier 0xffff") t'))) { s with toks := k }) := by
  apply KPc.meets_of
  intro prog w A s Q E h
  rw [KPc.entry_is]
  unfold Builtin.Str.percentFormat
  refine wpAny_bind (wpAny_isInstance (typeIs_int _ _ _) F.sub_int_tuple ?_)
  refine wpAny_bind (wpAny_of_eq (a := none) rfl ?_)
  refine wpAny_bind (wpAny_of_eq (KPc.fills _ _) ?_)
  have fin' : wpAny (model prog w) A (do let v ← mkStr (Str.ofString "Actual data identifier configuration contains no definition for data identifier 0xffff"); pure (Fin.done (.ret v))) Q E s := by
    refine wpAny_bind (wpAny_mkStr (wpAny_pure (h _ _)) (by decide +kernel))
  refine Eq.mp (congrArg (fun z => wpAny (model prog w) A z Q E s) ?_) fin'
  kernel_rfl
theorem mod_hex {w : World} {A : Around} {s : Shared} {t u : Tok} {n : Int} {Q E : Value → Shared → Prop} (hn : n ∈ NAMES) (h : ∀ x t' k, Q (.str x t') { s with toks := k }) : wpAny (model PW w) A (binaryOp .Mod (.str FMT t) (.int n u)) Q E s := by
  simp only [NAMES, List.mem_cons, List.not_mem_nil, or_false] at hn
  rcases hn with rfl | rfl | rfl | rfl | rfl | rfl | rfl
  · exact KPc.mod_lit rfl (by decide +kernel) (fun _ _ => mod_0 t u) (h _)
  · exact KPc.mod_lit rfl (by decide +kernel) (fun _ _ => mod_1 t u) (h _)
  · exact KPc.mod_lit rfl (by decide +kernel) (fun _ _ => mod_255 t u) (h _)
  · exact KPc.mod_lit rfl (by decide +kernel) (fun _ _ => mod_256 t u) (h _)
  · exact KPc.mod_lit rfl (by decide +kernel) (fun _ _ => mod_61840 t u) (h _)
  · exact KPc.mod_lit rfl (by decide +kernel) (fun _ _ => mod_65280 t u) (h _)
  · exact KPc.mod_lit rfl (by decide +kernel) (fun _ _ => mod_65535 t u) (h _)
end Mine
namespace Mine
local macro_rules | `(tactic| walk_at "zz0") => `(tactic| fail "zz")
local macro_rules | `(tactic| walk_at "zz1") => `(tactic| fail "zz")
theorem off_FEgk : True := by
  w_top off
  trivial
local macro_rules | `(tactic| k_mem) => `(tactic| assumption)
local macro_rules | `(tactic| walk_at "compareOp In str ref") => `(tactic| (k_here; first
  | (refine c_in (k := Sum.inr _) (knd := ckKind _ _) (by k_asm) (DictL.mono (by assumption) (by kcj_all)) (ck_str _ _ _ _) (by assumption) ?_)
  | (refine c_in (b := true) (knd := strKind _ _) (by k_asm) (DictL.mono (by assumption) (by kcj_all)) (strKind_is _ _ _ _) (by rfl) ?_)
  | (refine c_in (b := false) (knd := strKind _ _) (by k_asm) (DictL.mono (by assumption) (by kcj_all)) (strKind_is _ _ _ _) (by rfl) ?_)))
local macro_rules | `(tactic| walk_at "compareOp NotIn str ref") => `(tactic| (k_here; refine c_notin (k := Sum.inr _) (knd := ckKind _ _) (by k_asm) (DictL.mono (by assumption) (by kcj_all)) (ck_str _ _ _ _) (by assumption) ?_))
local macro_rules | `(tactic| walk_at "compareOp In int ref") => `(tactic| (k_here; refine c_in (k := Sum.inl _) (knd := ckKind _ _) (by k_asm) (DictL.mono (by assumption) (by kcj_all)) (ck_int _ _ _ _) (by assumption) ?_))
local macro_rules | `(tactic| walk_at "compareOp NotIn int ref") => `(tactic| (k_here; refine c_notin (k := Sum.inl _) (knd := ckKind _ _) (by k_asm) (DictL.mono (by assumption) (by kcj_all)) (ck_int _ _ _ _) (by assumption) ?_))
local macro_rules | `(tactic| walk_at "subscriptTail") => `(tactic| (k_here; first
  | ((with_reducible show wpAny _ _ (subscriptTail _ _ (Value.ref _) (Value.int _ _)) _ _ _); (refine c_item (k := Sum.inl _) (knd := ckKind _ _) (by k_asm) (DictL.mono (by assumption) (by kcj_all)) (ck_int _ _ _ _) (by assumption) ?_))
  | ((with_reducible show wpAny _ _ (subscriptTail _ _ (Value.ref _) (Value.str _ _)) _ _ _); (refine c_item (k := Sum.inr _) (knd := ckKind _ _) (by k_asm) (DictL.mono (by assumption) (by kcj_all)) (ck_str _ _ _ _) (by assumption) ?_))
  | ((with_reducible show wpAny _ _ (subscriptTail _ _ (Value.ref _) (Value.str _ _)) _ _ _); (refine c_item (knd := strKind _ _) (by k_asm) (DictL.mono (by assumption) (by kcj_all)) (strKind_is _ _ _ _) (by rfl) ?_))))
local macro_rules | `(tactic| x_close) => `(tactic| exact ⟨rfl, _, rfl⟩)
def AH (hh : Option Value) (d u : Nat) : Around := { handled := hh, depth := d, frames := none, guards := none, units := u }
theorem wpAny_ah {α : Type} {M : Model} {A : Around} {d u : Nat} {t : Sem α} {Q : α → Shared → Prop} {E : Value → Shared → Prop} {s : Shared} (h : wpAny M (AH A.handled d u) t Q E s) (hd : A.depth ≤ d) (hu : A.units ≤ u) :
    wpAny M A t Q E s := fun Γ p hΓ => h Γ p ⟨hΓ.1, Nat.le_trans hΓ.2.1 hd, (fun _ e => by cases e), (fun _ e => by cases e), Nat.le_trans hΓ.2.2.2.2 hu⟩
theorem key_run {hh : Option Value} {w : World} {s : Shared} {e D : Addr} {v : Value} {vs : Array Value} {sl : Array (Option Value)} {hs : Int} {tk t : Tok} (X : (hd.heap_39 w.params).In s.heap) (he : s.heap.get? e = some ⟨.ref 62, some D, .fields vs, sl⟩)
   (hD : s.heap.get? D = some { cls := .type "dict", dict := none, data := .dict #[⟨hs, .str (Str.ofString "key") tk, v⟩] 1, slots := #[] }) :
    wpAny (model PW w) (AH hh 500 200) (call (.builtin "BaseException.__getattribute__") [.ref e, .str (Str.ofString "key") t]) (fun r s' => r = v ∧ ∃ tk, s' = { s with toks := tk }) (fun _ _ => False) s := by
  x_run
section
variable {w : World} {E : Value → Shared → Prop} {s : Shared} {h₀ : Heap} {L : Addr} {m : Str → Option Value} {N : Led}
theorem be_bind (self : Value) : bindSpecial (.builtin "BaseException.__getattribute__") self = pure (.builtin "BaseException.__getattribute__", [self]) := by kernel_rfl
theorem get_key {A : Around} {e D : Addr} {cls v : Value} {vs : Array Value} {sl : Array (Option Value)} {hs : Int} {tk : Tok} {expr : Bool} {Q : Value → Shared → Prop} (F : Fr h₀ L s.heap m) (X₀ : (hd.heap_39 w.params).In h₀) (H : News h₀ L s.heap N)
   (he : (e, (⟨cls, some D, .fields vs, sl⟩ : Obj)) ∈ N) (hc : cls = .ref 62) (hD : (D, dictOf [⟨hs, .str (Str.ofString "key") tk, v⟩] 1) ∈ N) (hv : handedIn v = true) (hdp : A.depth ≤ 490) (hun : A.units ≤ 190) (h : ∀ tk, Q v { s with toks := tk }) :
   wpAny (model PW w) A (getAttr (.ref e) (Str.ofString "key") expr) Q E s := by
  subst hc
  have X := X₀.keeps F.keep
  have he' := (H _ he).1
  have hD' := (H _ hD).1
  revert X
  unfold PW
  k_fill
  intro X
  have tE : Looks (model PW w) s.heap (typeOf (.ref e)) (.ref 62) := (Looks.ld he').andThen .now
  have l1 : Looks (model PW w) s.heap (typeLookup (.ref 62) "__getattribute__") (some (.builtin "BaseException.__getattribute__")) := looks_findIn X (by k_is)
  have l2 : Looks (model PW w) s.heap (typeLookup (.ref 62) "__getattr__") none := looks_findIn X (by k_is)
  obtain ⟨hp, g, d, t, os⟩ := s
  unfold getAttr getAttrBy
  refine wpAny_bind (wpAny_mkText (wpAny_holding (wpAny_bind (tE.at (wpAny_bind (l1.at ?_))))))
  show wpAny _ _ (getAttrByItsOwn (.ref e) (.str (Str.ofString "key") t) (.ref 62) (.builtin "BaseException.__getattribute__") true expr) _ _ _
  unfold getAttrByItsOwn hookBefore
  refine wpAny_bind ?_
  rw [if_pos (by rfl)]
  refine l2.at ?_
  refine wpAny_bind (wpAny_attempt (wpAny_holding ?_))
  refine wpAny_rew (show callGetattribute _ _ (.builtin "BaseException.__getattribute__") expr = boundAndCalled (.builtin "BaseException.__getattribute__") (.ref e) (.str (Str.ofString "key") t) by unfold callGetattribute; rw [if_neg (by cases expr <;> decide)]) ?_
  unfold boundAndCalled
  refine wpAny_bind (wpAny_of_eq (be_bind _) ?_)
  refine wpAny_mono (wpAny_ah (key_run (v := v) X he' hD') (by omega) (by omega)) (fun r s' z => ?_) fun _ _ z => z.elim
  obtain ⟨rfl, tk', rfl⟩ := z
  dsimp only
  rw [handedOut_of hv]
  exact wpAny_pure (h _)
end
end Mine
namespace Mine
local macro_rules | `(tactic| k_mem) => `(tactic| assumption)
local macro_rules | `(tactic| walk_at "compareOp In str ref") => `(tactic| (k_here; first
  | (refine c_in (k := Sum.inr _) (knd := ckKind _ _) (by k_asm) (DictL.mono (by assumption) (by kcj_all)) (ck_str _ _ _ _) (by assumption) ?_)
  | (refine c_in (b := true) (knd := strKind _ _) (by k_asm) (DictL.mono (by assumption) (by kcj_all)) (strKind_is _ _ _ _) (by rfl) ?_)
  | (refine c_in (b := false) (knd := strKind _ _) (by k_asm) (DictL.mono (by assumption) (by kcj_all)) (strKind_is _ _ _ _) (by rfl) ?_)))
local macro_rules | `(tactic| walk_at "compareOp NotIn str ref") => `(tactic| (k_here; refine c_notin (k := Sum.inr _) (knd := ckKind _ _) (by k_asm) (DictL.mono (by assumption) (by kcj_all)) (ck_str _ _ _ _) (by assumption) ?_))
local macro_rules | `(tactic| walk_at "compareOp In int ref") => `(tactic| (k_here; refine c_in (k := Sum.inl _) (knd := ckKind _ _) (by k_asm) (DictL.mono (by assumption) (by kcj_all)) (ck_int _ _ _ _) (by assumption) ?_))
local macro_rules | `(tactic| walk_at "compareOp NotIn int ref") => `(tactic| (k_here; refine c_notin (k := Sum.inl _) (knd := ckKind _ _) (by k_asm) (DictL.mono (by assumption) (by kcj_all)) (ck_int _ _ _ _) (by assumption) ?_))
local macro_rules | `(tactic| walk_at "subscriptTail") => `(tactic| (k_here; first
  | ((with_reducible show wpAny _ _ (subscriptTail _ _ (Value.ref _) (Value.int _ _)) _ _ _); (refine c_item (k := Sum.inl _) (knd := ckKind _ _) (by k_asm) (DictL.mono (by assumption) (by kcj_all)) (ck_int _ _ _ _) (by assumption) ?_))
  | ((with_reducible show wpAny _ _ (subscriptTail _ _ (Value.ref _) (Value.str _ _)) _ _ _); (refine c_item (k := Sum.inr _) (knd := ckKind _ _) (by k_asm) (DictL.mono (by assumption) (by kcj_all)) (ck_str _ _ _ _) (by assumption) ?_))
  | ((with_reducible show wpAny _ _ (subscriptTail _ _ (Value.ref _) (Value.str _ _)) _ _ _); (refine c_item (knd := strKind _ _) (by k_asm) (DictL.mono (by assumption) (by kcj_all)) (strKind_is _ _ _ _) (by rfl) ?_))))
section
variable {prog : Program} {w : World} {A : Around} {E : Value → Shared → Prop} {s : Shared} {env : Env} {h₀ : Heap} {x : Str} {body : List PySem.Stmt} {Q : Flow → Shared → Prop}
theorem rest_keep {I : Addr} {lp : Addr × Obj} {vs : List Value} {m₀ : Str → Option Value} {news : Led} (Inv : Nat → Prop) (hlp : lp ∈ news) (hI : ∀ p ∈ news, p.1 < I) (h0 : Inv 0)
   (turn : ∀ i v it h tk, vs[i]? = some v → Inv i → it.cls = .type "list_iterator" → Fr h₀ env.locals h (fun y => if y = x then some v else m₀ y) → News h₀ env.locals h ((I, it) :: news) →
      wpAny (model prog w) A (execs body env) (InvPost h₀ env.locals (fun m' => Inv (i + 1) ∧ ∀ y, y ≠ x → m' y = m₀ y) ((I, it) :: news) { s with heap := h, toks := tk } Q) E { s with heap := h, toks := tk })
   (done : ∀ h tk (u : Option Value), Inv vs.length → Fr h₀ env.locals h (fun y => if y = x then u else m₀ y) → News h₀ env.locals h news → Q .next { s with heap := h, toks := tk }) :
   ListRest prog w A E h₀ env x body Q s I lp vs m₀ news := by
  have main : ∀ (r : List Value) (i : Nat) (m₁ : Str → Option Value), (∀ y, y ≠ x → m₁ y = m₀ y) → vs.drop i = r → i ≤ vs.length → Inv i → ListRest prog w A E h₀ env x body Q s I lp r m₁ news := by
    intro r
    induction r with
    | nil =>
      intro i m₁ hm hd hle hi h tk F N
      have e : m₁ = fun y => if y = x then m₁ x else m₀ y := by
        funext y
        by_cases q : y = x
        · subst q; simp
        · simp [q, hm y q]
      have li : vs.length ≤ i := List.drop_eq_nil_iff.mp hd
      have ei : i = vs.length := Nat.le_antisymm hle li
      rw [ei] at hi
      rw [e] at F
      exact done h tk (m₁ x) hi F N
    | cons v r ih =>
      intro i m₁ hm hd hle hi it h tk hit F N
      have hv : vs[i]? = some v := by
        have := congrArg (·[0]?) hd
        simpa using this
      have hd' : vs.drop (i + 1) = r := by
        have := congrArg (·.drop 1) hd
        simpa [List.drop_drop] using this
      have e : (fun y => if y = x then some v else m₁ y) = fun y => if y = x then some v else m₀ y := by
        funext y
        by_cases q : y = x
        · simp [q]
        · simp [q, hm y q]
      rw [e] at F
      refine wpAny_mono (turn i v it h tk hv hi hit F N) (fun f s₂ p => ?_) fun _ _ z => z
      have fin : InvEnd h₀ env.locals (fun m' => Inv (i + 1) ∧ ∀ y, y ≠ x → m' y = m₀ y) ((I, it) :: news) { s with heap := h, toks := tk } s₂ → UnrEnd h₀ env.locals { s with heap := h, toks := tk } I it (fun m' n' => lp ∈ n' ∧ ListRest prog w A E h₀ env x body Q s I lp r m' n') s₂ := by
        rintro ⟨h', tk', m', news', q, F', N', hn, hI', hm'⟩
        exact ⟨h', tk', m', news, q, F', fun p hp => N' p (hn p hp), fun p hp => Nat.ne_of_lt (hI p hp), hlp, ih (i + 1) m' hm' hd' (List.getElem?_eq_some_iff.mp hv).1 hI'⟩
      cases f with
      | ret v => exact p
      | brk => exact p
      | next => exact fin p
      | cont => exact fin p
  exact main vs 0 m₀ (fun _ _ => rfl) rfl (Nat.zero_le _) h0
end
def Kept (h₀ : Heap) (L : Addr) (m : Str → Option Value) (N : Led) (s : Shared) (Q : Value → Shared → Prop) (P : Led → Addr → Prop) : Prop :=
  ∀ h' tk l own, Fr h₀ L h' m → News h₀ L h' (own ++ N) → P (own ++ N) l → Q (.ref l) { s with heap := h', toks := tk }
def hasK (kvs : List (CKey × Value)) (d : Int) : Bool := (valueAt kvs (.inl d)).isSome || (valueAt kvs kDef).isSome
def wantK (kvs : List (CKey × Value)) (ds : List Int) : Dd := match ds.find? (fun d => !hasK kvs d) with
  | none => .list [.str (Str.ofString "taken"), .bool true]
  | some d => .list [.str (Str.ofString "refused"), .int d]
theorem want_none {kvs : List (CKey × Value)} {ds : List Int} (h : ∀ d ∈ ds, hasK kvs d = true) : wantK kvs ds = .list [.str (Str.ofString "taken"), .bool true] := by
  unfold wantK
  rw [List.find?_eq_none.mpr (fun d hd => by simp [h d hd])]
theorem want_at {kvs : List (CKey × Value)} {ds : List Int} {i : Nat} {d : Int} (hi : ds[i]? = some d) (hj : ∀ j e, j < i → ds[j]? = some e → hasK kvs e = true) (hd : hasK kvs d = false) :
    wantK kvs ds = .list [.str (Str.ofString "refused"), .int d] := by
  unfold wantK
  have : ds.find? (fun d => !hasK kvs d) = some d := by
    rw [List.find?_eq_some_iff_getElem]
    obtain ⟨hl, he⟩ := List.getElem?_eq_some_iff.mp hi
    refine ⟨by simp [hd], i, hl, he, fun j hj' => ?_⟩
    have := hj j (ds[j]'(Nat.lt_trans hj' hl)) hj' (List.getElem?_eq_getElem _)
    simp [this]
  rw [this]
/-- the walk stops here -/
def HoldRest (P : Prop) : Prop := P
theorem hold_iter {prog : Program} {w : World} {A : Around} {E : Value → Shared → Prop} {s : Shared} {env : Env} {h₀ : Heap} {x : Str} {body : List PySem.Stmt} {Q : Flow → Shared → Prop} {ax : Addr} {vs : List Value} {n : Nat} {m₀ : Str → Option Value} {news : Led}
    (hh : A.handled = none) (F : Fr h₀ env.locals s.heap m₀) (N : News h₀ env.locals s.heap news) (hm : (ax, listOf vs.toArray n) ∈ news)
    (rest₀ : ∀ I : Addr, (∀ p ∈ news, p.1 < I) → HoldRest (ListRest prog w A E h₀ env x body Q s I (ax, listOf vs.toArray n) vs m₀ news)) :
    wpAny (model prog w) A (pyIter (.ref ax)) (fun it s₂ => LoopAtV prog w A h₀ env x body Q E it s₂) E s := iter_listUnr hh F N hm rfl rfl rest₀
theorem hold_range {prog : Program} {w : World} {A : Around} {E : Value → Shared → Prop} {s : Shared} {env : Env} {h₀ : Heap} {x : Str} {body : List PySem.Stmt} {Q : Flow → Shared → Prop} {r : Addr} {a₀ b₀ : Int} {t₀ u₀ v₀ : Tok} {n : Nat} {m₀ : Str → Option Value} {news : Led}
    (hh : A.handled = none) (hr : IsRange s.heap r a₀ b₀ 1 t₀ u₀ v₀) (hsmall : Builtin.Range.small a₀ b₀ 1 = true) (hn : Builtin.Range.rangeSize a₀ b₀ 1 = (n : Int)) (F : Fr h₀ env.locals s.heap m₀) (N : News h₀ env.locals s.heap news)
    (rest₀ : ∀ I : Addr, (∀ p ∈ news, p.1 < I) → HoldRest (RangeRest prog w A E h₀ env x body Q s I a₀ n n 0 m₀ news)) :
    wpAny (model prog w) A (pyIter (.ref r)) (fun it s₂ => LoopAtV prog w A h₀ env x body Q E it s₂) E s := iter_rangeUnr hh hr hsmall hn F N rest₀
end Mine
namespace Mine
local macro_rules | `(tactic| k_mem) => `(tactic| assumption)
local macro_rules | `(tactic| walk_at "compareOp In str ref") => `(tactic| (k_here; first
  | (refine c_in (k := Sum.inr _) (knd := ckKind _ _) (by k_asm) (DictL.mono (by assumption) (by kcj_all)) (ck_str _ _ _ _) (by assumption) ?_)
  | (refine c_in (b := true) (knd := strKind _ _) (by k_asm) (DictL.mono (by assumption) (by kcj_all)) (strKind_is _ _ _ _) (by rfl) ?_)
  | (refine c_in (b := false) (knd := strKind _ _) (by k_asm) (DictL.mono (by assumption) (by kcj_all)) (strKind_is _ _ _ _) (by rfl) ?_)))
local macro_rules | `(tactic| walk_at "compareOp NotIn str ref") => `(tactic| (k_here; refine c_notin (k := Sum.inr _) (knd := ckKind _ _) (by k_asm) (DictL.mono (by assumption) (by kcj_all)) (ck_str _ _ _ _) (by assumption) ?_))
local macro_rules | `(tactic| walk_at "compareOp In int ref") => `(tactic| (k_here; refine c_in (k := Sum.inl _) (knd := ckKind _ _) (by k_asm) (DictL.mono (by assumption) (by kcj_all)) (ck_int _ _ _ _) (by assumption) ?_))
local macro_rules | `(tactic| walk_at "compareOp NotIn int ref") => `(tactic| (k_here; refine c_notin (k := Sum.inl _) (knd := ckKind _ _) (by k_asm) (DictL.mono (by assumption) (by kcj_all)) (ck_int _ _ _ _) (by assumption) ?_))
local macro_rules | `(tactic| walk_at "subscriptTail") => `(tactic| (k_here; first
  | ((with_reducible show wpAny _ _ (subscriptTail _ _ (Value.ref _) (Value.int _ _)) _ _ _); (refine c_item (k := Sum.inl _) (knd := ckKind _ _) (by k_asm) (DictL.mono (by assumption) (by kcj_all)) (ck_int _ _ _ _) (by assumption) ?_))
  | ((with_reducible show wpAny _ _ (subscriptTail _ _ (Value.ref _) (Value.str _ _)) _ _ _); (refine c_item (k := Sum.inr _) (knd := ckKind _ _) (by k_asm) (DictL.mono (by assumption) (by kcj_all)) (ck_str _ _ _ _) (by assumption) ?_))
  | ((with_reducible show wpAny _ _ (subscriptTail _ _ (Value.ref _) (Value.str _ _)) _ _ _); (refine c_item (knd := strKind _ _) (by k_asm) (DictL.mono (by assumption) (by kcj_all)) (strKind_is _ _ _ _) (by rfl) ?_))))
section
variable {prog : Program} {w : World} {A₀ A : Around} {s : Shared} {base h₀ g₀ : Heap} {outer : List Env} {L a : Addr} {m : Str → Option Value} {cn : Str} {cs : Scope} {ccd : Value} {cl : List (Str × Addr)} {news : List (Addr × Obj)} {K : Frag} {p : Program} {loose : List Str} {mean : ExcName → Option Value} {mg mb : Str → Option Value}
    {R : Result → Shared → Prop} {name qual : Str} {params : Arguments} {body : List PySem.Stmt} {scope : Scope} {dV kV doc pm cdv ct oc : Value} {an od : Option Addr} {osl : Array (Option Value)} {f : Addr} {args : Args} {binds : List (Str × Value)}
theorem below_pushX (B : Below A₀ base outer h₀) {h : Heap} (F : Fr h₀ L h m) (hA : A.frames = some (envX cn cs L a ccd cl :: outer)) (hk : cs.kind = .function) : Below A base (envX cn cs L a ccd cl :: outer) h := by
  have hnew : base.get? L = none := by
    cases hq : base.get? L with
    | none => rfl
    | some o => exact absurd (Nat.lt_of_lt_of_le (Heap.lt_size (B.stays L o hq)) F.above) (Nat.lt_irrefl _)
  refine ⟨hA, fun b o e => F.keep b o (B.stays b o e), ?_⟩
  exact .cons (by show cs.kind ≠ .module; rw [hk]; decide) rfl F.ns hnew (B.frames.of_keeps fun b o e _ => ⟨o, F.keep b o e, rfl⟩)
theorem enterX (B : Below A₀ base outer h₀) (F : Fr h₀ L s.heap m) (N : News h₀ L s.heap news) (hA : A.frames = some (envX cn cs L a ccd cl :: outer)) (hck : cs.kind = .function) :
    ∃ oL es ep, (hideAll s.heap (news.map (·.1))).get? L = some oL ∧ oL.data = .dict es ep ∧ (∀ h', h'.get? L = some oL → Heap.Ns h' L m) ∧ (∀ (sl : Array (Option Value)) h', h'.get? L = some { oL with slots := sl } → Heap.Ns h' L m) ∧
      h₀.StaysIn (hideAll s.heap (news.map (·.1))) ∧ Below A base (envX cn cs L a ccd cl :: outer) (hideAll s.heap (news.map (·.1))) := by
  have nm : ∀ b o, h₀.get? b = some o → b ∉ news.map (·.1) := fun b o e q => by
    obtain ⟨p, hp, rfl⟩ := List.mem_map.mp q
    rw [(N p hp).2.2] at e; cases e
  have st : h₀.StaysIn (hideAll s.heap (news.map (·.1))) := fun b o e => hideAll_get _ (F.keep b o e) (nm b o e)
  obtain ⟨oL, es, ep, hL, hLd, hLk, hLf⟩ := F.ns
  have nL : L ∉ news.map (·.1) := fun q => by
    obtain ⟨p, hp, e⟩ := List.mem_map.mp q
    exact (N p hp).2.1 e
  have hLg := hideAll_get (news.map (·.1)) hL nL
  have B₁ := below_pushX B F hA hck
  exact ⟨oL, es, ep, hLg, hLd, fun h' e => ⟨oL, es, ep, e, hLd, hLk, hLf⟩, fun sl h' e => ⟨_, es, ep, e, hLd, hLk, hLf⟩, st, ⟨hA, fun b o e => st b o (B.stays b o e), funFrames_hideAll B₁.frames fun env he b hb hf => by
    cases he with
    | head => exact nL ((Option.some.inj hf : L = b) ▸ hb)
    | tail _ he =>
      obtain ⟨L₁, o₁, hf₁, ho₁⟩ := funFrames_in B.frames env he
      rw [hf₁] at hf
      exact nm L₁ o₁ ho₁ ((Option.some.inj hf : L₁ = b) ▸ hb)⟩⟩
theorem memX {b : Addr} (hm : b ∈ [envX cn cs L a ccd cl].filterMap (·.frame)) : b = L := by
  obtain ⟨env, he, hf⟩ := List.mem_filterMap.mp hm
  rcases List.mem_cons.mp he with rfl | he
  · exact (Option.some.inj hf).symm
  · exact nomatch he
theorem code_defSX (B : Below A₀ base [] h₀) (F : Fr h₀ L s.heap m) (X₀ : K.In h₀) (N : News h₀ L s.heap news) (T : Top p loose mean mg mb h₀) (hA : A.frames = some [envX cn cs L a ccd cl])
    (ho : K.lookup f = some ⟨oc, od, .func (fnOf name qual params body scope dV kV doc pm an cdv ct), osl⟩) (hcd : codeIn K cdv qual = true) (hroom : A.depth < recursionLimit)
    (hbind : BindsTo s (fnOf name qual params body scope dV kV doc pm an cdv ct) args binds) (hloc : ∀ y ∈ binds, scope.names.lookup y.1 = some .local)
    (h : ∀ g L' h₁, Fr h₀ L g m → Fr g L' h₁ (fun y => binds.reverse.lookup y) → News g L' h₁ news → Below A base [envX cn cs L a ccd cl] g → K.In g → Top p loose mean mg mb g → KtsDicts ([envX cn cs L a ccd cl].filterMap (·.frame)) g →
      wpAny (model prog w) (A.deeper (envOf qual scope L' f cdv)) (execs body (envOf qual scope L' f cdv))
        (fun fl s' => LeaveS0 ([envX cn cs L a ccd cl].filterMap (·.frame)) h₀ L m g R (match fl with | .ret v => v | _ => .none) s')
        (fun e s' => wpAny (model prog w) (A.deeper (envOf qual scope L' f cdv)) (leaving (envOf qual scope L' f cdv) e) (fun _ s'' => R (.error e) s'') (fun e' s'' => R (.error e') s'') s')
        { s with heap := h₁, toks := s.toks + binds.length })
    (hck : cs.kind = .function) (hco : scope.isCoroutine = false) (hgen : scope.isGenerator = false) (hk : scope.kind = .function)
    (hcell : ∀ x ∈ scope.names, x.2 ≠ .cell) : codeAny (model prog w) A (.call (.ref f) args) R s := by
  have X := X₀.keeps F.keep
  refine codeAny_call_def (fd := fnOf name qual params body scope dV kV doc pm an cdv ct) (body := body) (binds := binds) hroom (X _ _ ho) rfl (T.nolimit.keeps F.keep) (codeRec_of X hcd) rfl hbind hcell hloc (fun h₁ hns hk₁ => ?_) hco hgen hk
  obtain ⟨oL, es, ep, hLg, hLd, hN, hNs, st, B₂⟩ := enterX B F N hA hck
  refine wpAny_mono (h _ s.heap.objs.size h₁ ⟨hN _ hLg, st, F.above⟩ ⟨hns, fun b o e => hk₁ b o (of_hideAll _ e), Nat.le_of_eq (hideAll_size _ _)⟩
    (fun p hp => ⟨hk₁ _ _ (N p hp).1, Nat.ne_of_lt (Heap.lt_size (N p hp).1), hideAll_none _ (List.mem_map_of_mem hp)⟩) B₂ (X₀.keeps st) (T.keeps st) (fun b hb => by
      rw [memX hb]; exact ⟨oL, es, ep, hLg, hLd⟩)) (fun fl s' hl => ?_) fun _ _ y => y
  obtain ⟨g', L', m', news', T', F', N', k⟩ := hl
  have nL₀ : h₀.get? L = none := kts_self F
  obtain ⟨sl, hs⟩ := T'.up hLg
  refine k ⟨hNs sl _ (F'.keep _ _ hs), fun b o e => F'.keep b o (T'.other b o (st b o e) (fun q => by
    rw [memX q, nL₀] at e
    cases e)), F.above⟩ fun p hp => ⟨(N' p hp).1, fun q => ?_, ?_⟩
  · have := (N' p hp).2.2; rw [q, hs] at this; cases this
  · cases q : h₀.get? p.1 with
    | none => rfl
    | some o =>
      obtain ⟨sl', hs'⟩ := T'.up (st _ _ q)
      have := (N' p hp).2.2
      rw [hs'] at this
      cases this
end
end Mine
namespace Mine
theorem off_FEfound : True := by
  w_top off
  trivial
local macro_rules | `(tactic| k_mem) => `(tactic| assumption)
local macro_rules | `(tactic| walk_at "compareOp In str ref") => `(tactic| (k_here; first
  | (refine c_in (k := Sum.inr _) (knd := ckKind _ _) (by k_asm) (DictL.mono (by assumption) (by kcj_all)) (ck_str _ _ _ _) (by assumption) ?_)
  | (refine c_in (b := true) (knd := strKind _ _) (by k_asm) (DictL.mono (by assumption) (by kcj_all)) (strKind_is _ _ _ _) (by rfl) ?_)
  | (refine c_in (b := false) (knd := strKind _ _) (by k_asm) (DictL.mono (by assumption) (by kcj_all)) (strKind_is _ _ _ _) (by rfl) ?_)))
local macro_rules | `(tactic| walk_at "compareOp NotIn str ref") => `(tactic| (k_here; refine c_notin (k := Sum.inr _) (knd := ckKind _ _) (by k_asm) (DictL.mono (by assumption) (by kcj_all)) (ck_str _ _ _ _) (by assumption) ?_))
local macro_rules | `(tactic| walk_at "compareOp In int ref") => `(tactic| (k_here; refine c_in (k := Sum.inl _) (knd := ckKind _ _) (by k_asm) (DictL.mono (by assumption) (by kcj_all)) (ck_int _ _ _ _) (by assumption) ?_))
local macro_rules | `(tactic| walk_at "compareOp NotIn int ref") => `(tactic| (k_here; refine c_notin (k := Sum.inl _) (knd := ckKind _ _) (by k_asm) (DictL.mono (by assumption) (by kcj_all)) (ck_int _ _ _ _) (by assumption) ?_))
local macro_rules | `(tactic| walk_at "subscriptTail") => `(tactic| (k_here; first
  | ((with_reducible show wpAny _ _ (subscriptTail _ _ (Value.ref _) (Value.int _ _)) _ _ _); (refine c_item (k := Sum.inl _) (knd := ckKind _ _) (by k_asm) (DictL.mono (by assumption) (by kcj_all)) (ck_int _ _ _ _) (by assumption) ?_))
  | ((with_reducible show wpAny _ _ (subscriptTail _ _ (Value.ref _) (Value.str _ _)) _ _ _); (refine c_item (k := Sum.inr _) (knd := ckKind _ _) (by k_asm) (DictL.mono (by assumption) (by kcj_all)) (ck_str _ _ _ _) (by assumption) ?_))
  | ((with_reducible show wpAny _ _ (subscriptTail _ _ (Value.ref _) (Value.str _ _)) _ _ _); (refine c_item (knd := strKind _ _) (by k_asm) (DictL.mono (by assumption) (by kcj_all)) (strKind_is _ _ _ _) (by rfl) ?_))))
local macro_rules | `(tactic| walk_at "exec Raise some none") => `(tactic| ((with_reducible show wpAny _ _ (exec (PySem.Stmt.Raise (some (PySem.Expr.Call (PySem.Expr.Name (Str.ofString "ConfigError") _) _ _ _)) none _) _) _ _ _); refine Raise_D rfl ?_))
local macro_rules | `(tactic| walk_at "call ref") => `(tactic| (k_here; (with_reducible show wpAny _ _ (PySem.call (Value.ref 62) _ _) (RaisableD _) _ _); k_dflt (refine' raise_CE ?F ?X ?H ?T rfl ?d ?u ?kw ?hc ?_; (case F => k_asm); (case X => k_asm); (case H => k_asm); (case T => k_asm); (case d => (dsimp only [Around.deeper]; omega)); (case u => (dsimp only [Around.deeper]; omega)); (case kw => first | exact .inl rfl | exact .inr ⟨rfl, rfl⟩); (case hc => kts_isx); k_whole); intro h' tk' e' D' made; (try dsimp only)))
local macro_rules | `(tactic| walk_at "leaving ref") => `(tactic| (k_here; refine' leave_D ?k1 ?k0 ?k2 ?k3 ?_; (case k0 => assumption); (case k2 => assumption); (case k1 => assumption); (case k3 => k_asm); k_whole; intro h' hs' tk' R' kd' U'; (try dsimp only at R' kd' U' ⊢)))
local macro_rules | `(tactic| walk_at "noteFrame ref") => `(tactic| (k_here; (rename RaisedSN _ _ _ _ _ _ _ => rsX); k_dflt (refine' caught_D ?R ?kd ?F ?K ?U ?XB ?TB ?D ?T0 ?ex ?q ?_; (case R => assumption); (case kd => assumption); (case F => assumption); (case K => assumption); (case U => assumption); (case XB => assumption); (case TB => assumption); (case D => assumption); (case T0 => first | assumption | exact KtsTurn.refl); (case ex => k_is); (case q => kts_isx); k_whole); intro h' g' cls' vs' sl' tk' T' F' N' C' K' X' P' D'; (try k_lift K'); (try k_sweep)))
local macro_rules | `(tactic| walk_at "binaryOp Mod str int") => `(tactic| (k_here; refine mod_hex (by assumption) ?_; intro x' t' k'; (try dsimp only)))
local macro_rules | `(tactic| walk_at "getAttr ref") => `(tactic| (k_here; (with_reducible show wpAny _ _ (getAttr (Value.ref _) (Str.ofString "key") _) _ _ _); k_dflt (refine' get_key ?F ?X ?H ?he ?hc ?hD ?hv ?d ?u ?_; (case F => k_asm); (case X => k_asm); (case H => k_asm); (case he => exact .head _); (case hc => assumption); (case hD => exact .tail _ (.head _)); (case hv => rfl); (case d => (dsimp only [Around.deeper, Around.mark]; omega)); (case u => (dsimp only [Around.deeper, Around.mark]; omega)); k_whole); intro tk'; (try dsimp only)))
local macro_rules | `(tactic| walk_at "exec For Name Name cons nil") => `(tactic| (k_here; (rename Fr _ _ _ _ => lF'); (with_unfolding_all refine' For_invVF lF' ?k1 ?k2 ?_; (case k1 => exact rfl); (case k2 => exact rfl); k_whole)))
local macro_rules | `(tactic| walk_at "pyIter ref") => `(tactic| (k_here; (with_reducible show wpAny _ _ (pyIter (Value.ref _)) (fun it s₂ => LoopAtV _ _ _ _ _ _ _ _ _ it s₂) _ _); k_dflt (refine hold_iter rfl (by assumption) (by assumption) (by first | assumption | exact .head _) ?_); intro I' hI'))

theorem found_no {c : Addr} {kvs : List (CKey × Value)} {d : Int} {t : Tok} {w : World} {mean : ExcName → Option Value} {mg mb : Str → Option Value} {N : Led}
  {un : Nat} {gd : Option (List Code)} {cn : Str} {cs : Scope} {a : Addr} {ccd : Value} {cl : List (Str × Addr)} {A₀ : Around} {base h₀ : Heap} {L : Addr} {m : Str → Option Value} {s : Shared} {Q E : Value → Shared → Prop}
  (B : Below A₀ base [] h₀) (F : Fr h₀ L s.heap m) (X : (hd.heap_39 w.params).In h₀) (H : News h₀ L s.heap N) (T : Top hd.view_39 LO mean mg mb h₀) (hk : cs.kind = .function) (XB : (hd.heap_39 w.params).In base) (TB : Top hd.view_39 LO mean mg mb base) (hun : un ≤ 100)
  (C : DictL (cK w) N c kvs) (hb : (valueAt kvs (.inl d)).isSome = false) (hd7 : d ∈ NAMES) (hb2 : (valueAt kvs kDef).isSome = false)
  (hret : Kept h₀ L m N s Q fun N' l => Rep w N' (.ref l) (.list [.str (Str.ofString "refused"), .int d])) :
  wpAny (model PW w) (ktrTop 302 un gd cn cs L a ccd cl []) (call (.ref 232) [.int d t, .ref c]) Q E s := by
  revert X H XB
  unfold PW
  k_fill
  intro X H XB
  refine wpAny_call ?_
  k_dflt ((refine' code_defSX ?k1 ?k2 ?k3 ?k4 ?k5 ?kA ?k6 ?k7 ?k8 ?k9 ?kB ?_ ?cK ?c2 ?c3 ?c4 ?c5; (case kA => exact rfl); (case k2 => k_asm); (case k1 => k_asm); (case k3 => k_asm); (case k4 => k_asm); (case k5 => k_asm); (case k6 => k_is); (case k7 => k_is); (case k8 => k_room); (case k9 => exact BindsTo.of_eq rfl); (case kB => exact locs rfl); (case cK => assumption); (case c2 => exact rfl); (case c3 => exact rfl); (case c4 => exact rfl); (case c5 => decide); k_whole; intro g' L' h' FG' F' N' B' X' T' D'; (try dsimp only); (try k_lift B'); (try k_fold)))
  k_steps
  exact hret _ _ _ [_, _, _] (by assumption) (by assumption) (.list (.head _) (.cons (.str _ _) (.cons (.int _ _) .nil)))
theorem found_in {c : Addr} {kvs : List (CKey × Value)} {d : Int} {t : Tok} {v : Value} {w : World} {mean : ExcName → Option Value} {mg mb : Str → Option Value} {N : Led}
  {un : Nat} {gd : Option (List Code)} {cn : Str} {cs : Scope} {a : Addr} {ccd : Value} {cl : List (Str × Addr)} {A₀ : Around} {base h₀ : Heap} {L : Addr} {m : Str → Option Value} {s : Shared} {Q E : Value → Shared → Prop}
  (B : Below A₀ base [] h₀) (F : Fr h₀ L s.heap m) (X : (hd.heap_39 w.params).In h₀) (H : News h₀ L s.heap N) (T : Top hd.view_39 LO mean mg mb h₀) (hk : cs.kind = .function) (XB : (hd.heap_39 w.params).In base) (TB : Top hd.view_39 LO mean mg mb base) (hun : un ≤ 100)
  (C : DictL (cK w) N c kvs) (hv : valueAt kvs (.inl d) = some v) (hb : (valueAt kvs (.inl d)).isSome = true)
  (hret : Kept h₀ L m N s Q fun N' l => (l, listOf #[v] 0) ∈ N') :
  wpAny (model PW w) (ktrTop 302 un gd cn cs L a ccd cl []) (call (.ref 232) [.int d t, .ref c]) Q E s := by
  revert X H XB
  unfold PW
  k_fill
  intro X H XB
  refine wpAny_call ?_
  k_dflt ((refine' code_defSX ?k1 ?k2 ?k3 ?k4 ?k5 ?kA ?k6 ?k7 ?k8 ?k9 ?kB ?_ ?cK ?c2 ?c3 ?c4 ?c5; (case kA => exact rfl); (case k2 => k_asm); (case k1 => k_asm); (case k3 => k_asm); (case k4 => k_asm); (case k5 => k_asm); (case k6 => k_is); (case k7 => k_is); (case k8 => k_room); (case k9 => exact BindsTo.of_eq rfl); (case kB => exact locs rfl); (case cK => assumption); (case c2 => exact rfl); (case c3 => exact rfl); (case c4 => exact rfl); (case c5 => decide); k_whole; intro g' L' h' FG' F' N' B' X' T' D'; (try dsimp only); (try k_lift B'); (try k_fold)))
  k_steps
  exact hret _ _ _ [_] (by assumption) (by assumption) (.head _)
theorem found_def {c : Addr} {kvs : List (CKey × Value)} {d : Int} {t : Tok} {v : Value} {w : World} {mean : ExcName → Option Value} {mg mb : Str → Option Value} {N : Led}
  {un : Nat} {gd : Option (List Code)} {cn : Str} {cs : Scope} {a : Addr} {ccd : Value} {cl : List (Str × Addr)} {A₀ : Around} {base h₀ : Heap} {L : Addr} {m : Str → Option Value} {s : Shared} {Q E : Value → Shared → Prop}
  (B : Below A₀ base [] h₀) (F : Fr h₀ L s.heap m) (X : (hd.heap_39 w.params).In h₀) (H : News h₀ L s.heap N) (T : Top hd.view_39 LO mean mg mb h₀) (hk : cs.kind = .function) (XB : (hd.heap_39 w.params).In base) (TB : Top hd.view_39 LO mean mg mb base) (hun : un ≤ 100)
  (C : DictL (cK w) N c kvs) (hb : (valueAt kvs (.inl d)).isSome = false) (hv : valueAt kvs kDef = some v) (hb2 : (valueAt kvs kDef).isSome = true)
  (hret : Kept h₀ L m N s Q fun N' l => (l, listOf #[v] 0) ∈ N') :
  wpAny (model PW w) (ktrTop 302 un gd cn cs L a ccd cl []) (call (.ref 232) [.int d t, .ref c]) Q E s := by
  revert X H XB
  unfold PW
  k_fill
  intro X H XB
  refine wpAny_call ?_
  k_dflt ((refine' code_defSX ?k1 ?k2 ?k3 ?k4 ?k5 ?kA ?k6 ?k7 ?k8 ?k9 ?kB ?_ ?cK ?c2 ?c3 ?c4 ?c5; (case kA => exact rfl); (case k2 => k_asm); (case k1 => k_asm); (case k3 => k_asm); (case k4 => k_asm); (case k5 => k_asm); (case k6 => k_is); (case k7 => k_is); (case k8 => k_room); (case k9 => exact BindsTo.of_eq rfl); (case kB => exact locs rfl); (case cK => assumption); (case c2 => exact rfl); (case c3 => exact rfl); (case c4 => exact rfl); (case c5 => decide); k_whole; intro g' L' h' FG' F' N' B' X' T' D'; (try dsimp only); (try k_lift B'); (try k_fold)))
  k_steps
  exact hret _ _ _ [_] (by assumption) (by assumption) (.head _)
end Mine
namespace Mine
local macro_rules | `(tactic| walk_at "zz0") => `(tactic| fail "zz")
theorem off_FEchk : True := by
  w_top off
  trivial
local macro_rules | `(tactic| k_mem) => `(tactic| assumption)
local macro_rules | `(tactic| walk_at "compareOp In str ref") => `(tactic| (k_here; first
  | (refine c_in (k := Sum.inr _) (knd := ckKind _ _) (by k_asm) (DictL.mono (by assumption) (by kcj_all)) (ck_str _ _ _ _) (by assumption) ?_)
  | (refine c_in (b := true) (knd := strKind _ _) (by k_asm) (DictL.mono (by assumption) (by kcj_all)) (strKind_is _ _ _ _) (by rfl) ?_)
  | (refine c_in (b := false) (knd := strKind _ _) (by k_asm) (DictL.mono (by assumption) (by kcj_all)) (strKind_is _ _ _ _) (by rfl) ?_)))
local macro_rules | `(tactic| walk_at "compareOp NotIn str ref") => `(tactic| (k_here; refine c_notin (k := Sum.inr _) (knd := ckKind _ _) (by k_asm) (DictL.mono (by assumption) (by kcj_all)) (ck_str _ _ _ _) (by assumption) ?_))
local macro_rules | `(tactic| walk_at "compareOp In int ref") => `(tactic| (k_here; refine c_in (k := Sum.inl _) (knd := ckKind _ _) (by k_asm) (DictL.mono (by assumption) (by kcj_all)) (ck_int _ _ _ _) (by assumption) ?_))
local macro_rules | `(tactic| walk_at "compareOp NotIn int ref") => `(tactic| (k_here; refine c_notin (k := Sum.inl _) (knd := ckKind _ _) (by k_asm) (DictL.mono (by assumption) (by kcj_all)) (ck_int _ _ _ _) (by assumption) ?_))
local macro_rules | `(tactic| walk_at "subscriptTail") => `(tactic| (k_here; first
  | ((with_reducible show wpAny _ _ (subscriptTail _ _ (Value.ref _) (Value.int _ _)) _ _ _); (refine c_item (k := Sum.inl _) (knd := ckKind _ _) (by k_asm) (DictL.mono (by assumption) (by kcj_all)) (ck_int _ _ _ _) (by assumption) ?_))
  | ((with_reducible show wpAny _ _ (subscriptTail _ _ (Value.ref _) (Value.str _ _)) _ _ _); (refine c_item (k := Sum.inr _) (knd := ckKind _ _) (by k_asm) (DictL.mono (by assumption) (by kcj_all)) (ck_str _ _ _ _) (by assumption) ?_))
  | ((with_reducible show wpAny _ _ (subscriptTail _ _ (Value.ref _) (Value.str _ _)) _ _ _); (refine c_item (knd := strKind _ _) (by k_asm) (DictL.mono (by assumption) (by kcj_all)) (strKind_is _ _ _ _) (by rfl) ?_))))
local macro_rules | `(tactic| walk_at "exec Raise some none") => `(tactic| ((with_reducible show wpAny _ _ (exec (PySem.Stmt.Raise (some (PySem.Expr.Call (PySem.Expr.Name (Str.ofString "ConfigError") _) _ _ _)) none _) _) _ _ _); refine Raise_D rfl ?_))
local macro_rules | `(tactic| walk_at "call ref") => `(tactic| (k_here; (with_reducible show wpAny _ _ (PySem.call (Value.ref 62) _ _) (RaisableD _) _ _); k_dflt (refine' raise_CE ?F ?X ?H ?T rfl ?d ?u ?kw ?hc ?_; (case F => k_asm); (case X => k_asm); (case H => k_asm); (case T => k_asm); (case d => (dsimp only [Around.deeper]; omega)); (case u => (dsimp only [Around.deeper]; omega)); (case kw => first | exact .inl rfl | exact .inr ⟨rfl, rfl⟩); (case hc => kts_isx); k_whole); intro h' tk' e' D' made; (try dsimp only)))
local macro_rules | `(tactic| walk_at "leaving ref") => `(tactic| (k_here; refine' leave_D ?k1 ?k0 ?k2 ?k3 ?_; (case k0 => assumption); (case k2 => assumption); (case k1 => assumption); (case k3 => k_asm); k_whole; intro h' hs' tk' R' kd' U'; (try dsimp only at R' kd' U' ⊢)))
local macro_rules | `(tactic| walk_at "noteFrame ref") => `(tactic| (k_here; (rename RaisedSN _ _ _ _ _ _ _ => rsX); k_dflt (refine' caught_D ?R ?kd ?F ?K ?U ?XB ?TB ?D ?T0 ?ex ?q ?_; (case R => assumption); (case kd => assumption); (case F => assumption); (case K => assumption); (case U => assumption); (case XB => assumption); (case TB => assumption); (case D => assumption); (case T0 => first | assumption | exact KtsTurn.refl); (case ex => k_is); (case q => kts_isx); k_whole); intro h' g' cls' vs' sl' tk' T' F' N' C' K' X' P' D'; (try k_lift K'); (try k_sweep)))
local macro_rules | `(tactic| walk_at "binaryOp Mod str int") => `(tactic| (k_here; refine mod_hex (by assumption) ?_; intro x' t' k'; (try dsimp only)))
local macro_rules | `(tactic| walk_at "getAttr ref") => `(tactic| (k_here; (with_reducible show wpAny _ _ (getAttr (Value.ref _) (Str.ofString "key") _) _ _ _); k_dflt (refine' get_key ?F ?X ?H ?he ?hc ?hD ?hv ?d ?u ?_; (case F => k_asm); (case X => k_asm); (case H => k_asm); (case he => exact .head _); (case hc => assumption); (case hD => exact .tail _ (.head _)); (case hv => rfl); (case d => (dsimp only [Around.deeper, Around.mark]; omega)); (case u => (dsimp only [Around.deeper, Around.mark]; omega)); k_whole); intro tk'; (try dsimp only)))
local macro_rules | `(tactic| walk_at "exec For Name Name cons nil") => `(tactic| (k_here; (rename Fr _ _ _ _ => lF'); (with_unfolding_all refine' For_invVF lF' ?k1 ?k2 ?_; (case k1 => exact rfl); (case k2 => exact rfl); k_whole)))
local macro_rules | `(tactic| walk_at "pyIter ref") => `(tactic| (k_here; (with_reducible show wpAny _ _ (pyIter (Value.ref _)) (fun it s₂ => LoopAtV _ _ _ _ _ _ _ _ _ it s₂) _ _); k_dflt (refine hold_iter rfl (by assumption) (by assumption) (by first | assumption | exact .head _) ?_); intro I' hI'))

theorem chk_none {c : Addr} {d : Int} {t : Tok} {w : World} {mean : ExcName → Option Value} {mg mb : Str → Option Value} {N : Led}
  {un : Nat} {gd : Option (List Code)} {cn : Str} {cs : Scope} {a : Addr} {ccd : Value} {cl : List (Str × Addr)} {A₀ : Around} {base h₀ : Heap} {L : Addr} {m : Str → Option Value} {s : Shared} {Q E : Value → Shared → Prop}
  (B : Below A₀ base [] h₀) (F : Fr h₀ L s.heap m) (X : (hd.heap_39 w.params).In h₀) (H : News h₀ L s.heap N) (T : Top hd.view_39 LO mean mg mb h₀) (hk : cs.kind = .function) (XB : (hd.heap_39 w.params).In base) (TB : Top hd.view_39 LO mean mg mb base) (hun : un ≤ 100)
  (hret : Kept h₀ L m N s Q fun N' l => ∃ x tx ty, (l, listOf #[.str (Str.ofString "refused") tx, .str x ty] 0) ∈ N') :
  wpAny (model PW w) (ktrTop 302 un gd cn cs L a ccd cl []) (call (.ref 225) [.int d t, .none, .ref c]) Q E s := by
  revert X H XB
  unfold PW
  k_fill
  intro X H XB
  refine wpAny_call ?_
  k_dflt ((refine' code_defSX ?k1 ?k2 ?k3 ?k4 ?k5 ?kA ?k6 ?k7 ?k8 ?k9 ?kB ?_ ?cK ?c2 ?c3 ?c4 ?c5; (case kA => exact rfl); (case k2 => k_asm); (case k1 => k_asm); (case k3 => k_asm); (case k4 => k_asm); (case k5 => k_asm); (case k6 => k_is); (case k7 => k_is); (case k8 => k_room); (case k9 => exact BindsTo.of_eq rfl); (case kB => exact locs rfl); (case cK => assumption); (case c2 => exact rfl); (case c3 => exact rfl); (case c4 => exact rfl); (case c5 => decide); k_whole; intro g' L' h' FG' F' N' B' X' T' D'; (try dsimp only); (try k_lift B'); (try k_fold)))
  k_steps
  exact hret _ _ _ [_, _, _] (by assumption) (by assumption) ⟨_, _, _, .head _⟩
theorem chk_list {c l : Addr} {vs : List Value} {n0 : Nat} {ds : List Int} {kvs : List (CKey × Value)} {w : World} {mean : ExcName → Option Value} {mg mb : Str → Option Value} {N : Led}
  {un : Nat} {gd : Option (List Code)} {cn : Str} {cs : Scope} {a : Addr} {ccd : Value} {cl : List (Str × Addr)} {A₀ : Around} {base h₀ : Heap} {L : Addr} {m : Str → Option Value} {s : Shared} {Q E : Value → Shared → Prop}
  (B : Below A₀ base [] h₀) (F : Fr h₀ L s.heap m) (X : (hd.heap_39 w.params).In h₀) (H : News h₀ L s.heap N) (T : Top hd.view_39 LO mean mg mb h₀) (hk : cs.kind = .function) (XB : (hd.heap_39 w.params).In base) (TB : Top hd.view_39 LO mean mg mb base) (hun : un ≤ 100)
  (hl : (l, listOf vs.toArray n0) ∈ N) (hi : IntsAre vs ds) (hds : ∀ d ∈ ds, d ∈ NAMES)
  (C : DictL (cK w) N c kvs) (hbox : (valueAt kvs (.inr (Str.ofString "data_identifiers"))).isSome = false)
  (hret : Kept h₀ L m N s Q fun N' l => Rep w N' (.ref l) (wantK kvs ds)) :
  wpAny (model PW w) (ktrTop 302 un gd cn cs L a ccd cl []) (call (.ref 225) [.ref l, .ref c, .ref c]) Q E s := by
  revert X H XB
  unfold PW
  k_fill
  intro X H XB
  refine wpAny_call ?_
  k_dflt ((refine' code_defSX ?k1 ?k2 ?k3 ?k4 ?k5 ?kA ?k6 ?k7 ?k8 ?k9 ?kB ?_ ?cK ?c2 ?c3 ?c4 ?c5; (case kA => exact rfl); (case k2 => k_asm); (case k1 => k_asm); (case k3 => k_asm); (case k4 => k_asm); (case k5 => k_asm); (case k6 => k_is); (case k7 => k_is); (case k8 => k_room); (case k9 => exact BindsTo.of_eq rfl); (case kB => exact locs rfl); (case cK => assumption); (case c2 => exact rfl); (case c3 => exact rfl); (case c4 => exact rfl); (case c5 => decide); k_whole; intro g' L' h' FG' F' N' B' X' T' D'; (try dsimp only); (try k_lift B'); (try k_fold)))
  k_steps
  rename_i I hI
  refine rest_keep (vs := vs) (fun i => ∀ j e, j < i → (ds : List Int)[j]? = some e → hasK kvs e = true) hl hI (fun _ _ h => absurd h (Nat.not_lt_zero _)) ?_ ?_
  · intro i v it h tk hv hinv hit F2 N2
    obtain ⟨d, hd, t, rfl⟩ : ∃ d, (ds : List Int)[i]? = some d ∧ ∃ t, v = .int d t := by
      have hlt : i < (ds : List Int).length := by have := (List.getElem?_eq_some_iff.mp hv).1; rwa [hi.length] at this
      obtain ⟨t, hx⟩ := hi.get i (ds : List Int)[i] (List.getElem?_eq_getElem hlt)
      exact ⟨(ds : List Int)[i], List.getElem?_eq_getElem hlt, t, Option.some.inj (hv.symm.trans hx)⟩
    have hd7 : d ∈ NAMES := hds d (List.mem_of_getElem? hd)
    have step : hasK kvs d = true → ∀ j e, j < i + 1 → (ds : List Int)[j]? = some e → hasK kvs e = true := fun hh j e hj he => by
      by_cases q : j = i
      · subst q; rw [hd] at he; cases he; exact hh
      · exact hinv j e (by omega) he
    cases hb : (valueAt kvs (.inl d)).isSome with
    | true =>
      k_steps
      exact InvEnd.intro (by assumption) (by assumption) (fun _ h => h) ⟨step (by simp [hasK, hb]), fun y hy => if_neg hy⟩
    | false =>
      cases hb2 : (valueAt kvs kDef).isSome with
      | true =>
        k_steps
        exact InvEnd.intro (by assumption) (by assumption) (fun _ h => h) ⟨step (by simp [hasK, hb2]), fun y hy => if_neg hy⟩
      | false =>
        k_steps
        exact hret _ _ _ [_, _, _, _] (by assumption) (by assumption) (by rw [want_at hd hinv (by simp [hasK, hb, hb2])]; exact .list (.head _) (.cons (.str _ _) (.cons (.int _ _) .nil)))
  · intro h tk u hinv F2 N2
    k_steps
    exact hret _ _ _ [_] (by assumption) (by assumption) (by
      rw [want_none fun d hd => (let ⟨j, hj, e⟩ := List.getElem_of_mem hd; hinv j d (by rw [hi.length]; exact hj) (by rw [← e]; exact List.getElem?_eq_getElem hj))]
      exact .list (.head _) (.cons (.str _ _) (.cons (.bool _) .nil)))
theorem chk_list_box {c l b : Addr} {vs : List Value} {n0 : Nat} {ds : List Int} {kvs : List (CKey × Value)} {w : World} {mean : ExcName → Option Value} {mg mb : Str → Option Value} {N : Led}
  {un : Nat} {gd : Option (List Code)} {cn : Str} {cs : Scope} {a : Addr} {ccd : Value} {cl : List (Str × Addr)} {A₀ : Around} {base h₀ : Heap} {L : Addr} {m : Str → Option Value} {s : Shared} {Q E : Value → Shared → Prop}
  (B : Below A₀ base [] h₀) (F : Fr h₀ L s.heap m) (X : (hd.heap_39 w.params).In h₀) (H : News h₀ L s.heap N) (T : Top hd.view_39 LO mean mg mb h₀) (hk : cs.kind = .function) (XB : (hd.heap_39 w.params).In base) (TB : Top hd.view_39 LO mean mg mb base) (hun : un ≤ 100)
  (hl : (l, listOf vs.toArray n0) ∈ N) (hi : IntsAre vs ds) (hds : ∀ d ∈ ds, d ∈ NAMES)
  (C : DictL (cK w) N c kvs) (Bx : DictL (sK w) N b [(Str.ofString "data_identifiers", .ref c)])
  (hret : Kept h₀ L m N s Q fun N' l => Rep w N' (.ref l) (wantK kvs ds)) :
  wpAny (model PW w) (ktrTop 302 un gd cn cs L a ccd cl []) (call (.ref 225) [.ref l, .ref b, .ref c]) Q E s := by
  revert X H XB
  unfold PW
  k_fill
  intro X H XB
  refine wpAny_call ?_
  k_dflt ((refine' code_defSX ?k1 ?k2 ?k3 ?k4 ?k5 ?kA ?k6 ?k7 ?k8 ?k9 ?kB ?_ ?cK ?c2 ?c3 ?c4 ?c5; (case kA => exact rfl); (case k2 => k_asm); (case k1 => k_asm); (case k3 => k_asm); (case k4 => k_asm); (case k5 => k_asm); (case k6 => k_is); (case k7 => k_is); (case k8 => k_room); (case k9 => exact BindsTo.of_eq rfl); (case kB => exact locs rfl); (case cK => assumption); (case c2 => exact rfl); (case c3 => exact rfl); (case c4 => exact rfl); (case c5 => decide); k_whole; intro g' L' h' FG' F' N' B' X' T' D'; (try dsimp only); (try k_lift B'); (try k_fold)))
  k_steps
  rename_i I hI
  refine rest_keep (vs := vs) (fun i => ∀ j e, j < i → (ds : List Int)[j]? = some e → hasK kvs e = true) hl hI (fun _ _ h => absurd h (Nat.not_lt_zero _)) ?_ ?_
  · intro i v it h tk hv hinv hit F2 N2
    obtain ⟨d, hd, t, rfl⟩ : ∃ d, (ds : List Int)[i]? = some d ∧ ∃ t, v = .int d t := by
      have hlt : i < (ds : List Int).length := by have := (List.getElem?_eq_some_iff.mp hv).1; rwa [hi.length] at this
      obtain ⟨t, hx⟩ := hi.get i (ds : List Int)[i] (List.getElem?_eq_getElem hlt)
      exact ⟨(ds : List Int)[i], List.getElem?_eq_getElem hlt, t, Option.some.inj (hv.symm.trans hx)⟩
    have hd7 : d ∈ NAMES := hds d (List.mem_of_getElem? hd)
    have step : hasK kvs d = true → ∀ j e, j < i + 1 → (ds : List Int)[j]? = some e → hasK kvs e = true := fun hh j e hj he => by
      by_cases q : j = i
      · subst q; rw [hd] at he; cases he; exact hh
      · exact hinv j e (by omega) he
    cases hb : (valueAt kvs (.inl d)).isSome with
    | true =>
      k_steps
      exact InvEnd.intro (by assumption) (by assumption) (fun _ h => h) ⟨step (by simp [hasK, hb]), fun y hy => if_neg hy⟩
    | false =>
      cases hb2 : (valueAt kvs kDef).isSome with
      | true =>
        k_steps
        exact InvEnd.intro (by assumption) (by assumption) (fun _ h => h) ⟨step (by simp [hasK, hb2]), fun y hy => if_neg hy⟩
      | false =>
        k_steps
        exact hret _ _ _ [_, _, _, _] (by assumption) (by assumption) (by rw [want_at hd hinv (by simp [hasK, hb, hb2])]; exact .list (.head _) (.cons (.str _ _) (.cons (.int _ _) .nil)))
  · intro h tk u hinv F2 N2
    k_steps
    exact hret _ _ _ [_] (by assumption) (by assumption) (by
      rw [want_none fun d hd => (let ⟨j, hj, e⟩ := List.getElem_of_mem hd; hinv j d (by rw [hi.length]; exact hj) (by rw [← e]; exact List.getElem?_eq_getElem hj))]
      exact .list (.head _) (.cons (.str _ _) (.cons (.bool _) .nil)))
theorem chk_int {c : Addr} {d₀ : Int} {t₀ : Tok} {kvs : List (CKey × Value)} {w : World} {mean : ExcName → Option Value} {mg mb : Str → Option Value} {N : Led}
  {un : Nat} {gd : Option (List Code)} {cn : Str} {cs : Scope} {a : Addr} {ccd : Value} {cl : List (Str × Addr)} {A₀ : Around} {base h₀ : Heap} {L : Addr} {m : Str → Option Value} {s : Shared} {Q E : Value → Shared → Prop}
  (B : Below A₀ base [] h₀) (F : Fr h₀ L s.heap m) (X : (hd.heap_39 w.params).In h₀) (H : News h₀ L s.heap N) (T : Top hd.view_39 LO mean mg mb h₀) (hk : cs.kind = .function) (XB : (hd.heap_39 w.params).In base) (TB : Top hd.view_39 LO mean mg mb base) (hun : un ≤ 100)
  (hd₀ : d₀ ∈ NAMES)
  (C : DictL (cK w) N c kvs) (hbox : (valueAt kvs (.inr (Str.ofString "data_identifiers"))).isSome = false)
  (hret : Kept h₀ L m N s Q fun N' l => Rep w N' (.ref l) (wantK kvs [d₀])) :
  wpAny (model PW w) (ktrTop 302 un gd cn cs L a ccd cl []) (call (.ref 225) [.int d₀ t₀, .ref c, .ref c]) Q E s := by
  revert X H XB
  unfold PW
  k_fill
  intro X H XB
  refine wpAny_call ?_
  k_dflt ((refine' code_defSX ?k1 ?k2 ?k3 ?k4 ?k5 ?kA ?k6 ?k7 ?k8 ?k9 ?kB ?_ ?cK ?c2 ?c3 ?c4 ?c5; (case kA => exact rfl); (case k2 => k_asm); (case k1 => k_asm); (case k3 => k_asm); (case k4 => k_asm); (case k5 => k_asm); (case k6 => k_is); (case k7 => k_is); (case k8 => k_room); (case k9 => exact BindsTo.of_eq rfl); (case kB => exact locs rfl); (case cK => assumption); (case c2 => exact rfl); (case c3 => exact rfl); (case c4 => exact rfl); (case c5 => decide); k_whole; intro g' L' h' FG' F' N' B' X' T' D'; (try dsimp only); (try k_lift B'); (try k_fold)))
  k_steps
  have hi : IntsAre [Value.int d₀ t₀] [d₀] := .cons _ _ .nil
  have hds : ∀ d ∈ [d₀], d ∈ NAMES := fun d h => by rw [List.mem_singleton.mp h]; exact hd₀
  rename_i I hI
  refine rest_keep (vs := [.int d₀ t₀]) (fun i => ∀ j e, j < i → ([d₀] : List Int)[j]? = some e → hasK kvs e = true) (.head _) hI (fun _ _ h => absurd h (Nat.not_lt_zero _)) ?_ ?_
  · intro i v it h tk hv hinv hit F2 N2
    obtain ⟨d, hd, t, rfl⟩ : ∃ d, ([d₀] : List Int)[i]? = some d ∧ ∃ t, v = .int d t := by
      have hlt : i < ([d₀] : List Int).length := by have := (List.getElem?_eq_some_iff.mp hv).1; rwa [hi.length] at this
      obtain ⟨t, hx⟩ := hi.get i ([d₀] : List Int)[i] (List.getElem?_eq_getElem hlt)
      exact ⟨([d₀] : List Int)[i], List.getElem?_eq_getElem hlt, t, Option.some.inj (hv.symm.trans hx)⟩
    have hd7 : d ∈ NAMES := hds d (List.mem_of_getElem? hd)
    have step : hasK kvs d = true → ∀ j e, j < i + 1 → ([d₀] : List Int)[j]? = some e → hasK kvs e = true := fun hh j e hj he => by
      by_cases q : j = i
      · subst q; rw [hd] at he; cases he; exact hh
      · exact hinv j e (by omega) he
    cases hb : (valueAt kvs (.inl d)).isSome with
    | true =>
      k_steps
      exact InvEnd.intro (by assumption) (by assumption) (fun _ h => h) ⟨step (by simp [hasK, hb]), fun y hy => if_neg hy⟩
    | false =>
      cases hb2 : (valueAt kvs kDef).isSome with
      | true =>
        k_steps
        exact InvEnd.intro (by assumption) (by assumption) (fun _ h => h) ⟨step (by simp [hasK, hb2]), fun y hy => if_neg hy⟩
      | false =>
        k_steps
        exact hret _ _ _ [_, _, _, _, _] (by assumption) (by assumption) (by rw [want_at hd hinv (by simp [hasK, hb, hb2])]; exact .list (.head _) (.cons (.str _ _) (.cons (.int _ _) .nil)))
  · intro h tk u hinv F2 N2
    k_steps
    exact hret _ _ _ [_, _] (by assumption) (by assumption) (by
      rw [want_none fun d hd => (let ⟨j, hj, e⟩ := List.getElem_of_mem hd; hinv j d (by rw [hi.length]; exact hj) (by rw [← e]; exact List.getElem?_eq_getElem hj))]
      exact .list (.head _) (.cons (.str _ _) (.cons (.bool _) .nil)))
theorem chk_int_box {c b : Addr} {d₀ : Int} {t₀ : Tok} {kvs : List (CKey × Value)} {w : World} {mean : ExcName → Option Value} {mg mb : Str → Option Value} {N : Led}
  {un : Nat} {gd : Option (List Code)} {cn : Str} {cs : Scope} {a : Addr} {ccd : Value} {cl : List (Str × Addr)} {A₀ : Around} {base h₀ : Heap} {L : Addr} {m : Str → Option Value} {s : Shared} {Q E : Value → Shared → Prop}
  (B : Below A₀ base [] h₀) (F : Fr h₀ L s.heap m) (X : (hd.heap_39 w.params).In h₀) (H : News h₀ L s.heap N) (T : Top hd.view_39 LO mean mg mb h₀) (hk : cs.kind = .function) (XB : (hd.heap_39 w.params).In base) (TB : Top hd.view_39 LO mean mg mb base) (hun : un ≤ 100)
  (hd₀ : d₀ ∈ NAMES)
  (C : DictL (cK w) N c kvs) (Bx : DictL (sK w) N b [(Str.ofString "data_identifiers", .ref c)])
  (hret : Kept h₀ L m N s Q fun N' l => Rep w N' (.ref l) (wantK kvs [d₀])) :
  wpAny (model PW w) (ktrTop 302 un gd cn cs L a ccd cl []) (call (.ref 225) [.int d₀ t₀, .ref b, .ref c]) Q E s := by
  revert X H XB
  unfold PW
  k_fill
  intro X H XB
  refine wpAny_call ?_
  k_dflt ((refine' code_defSX ?k1 ?k2 ?k3 ?k4 ?k5 ?kA ?k6 ?k7 ?k8 ?k9 ?kB ?_ ?cK ?c2 ?c3 ?c4 ?c5; (case kA => exact rfl); (case k2 => k_asm); (case k1 => k_asm); (case k3 => k_asm); (case k4 => k_asm); (case k5 => k_asm); (case k6 => k_is); (case k7 => k_is); (case k8 => k_room); (case k9 => exact BindsTo.of_eq rfl); (case kB => exact locs rfl); (case cK => assumption); (case c2 => exact rfl); (case c3 => exact rfl); (case c4 => exact rfl); (case c5 => decide); k_whole; intro g' L' h' FG' F' N' B' X' T' D'; (try dsimp only); (try k_lift B'); (try k_fold)))
  k_steps
  have hi : IntsAre [Value.int d₀ t₀] [d₀] := .cons _ _ .nil
  have hds : ∀ d ∈ [d₀], d ∈ NAMES := fun d h => by rw [List.mem_singleton.mp h]; exact hd₀
  rename_i I hI
  refine rest_keep (vs := [.int d₀ t₀]) (fun i => ∀ j e, j < i → ([d₀] : List Int)[j]? = some e → hasK kvs e = true) (.head _) hI (fun _ _ h => absurd h (Nat.not_lt_zero _)) ?_ ?_
  · intro i v it h tk hv hinv hit F2 N2
    obtain ⟨d, hd, t, rfl⟩ : ∃ d, ([d₀] : List Int)[i]? = some d ∧ ∃ t, v = .int d t := by
      have hlt : i < ([d₀] : List Int).length := by have := (List.getElem?_eq_some_iff.mp hv).1; rwa [hi.length] at this
      obtain ⟨t, hx⟩ := hi.get i ([d₀] : List Int)[i] (List.getElem?_eq_getElem hlt)
      exact ⟨([d₀] : List Int)[i], List.getElem?_eq_getElem hlt, t, Option.some.inj (hv.symm.trans hx)⟩
    have hd7 : d ∈ NAMES := hds d (List.mem_of_getElem? hd)
    have step : hasK kvs d = true → ∀ j e, j < i + 1 → ([d₀] : List Int)[j]? = some e → hasK kvs e = true := fun hh j e hj he => by
      by_cases q : j = i
      · subst q; rw [hd] at he; cases he; exact hh
      · exact hinv j e (by omega) he
    cases hb : (valueAt kvs (.inl d)).isSome with
    | true =>
      k_steps
      exact InvEnd.intro (by assumption) (by assumption) (fun _ h => h) ⟨step (by simp [hasK, hb]), fun y hy => if_neg hy⟩
    | false =>
      cases hb2 : (valueAt kvs kDef).isSome with
      | true =>
        k_steps
        exact InvEnd.intro (by assumption) (by assumption) (fun _ h => h) ⟨step (by simp [hasK, hb2]), fun y hy => if_neg hy⟩
      | false =>
        k_steps
        exact hret _ _ _ [_, _, _, _, _] (by assumption) (by assumption) (by rw [want_at hd hinv (by simp [hasK, hb, hb2])]; exact .list (.head _) (.cons (.str _ _) (.cons (.int _ _) .nil)))
  · intro h tk u hinv F2 N2
    k_steps
    exact hret _ _ _ [_, _] (by assumption) (by assumption) (by
      rw [want_none fun d hd => (let ⟨j, hj, e⟩ := List.getElem_of_mem hd; hinv j d (by rw [hi.length]; exact hj) (by rw [← e]; exact List.getElem?_eq_getElem hj))]
      exact .list (.head _) (.cons (.str _ _) (.cons (.bool _) .nil)))
end Mine
namespace Mine
local macro_rules | `(tactic| walk_at "zz0") => `(tactic| fail "zz")
local macro_rules | `(tactic| walk_at "zz1") => `(tactic| fail "zz")
local macro_rules | `(tactic| walk_at "zz2") => `(tactic| fail "zz")
theorem off_FEmod2 : True := by
  w_top off
  trivial
local macro_rules | `(tactic| k_mem) => `(tactic| assumption)
local macro_rules | `(tactic| walk_at "compareOp In str ref") => `(tactic| (k_here; first
  | (refine c_in (k := Sum.inr _) (knd := ckKind _ _) (by k_asm) (DictL.mono (by assumption) (by kcj_all)) (ck_str _ _ _ _) (by assumption) ?_)
  | (refine c_in (b := true) (knd := strKind _ _) (by k_asm) (DictL.mono (by assumption) (by kcj_all)) (strKind_is _ _ _ _) (by rfl) ?_)
  | (refine c_in (b := false) (knd := strKind _ _) (by k_asm) (DictL.mono (by assumption) (by kcj_all)) (strKind_is _ _ _ _) (by rfl) ?_)))
local macro_rules | `(tactic| walk_at "compareOp NotIn str ref") => `(tactic| (k_here; refine c_notin (k := Sum.inr _) (knd := ckKind _ _) (by k_asm) (DictL.mono (by assumption) (by kcj_all)) (ck_str _ _ _ _) (by assumption) ?_))
local macro_rules | `(tactic| walk_at "compareOp In int ref") => `(tactic| (k_here; refine c_in (k := Sum.inl _) (knd := ckKind _ _) (by k_asm) (DictL.mono (by assumption) (by kcj_all)) (ck_int _ _ _ _) (by assumption) ?_))
local macro_rules | `(tactic| walk_at "compareOp NotIn int ref") => `(tactic| (k_here; refine c_notin (k := Sum.inl _) (knd := ckKind _ _) (by k_asm) (DictL.mono (by assumption) (by kcj_all)) (ck_int _ _ _ _) (by assumption) ?_))
local macro_rules | `(tactic| walk_at "subscriptTail") => `(tactic| (k_here; first
  | ((with_reducible show wpAny _ _ (subscriptTail _ _ (Value.ref _) (Value.int _ _)) _ _ _); (refine c_item (k := Sum.inl _) (knd := ckKind _ _) (by k_asm) (DictL.mono (by assumption) (by kcj_all)) (ck_int _ _ _ _) (by assumption) ?_))
  | ((with_reducible show wpAny _ _ (subscriptTail _ _ (Value.ref _) (Value.str _ _)) _ _ _); (refine c_item (k := Sum.inr _) (knd := ckKind _ _) (by k_asm) (DictL.mono (by assumption) (by kcj_all)) (ck_str _ _ _ _) (by assumption) ?_))
  | ((with_reducible show wpAny _ _ (subscriptTail _ _ (Value.ref _) (Value.str _ _)) _ _ _); (refine c_item (knd := strKind _ _) (by k_asm) (DictL.mono (by assumption) (by kcj_all)) (strKind_is _ _ _ _) (by rfl) ?_))))
local macro_rules | `(tactic| x_close) => `(tactic| (first | exact ⟨⟨_, rfl⟩, _, rfl⟩ | (fail "close")))
theorem ostr_int {hh : Option Value} {w : World} {s : Shared} (X : (hd.heap_39 w.params).In s.heap) :
    wpAny (model PW w) (AH hh 500 200) (call (.builtin "object.__str__") [.type "int"]) (fun r s' => (∃ t, r = .str (Str.ofString "<class 'int'>") t) ∧ ∃ tk, s' = { s with toks := tk }) (fun _ _ => False) s := by
  x_run
theorem ostr_dict {hh : Option Value} {w : World} {s : Shared} (X : (hd.heap_39 w.params).In s.heap) :
    wpAny (model PW w) (AH hh 500 200) (call (.builtin "object.__str__") [.type "dict"]) (fun r s' => (∃ t, r = .str (Str.ofString "<class 'dict'>") t) ∧ ∃ tk, s' = { s with toks := tk }) (fun _ _ => False) s := by
  x_run
end Mine
namespace Mine
local macro_rules | `(tactic| k_mem) => `(tactic| assumption)
local macro_rules | `(tactic| walk_at "compareOp In str ref") => `(tactic| (k_here; first
  | (refine c_in (k := Sum.inr _) (knd := ckKind _ _) (by k_asm) (DictL.mono (by assumption) (by kcj_all)) (ck_str _ _ _ _) (by assumption) ?_)
  | (refine c_in (b := true) (knd := strKind _ _) (by k_asm) (DictL.mono (by assumption) (by kcj_all)) (strKind_is _ _ _ _) (by rfl) ?_)
  | (refine c_in (b := false) (knd := strKind _ _) (by k_asm) (DictL.mono (by assumption) (by kcj_all)) (strKind_is _ _ _ _) (by rfl) ?_)))
local macro_rules | `(tactic| walk_at "compareOp NotIn str ref") => `(tactic| (k_here; refine c_notin (k := Sum.inr _) (knd := ckKind _ _) (by k_asm) (DictL.mono (by assumption) (by kcj_all)) (ck_str _ _ _ _) (by assumption) ?_))
local macro_rules | `(tactic| walk_at "compareOp In int ref") => `(tactic| (k_here; refine c_in (k := Sum.inl _) (knd := ckKind _ _) (by k_asm) (DictL.mono (by assumption) (by kcj_all)) (ck_int _ _ _ _) (by assumption) ?_))
local macro_rules | `(tactic| walk_at "compareOp NotIn int ref") => `(tactic| (k_here; refine c_notin (k := Sum.inl _) (knd := ckKind _ _) (by k_asm) (DictL.mono (by assumption) (by kcj_all)) (ck_int _ _ _ _) (by assumption) ?_))
local macro_rules | `(tactic| walk_at "subscriptTail") => `(tactic| (k_here; first
  | ((with_reducible show wpAny _ _ (subscriptTail _ _ (Value.ref _) (Value.int _ _)) _ _ _); (refine c_item (k := Sum.inl _) (knd := ckKind _ _) (by k_asm) (DictL.mono (by assumption) (by kcj_all)) (ck_int _ _ _ _) (by assumption) ?_))
  | ((with_reducible show wpAny _ _ (subscriptTail _ _ (Value.ref _) (Value.str _ _)) _ _ _); (refine c_item (k := Sum.inr _) (knd := ckKind _ _) (by k_asm) (DictL.mono (by assumption) (by kcj_all)) (ck_str _ _ _ _) (by assumption) ?_))
  | ((with_reducible show wpAny _ _ (subscriptTail _ _ (Value.ref _) (Value.str _ _)) _ _ _); (refine c_item (knd := strKind _ _) (by k_asm) (DictL.mono (by assumption) (by kcj_all)) (strKind_is _ _ _ _) (by rfl) ?_))))
def FMT2 : Str := Str.ofString "Given codec of type %s is not a valid DidCodec"
def FMT2' : Str := ⟨#[71, 105, 118, 101, 110, 32, 99, 111, 100, 101, 99, 32, 111, 102, 32, 116, 121, 112, 101, 32, 37, 115, 32, 105, 115, 32, 110, 111, 116, 32, 97, 32, 118, 97, 108, 105, 100, 32, 68, 105, 100, 67, 111, 100, 101, 99]⟩
theorem fmt2_eq : FMT2 = FMT2' := by decide +kernel
theorem fills_ty : fillsNumberSlot (.type "type") "mod" = pure false := by kernel_rfl
theorem slot_ty_str : Slot "type" "__str__" "object.__str__" := Slot.of (T := "type") (name := "__str__") (owner := "object") (n := "__str__") (by rw [typeLookup_type, builtinLookup_eq_fast]; kernel_rfl) (by decide +kernel) (by decide +kernel) (by decide +kernel)
    (.inl (by decide +kernel)) (by rw [isSubtype_type]; kernel_rfl)
theorem entry_int (F : PySem.Str) (t : Tok) : Builtin.«str.__mod__» ⟨[.str F t, .type "int"], []⟩ = Builtin.Str.percentFormat (.str F t) F (.type "int") := by kernel_rfl
theorem ty_int (s : Shared) : s.TypeIs (.type "int") "type" := by constructor <;> rfl
theorem fm_int : ∃ b, fillsMappingSlot (.type "int") = pure b := by first | exact ⟨false, by kernel_rfl⟩ | exact ⟨true, by kernel_rfl⟩
theorem mod_ty_int {w : World} {A : Around} {s : Shared} {t : Tok} {E : Value → Shared → Prop} {Q : Value → Shared → Prop} (X : (hd.heap_39 w.params).In s.heap) (hdp : A.depth ≤ 480) (hun : A.units ≤ 180)
   (h : ∀ x t' k, Q (.str x t') { s with toks := k }) : wpAny (model PW w) A (binaryOp .Mod (.str FMT2 t) (.type "int")) Q E s := by
  rw [fmt2_eq]
  have hty : s.TypeIs (.type "int") "type" := ty_int s
  have hso : ∀ (A' : Around) (E : Value → Shared → Prop) (Q' : Value → Shared → Prop), A'.depth ≤ 490 → A'.units ≤ 190 → (∀ t' k, Q' (.str (Str.ofString "<class 'int'>") t') { s with toks := k }) → wpAny (model PW w) A' (Builtin.Str.strOf (.type "int")) Q' E s := fun A' E Q' h1 h2 hq => by
    unfold Builtin.Str.strOf
    rw [show Builtin.Str.isExactStr (.type "int") = false from rfl]
    simp only [cRoomFor, show ([Value.type "int"].any Value.onHeap) = false from rfl, Bool.false_eq_true, if_false, pure_bind]
    refine wpAny_bind (m := callSpecial? (.type "int") (Str.ofString "__str__")) (wpAny_callSpecial?_slot (name := Str.ofString "__str__") hty slot_ty_str ?_)
    refine wpAny_mono (wpAny_ah (ostr_int X) (by omega) (by omega)) ?_ fun _ _ z => z.elim
    rintro _ _ ⟨⟨t', rfl⟩, tk, rfl⟩
    refine wpAny_bind (wpAny_of_eq (a := some (Str.ofString "<class 'int'>")) rfl ?_)
    rw [if_neg (by decide)]
    exact wpAny_pure (hq _ _)
  refine PySem.W.KPt.bin_left (T := "str") (U := "type") (op := .Mod) (by decide) (typeIs_str s _ t) hty F.fills_str_mod fills_ty F.slot_str_mod
    (wpAny_call_entry F.slot_str_mod (typeIs_str s _ t) F.entry_str_mod ?_ (F.args_str_mod_2 _ _))
  rw [entry_int]
  unfold Builtin.Str.percentFormat FMT2'
  refine wpAny_bind (wpAny_isInstance hty tc_notTuple ?_)
  refine wpAny_bind (wpAny_of_eq (a := none) rfl ?_)
  obtain ⟨b, hb⟩ := fm_int
  refine wpAny_bind (wpAny_of_eq hb ?_)
  kpc_if
  refine wpAny_bind (wpAny_pure ?_)
  refine wpAny_bind ?_
  rw [KPc.range_list]
  refine KPc.start ?_
  intro _ _
  refine KPc.turn ?_
  kpc_check
  repeat kpc_if
  refine wpAny_pure ?_
  kpc_piece
  refine KPc.turn ?_
  kpc_check
  repeat kpc_if
  refine wpAny_bind ?_
  refine wpAny_holding ?_
  repeat kpc_if
  refine wpAny_bind ?_
  kpc_if
  refine hso _ _ _ (by show A.depth ≤ 490; omega) (by show A.units + 1 ≤ 190; omega) fun t' k => ?_
  refine wpAny_bind (wpAny_of_eq (a := some (Str.ofString "<class 'int'>")) rfl ?_)
  refine wpAny_pure ?_
  refine wpAny_pure ?_
  kpc_piece
  refine KPc.turn ?_
  kpc_check
  repeat kpc_if
  refine wpAny_pure ?_
  kpc_piece
  refine KPc.turn ?_
  kpc_check
  repeat kpc_if
  refine wpAny_pure ?_
  kpc_if
  refine KPc.finish_ok (by kpc_g) (by decide +kernel) rfl ?_
  intro t' k
  exact ⟨_, rfl, (fun e => nomatch e), h _ _ _⟩
theorem entry_dict (F : PySem.Str) (t : Tok) : Builtin.«str.__mod__» ⟨[.str F t, .type "dict"], []⟩ = Builtin.Str.percentFormat (.str F t) F (.type "dict") := by kernel_rfl
theorem ty_dict (s : Shared) : s.TypeIs (.type "dict") "type" := by constructor <;> rfl
theorem fm_dict : ∃ b, fillsMappingSlot (.type "dict") = pure b := by first | exact ⟨false, by kernel_rfl⟩ | exact ⟨true, by kernel_rfl⟩
theorem mod_ty_dict {w : World} {A : Around} {s : Shared} {t : Tok} {E : Value → Shared → Prop} {Q : Value → Shared → Prop} (X : (hd.heap_39 w.params).In s.heap) (hdp : A.depth ≤ 480) (hun : A.units ≤ 180)
   (h : ∀ x t' k, Q (.str x t') { s with toks := k }) : wpAny (model PW w) A (binaryOp .Mod (.str FMT2 t) (.type "dict")) Q E s := by
  rw [fmt2_eq]
  have hty : s.TypeIs (.type "dict") "type" := ty_dict s
  have hso : ∀ (A' : Around) (E : Value → Shared → Prop) (Q' : Value → Shared → Prop), A'.depth ≤ 490 → A'.units ≤ 190 → (∀ t' k, Q' (.str (Str.ofString "<class 'dict'>") t') { s with toks := k }) → wpAny (model PW w) A' (Builtin.Str.strOf (.type "dict")) Q' E s := fun A' E Q' h1 h2 hq => by
    unfold Builtin.Str.strOf
    rw [show Builtin.Str.isExactStr (.type "dict") = false from rfl]
    simp only [cRoomFor, show ([Value.type "dict"].any Value.onHeap) = false from rfl, Bool.false_eq_true, if_false, pure_bind]
    refine wpAny_bind (m := callSpecial? (.type "dict") (Str.ofString "__str__")) (wpAny_callSpecial?_slot (name := Str.ofString "__str__") hty slot_ty_str ?_)
    refine wpAny_mono (wpAny_ah (ostr_dict X) (by omega) (by omega)) ?_ fun _ _ z => z.elim
    rintro _ _ ⟨⟨t', rfl⟩, tk, rfl⟩
    refine wpAny_bind (wpAny_of_eq (a := some (Str.ofString "<class 'dict'>")) rfl ?_)
    rw [if_neg (by decide)]
    exact wpAny_pure (hq _ _)
  refine PySem.W.KPt.bin_left (T := "str") (U := "type") (op := .Mod) (by decide) (typeIs_str s _ t) hty F.fills_str_mod fills_ty F.slot_str_mod
    (wpAny_call_entry F.slot_str_mod (typeIs_str s _ t) F.entry_str_mod ?_ (F.args_str_mod_2 _ _))
  rw [entry_dict]
  unfold Builtin.Str.percentFormat FMT2'
  refine wpAny_bind (wpAny_isInstance hty tc_notTuple ?_)
  refine wpAny_bind (wpAny_of_eq (a := none) rfl ?_)
  obtain ⟨b, hb⟩ := fm_dict
  refine wpAny_bind (wpAny_of_eq hb ?_)
  kpc_if
  refine wpAny_bind (wpAny_pure ?_)
  refine wpAny_bind ?_
  rw [KPc.range_list]
  refine KPc.start ?_
  intro _ _
  refine KPc.turn ?_
  kpc_check
  repeat kpc_if
  refine wpAny_pure ?_
  kpc_piece
  refine KPc.turn ?_
  kpc_check
  repeat kpc_if
  refine wpAny_bind ?_
  refine wpAny_holding ?_
  repeat kpc_if
  refine wpAny_bind ?_
  kpc_if
  refine hso _ _ _ (by show A.depth ≤ 490; omega) (by show A.units + 1 ≤ 190; omega) fun t' k => ?_
  refine wpAny_bind (wpAny_of_eq (a := some (Str.ofString "<class 'dict'>")) rfl ?_)
  refine wpAny_pure ?_
  refine wpAny_pure ?_
  kpc_piece
  refine KPc.turn ?_
  kpc_check
  repeat kpc_if
  refine wpAny_pure ?_
  kpc_piece
  refine KPc.turn ?_
  kpc_check
  repeat kpc_if
  refine wpAny_pure ?_
  kpc_if
  refine KPc.finish_ok (by kpc_g) (by decide +kernel) rfl ?_
  intro t' k
  exact ⟨_, rfl, (fun e => nomatch e), h _ _ _⟩
end Mine
namespace Mine
local macro_rules | `(tactic| walk_at "zz0") => `(tactic| fail "zz")
local macro_rules | `(tactic| walk_at "zz1") => `(tactic| fail "zz")
local macro_rules | `(tactic| walk_at "zz2") => `(tactic| fail "zz")
local macro_rules | `(tactic| walk_at "zz3") => `(tactic| fail "zz")
theorem off_FEcalc : True := by
  w_top off
  trivial
local macro_rules | `(tactic| k_mem) => `(tactic| assumption)
local macro_rules | `(tactic| walk_at "compareOp In str ref") => `(tactic| (k_here; first
  | (refine c_in (k := Sum.inr _) (knd := ckKind _ _) (by k_asm) (DictL.mono (by assumption) (by kcj_all)) (ck_str _ _ _ _) (by assumption) ?_)
  | (refine c_in (b := true) (knd := strKind _ _) (by k_asm) (DictL.mono (by assumption) (by kcj_all)) (strKind_is _ _ _ _) (by rfl) ?_)
  | (refine c_in (b := false) (knd := strKind _ _) (by k_asm) (DictL.mono (by assumption) (by kcj_all)) (strKind_is _ _ _ _) (by rfl) ?_)))
local macro_rules | `(tactic| walk_at "compareOp NotIn str ref") => `(tactic| (k_here; refine c_notin (k := Sum.inr _) (knd := ckKind _ _) (by k_asm) (DictL.mono (by assumption) (by kcj_all)) (ck_str _ _ _ _) (by assumption) ?_))
local macro_rules | `(tactic| walk_at "compareOp In int ref") => `(tactic| (k_here; refine c_in (k := Sum.inl _) (knd := ckKind _ _) (by k_asm) (DictL.mono (by assumption) (by kcj_all)) (ck_int _ _ _ _) (by assumption) ?_))
local macro_rules | `(tactic| walk_at "compareOp NotIn int ref") => `(tactic| (k_here; refine c_notin (k := Sum.inl _) (knd := ckKind _ _) (by k_asm) (DictL.mono (by assumption) (by kcj_all)) (ck_int _ _ _ _) (by assumption) ?_))
local macro_rules | `(tactic| walk_at "subscriptTail") => `(tactic| (k_here; first
  | ((with_reducible show wpAny _ _ (subscriptTail _ _ (Value.ref _) (Value.int _ _)) _ _ _); (refine c_item (k := Sum.inl _) (knd := ckKind _ _) (by k_asm) (DictL.mono (by assumption) (by kcj_all)) (ck_int _ _ _ _) (by assumption) ?_))
  | ((with_reducible show wpAny _ _ (subscriptTail _ _ (Value.ref _) (Value.str _ _)) _ _ _); (refine c_item (k := Sum.inr _) (knd := ckKind _ _) (by k_asm) (DictL.mono (by assumption) (by kcj_all)) (ck_str _ _ _ _) (by assumption) ?_))
  | ((with_reducible show wpAny _ _ (subscriptTail _ _ (Value.ref _) (Value.str _ _)) _ _ _); (refine c_item (knd := strKind _ _) (by k_asm) (DictL.mono (by assumption) (by kcj_all)) (strKind_is _ _ _ _) (by rfl) ?_))))
local macro_rules | `(tactic| x_close) => `(tactic| (first | exact ⟨⟨_, rfl⟩, _, rfl⟩ | (fail "close")))
theorem calc_0 {hh : Option Value} {w : World} {s : Shared} {t : Tok} (X : (hd.heap_39 w.params).In s.heap) :
    wpAny (model PW w) (AH hh 500 200) (call (.builtin "_struct.calcsize") [.str (Str.ofString "B") t]) (fun r s' => (∃ t, r = .int 1 t) ∧ ∃ tk, s' = { s with toks := tk }) (fun _ _ => False) s := by
  x_run
theorem calc_1 {hh : Option Value} {w : World} {s : Shared} {t : Tok} (X : (hd.heap_39 w.params).In s.heap) :
    wpAny (model PW w) (AH hh 500 200) (call (.builtin "_struct.calcsize") [.str (Str.ofString ">H") t]) (fun r s' => (∃ t, r = .int 2 t) ∧ ∃ tk, s' = { s with toks := tk }) (fun _ _ => False) s := by
  x_run
theorem calc_2 {hh : Option Value} {w : World} {s : Shared} {t : Tok} (X : (hd.heap_39 w.params).In s.heap) :
    wpAny (model PW w) (AH hh 500 200) (call (.builtin "_struct.calcsize") [.str (Str.ofString "<I") t]) (fun r s' => (∃ t, r = .int 4 t) ∧ ∃ tk, s' = { s with toks := tk }) (fun _ _ => False) s := by
  x_run
theorem calc_3 {hh : Option Value} {w : World} {s : Shared} {t : Tok} (X : (hd.heap_39 w.params).In s.heap) :
    wpAny (model PW w) (AH hh 500 200) (call (.builtin "_struct.calcsize") [.str (Str.ofString ">BHB") t]) (fun r s' => (∃ t, r = .int 4 t) ∧ ∃ tk, s' = { s with toks := tk }) (fun _ _ => False) s := by
  x_run
theorem calc_4 {hh : Option Value} {w : World} {s : Shared} {t : Tok} (X : (hd.heap_39 w.params).In s.heap) :
    wpAny (model PW w) (AH hh 500 200) (call (.builtin "_struct.calcsize") [.str (Str.ofString ">qB") t]) (fun r s' => (∃ t, r = .int 9 t) ∧ ∃ tk, s' = { s with toks := tk }) (fun _ _ => False) s := by
  x_run
theorem calc_5 {hh : Option Value} {w : World} {s : Shared} {t : Tok} (X : (hd.heap_39 w.params).In s.heap) :
    wpAny (model PW w) (AH hh 500 200) (call (.builtin "_struct.calcsize") [.str (Str.ofString "<hb") t]) (fun r s' => (∃ t, r = .int 3 t) ∧ ∃ tk, s' = { s with toks := tk }) (fun _ _ => False) s := by
  x_run
theorem calc_6 {hh : Option Value} {w : World} {s : Shared} {t : Tok} (X : (hd.heap_39 w.params).In s.heap) :
    wpAny (model PW w) (AH hh 500 200) (call (.builtin "_struct.calcsize") [.str (Str.ofString ">Q") t]) (fun r s' => (∃ t, r = .int 8 t) ∧ ∃ tk, s' = { s with toks := tk }) (fun _ _ => False) s := by
  x_run
theorem calc_K {w : World} {A : Around} {s : Shared} {x : Value} {n : Int} {Q E : Value → Shared → Prop} (h : wpAny (model PW w) (AH A.handled 500 200) (call (.builtin "_struct.calcsize") [x]) (fun r s' => (∃ t, r = .int n t) ∧ ∃ tk, s' = { s with toks := tk }) (fun _ _ => False) s)
   (hd : A.depth ≤ 500) (hu : A.units ≤ 200) (q : ∀ t k, Q (.int n t) { s with toks := k }) : wpAny (model PW w) A (call (.builtin "_struct.calcsize") [x]) Q E s :=
  wpAny_mono (wpAny_ah h hd hu) (fun v s' z => by obtain ⟨⟨t, rfl⟩, k, rfl⟩ := z; exact q t k) fun _ _ z => z.elim
end Mine
namespace Mine
local macro_rules | `(tactic| walk_at "zz0") => `(tactic| fail "zz")
local macro_rules | `(tactic| walk_at "zz1") => `(tactic| fail "zz")
local macro_rules | `(tactic| walk_at "zz2") => `(tactic| fail "zz")
local macro_rules | `(tactic| walk_at "zz3") => `(tactic| fail "zz")
local macro_rules | `(tactic| walk_at "zz4") => `(tactic| fail "zz")
theorem off_FEisi : True := by
  w_top off
  trivial
local macro_rules | `(tactic| k_mem) => `(tactic| assumption)
local macro_rules | `(tactic| walk_at "compareOp In str ref") => `(tactic| (k_here; first
  | (refine c_in (k := Sum.inr _) (knd := ckKind _ _) (by k_asm) (DictL.mono (by assumption) (by kcj_all)) (ck_str _ _ _ _) (by assumption) ?_)
  | (refine c_in (b := true) (knd := strKind _ _) (by k_asm) (DictL.mono (by assumption) (by kcj_all)) (strKind_is _ _ _ _) (by rfl) ?_)
  | (refine c_in (b := false) (knd := strKind _ _) (by k_asm) (DictL.mono (by assumption) (by kcj_all)) (strKind_is _ _ _ _) (by rfl) ?_)))
local macro_rules | `(tactic| walk_at "compareOp NotIn str ref") => `(tactic| (k_here; refine c_notin (k := Sum.inr _) (knd := ckKind _ _) (by k_asm) (DictL.mono (by assumption) (by kcj_all)) (ck_str _ _ _ _) (by assumption) ?_))
local macro_rules | `(tactic| walk_at "compareOp In int ref") => `(tactic| (k_here; refine c_in (k := Sum.inl _) (knd := ckKind _ _) (by k_asm) (DictL.mono (by assumption) (by kcj_all)) (ck_int _ _ _ _) (by assumption) ?_))
local macro_rules | `(tactic| walk_at "compareOp NotIn int ref") => `(tactic| (k_here; refine c_notin (k := Sum.inl _) (knd := ckKind _ _) (by k_asm) (DictL.mono (by assumption) (by kcj_all)) (ck_int _ _ _ _) (by assumption) ?_))
local macro_rules | `(tactic| walk_at "subscriptTail") => `(tactic| (k_here; first
  | ((with_reducible show wpAny _ _ (subscriptTail _ _ (Value.ref _) (Value.int _ _)) _ _ _); (refine c_item (k := Sum.inl _) (knd := ckKind _ _) (by k_asm) (DictL.mono (by assumption) (by kcj_all)) (ck_int _ _ _ _) (by assumption) ?_))
  | ((with_reducible show wpAny _ _ (subscriptTail _ _ (Value.ref _) (Value.str _ _)) _ _ _); (refine c_item (k := Sum.inr _) (knd := ckKind _ _) (by k_asm) (DictL.mono (by assumption) (by kcj_all)) (ck_str _ _ _ _) (by assumption) ?_))
  | ((with_reducible show wpAny _ _ (subscriptTail _ _ (Value.ref _) (Value.str _ _)) _ _ _); (refine c_item (knd := strKind _ _) (by k_asm) (DictL.mono (by assumption) (by kcj_all)) (strKind_is _ _ _ _) (by rfl) ?_))))
local macro_rules | `(tactic| x_close) => `(tactic| (first | exact ⟨rfl, _, rfl⟩ | (fail "close")))
theorem isd_117 {hh : Option Value} {w : World} {s : Shared} {a : Addr} {es : Array DictEntry} {ep : Nat} (X : (hd.heap_39 w.params).In s.heap) (ha : s.heap.get? a = some ⟨.type "dict", none, .dict es ep, #[]⟩) :
    wpAny (model PW w) (AH hh 500 200) (call (.builtin "isinstance") [.ref a, .ref 117]) (fun r s' => r = .bool false ∧ ∃ tk, s' = { s with toks := tk }) (fun _ _ => False) s := by
  x_run
theorem isd_dict {hh : Option Value} {w : World} {s : Shared} {a : Addr} {es : Array DictEntry} {ep : Nat} (X : (hd.heap_39 w.params).In s.heap) (ha : s.heap.get? a = some ⟨.type "dict", none, .dict es ep, #[]⟩) :
    wpAny (model PW w) (AH hh 500 200) (call (.builtin "isinstance") [.ref a, .type "dict"]) (fun r s' => r = .bool true ∧ ∃ tk, s' = { s with toks := tk }) (fun _ _ => False) s := by
  x_run
theorem isd_str {hh : Option Value} {w : World} {s : Shared} {a : Addr} {es : Array DictEntry} {ep : Nat} (X : (hd.heap_39 w.params).In s.heap) (ha : s.heap.get? a = some ⟨.type "dict", none, .dict es ep, #[]⟩) :
    wpAny (model PW w) (AH hh 500 200) (call (.builtin "isinstance") [.ref a, .type "str"]) (fun r s' => r = .bool false ∧ ∃ tk, s' = { s with toks := tk }) (fun _ _ => False) s := by
  x_run
theorem isd_K {w : World} {A : Around} {s : Shared} {h₀ : Heap} {L a : Addr} {N : Led} {kvs : List (Str × Value)} {c : Value} {b : Bool} {Q E : Value → Shared → Prop} (H : News h₀ L s.heap N) (D : DictL (sK w) N a kvs)
   (hx : ∀ es ep, s.heap.get? a = some ⟨.type "dict", none, .dict es ep, #[]⟩ → wpAny (model PW w) (AH A.handled 500 200) (call (.builtin "isinstance") [.ref a, c]) (fun r s' => r = .bool b ∧ ∃ tk, s' = { s with toks := tk }) (fun _ _ => False) s)
   (hd : A.depth ≤ 500) (hu : A.units ≤ 200) (q : ∀ k, Q (.bool b) { s with toks := k }) : wpAny (model PW w) A (call (.builtin "isinstance") [.ref a, c]) Q E s := by
  obtain ⟨o, hm, es, ep, ⟨e1, e2, e3⟩, e4, _⟩ := D.ex
  have ha := (H _ hm).1
  obtain ⟨oc, od, odt, osl⟩ := o
  cases e1; cases e2; cases e3; cases e4
  exact wpAny_mono (wpAny_ah (hx es ep ha) hd hu) (fun v s' z => by obtain ⟨rfl, k, rfl⟩ := z; exact q k) fun _ _ z => z.elim
theorem tyd_K {w : World} {A : Around} {s : Shared} {h₀ : Heap} {L a : Addr} {N : Led} {kvs : List (Str × Value)} {Q E : Value → Shared → Prop} (H : News h₀ L s.heap N) (D : DictL (sK w) N a kvs) (q : Q (.type "dict") s) :
   wpAny (model PW w) A (call (.type "type") [.ref a]) Q E s := by
  obtain ⟨o, hm, es, ep, ⟨e1, e2, e3⟩, e4, _⟩ := D.ex
  exact PySem.W.kto_cont (T := "dict") ⟨o, (H _ hm).1, e1⟩ (by decide +kernel) q
theorem is_instdict {w : World} {A : Around} {s : Shared} {h₀ : Heap} {L a x d C : Addr} {N' : Led} {kvs : List (Str × Value)} {Q E : Value → Shared → Prop} (H : News h₀ L s.heap N') (hx : (x, instObj C d) ∈ N') (D : DictL (sK w) N' a kvs) (q : Q (.bool false) s) :
   wpAny (model PW w) A (compareOp .Is (.ref x) (.ref a)) Q E s := by
  obtain ⟨o, hm, es, ep, ⟨e1, e2, e3⟩, e4, _⟩ := D.ex
  refine PySem.W.kto_is (H _ hx).1 (H _ hm).1 (fun z => ?_) (fun z => by cases z) q
  have h1 : s.heap.get? x = some (instObj C d) := (H _ hx).1
  have h2 : s.heap.get? a = some o := (H _ hm).1
  rw [z, h2] at h1
  cases h1
  cases e1
end Mine
namespace Mine
local macro_rules | `(tactic| walk_at "zz0") => `(tactic| fail "zz")
local macro_rules | `(tactic| walk_at "zz1") => `(tactic| fail "zz")
theorem off_FEmade : True := by
  w_top off
  trivial
local macro_rules | `(tactic| k_mem) => `(tactic| assumption)
local macro_rules | `(tactic| walk_at "compareOp In str ref") => `(tactic| (k_here; first
  | (refine c_in (k := Sum.inr _) (knd := ckKind _ _) (by k_asm) (DictL.mono (by assumption) (by kcj_all)) (ck_str _ _ _ _) (by assumption) ?_)
  | (refine c_in (b := true) (knd := strKind _ _) (by k_asm) (DictL.mono (by assumption) (by kcj_all)) (strKind_is _ _ _ _) (by rfl) ?_)
  | (refine c_in (b := false) (knd := strKind _ _) (by k_asm) (DictL.mono (by assumption) (by kcj_all)) (strKind_is _ _ _ _) (by rfl) ?_)))
local macro_rules | `(tactic| walk_at "compareOp NotIn str ref") => `(tactic| (k_here; refine c_notin (k := Sum.inr _) (knd := ckKind _ _) (by k_asm) (DictL.mono (by assumption) (by kcj_all)) (ck_str _ _ _ _) (by assumption) ?_))
local macro_rules | `(tactic| walk_at "compareOp In int ref") => `(tactic| (k_here; refine c_in (k := Sum.inl _) (knd := ckKind _ _) (by k_asm) (DictL.mono (by assumption) (by kcj_all)) (ck_int _ _ _ _) (by assumption) ?_))
local macro_rules | `(tactic| walk_at "compareOp NotIn int ref") => `(tactic| (k_here; refine c_notin (k := Sum.inl _) (knd := ckKind _ _) (by k_asm) (DictL.mono (by assumption) (by kcj_all)) (ck_int _ _ _ _) (by assumption) ?_))
local macro_rules | `(tactic| walk_at "subscriptTail") => `(tactic| (k_here; first
  | ((with_reducible show wpAny _ _ (subscriptTail _ _ (Value.ref _) (Value.int _ _)) _ _ _); (refine c_item (k := Sum.inl _) (knd := ckKind _ _) (by k_asm) (DictL.mono (by assumption) (by kcj_all)) (ck_int _ _ _ _) (by assumption) ?_))
  | ((with_reducible show wpAny _ _ (subscriptTail _ _ (Value.ref _) (Value.str _ _)) _ _ _); (refine c_item (k := Sum.inr _) (knd := ckKind _ _) (by k_asm) (DictL.mono (by assumption) (by kcj_all)) (ck_str _ _ _ _) (by assumption) ?_))
  | ((with_reducible show wpAny _ _ (subscriptTail _ _ (Value.ref _) (Value.str _ _)) _ _ _); (refine c_item (knd := strKind _ _) (by k_asm) (DictL.mono (by assumption) (by kcj_all)) (strKind_is _ _ _ _) (by rfl) ?_))))
local macro_rules | `(tactic| walk_at "binaryOp Mod str type:int") => `(tactic| (k_here; k_dflt (refine mod_ty_int (by k_in) (by dsimp only [Around.deeper]; omega) (by dsimp only [Around.deeper]; omega) ?_); intro x' t' k'; (try dsimp only)))
local macro_rules | `(tactic| walk_at "binaryOp Mod str type:dict") => `(tactic| (k_here; k_dflt (refine mod_ty_dict (by k_in) (by dsimp only [Around.deeper]; omega) (by dsimp only [Around.deeper]; omega) ?_); intro x' t' k'; (try dsimp only)))
local macro_rules | `(tactic| walk_at "binaryOp Mod str type") => `(tactic| (k_here; k_dflt (first | refine mod_ty_int (by k_in) (by dsimp only [Around.deeper]; omega) (by dsimp only [Around.deeper]; omega) ?_ | refine mod_ty_dict (by k_in) (by dsimp only [Around.deeper]; omega) (by dsimp only [Around.deeper]; omega) ?_); intro x' t' k'; (try dsimp only)))
local macro_rules | `(tactic| walk_at "call builtin:_struct.calcsize") => `(tactic| (k_here; k_dflt (first | refine calc_K (calc_0 (by k_in)) ?d ?u ?_ | refine calc_K (calc_1 (by k_in)) ?d ?u ?_ | refine calc_K (calc_2 (by k_in)) ?d ?u ?_ | refine calc_K (calc_3 (by k_in)) ?d ?u ?_ | refine calc_K (calc_4 (by k_in)) ?d ?u ?_ | refine calc_K (calc_5 (by k_in)) ?d ?u ?_ | refine calc_K (calc_6 (by k_in)) ?d ?u ?_); (case d => (dsimp only [Around.deeper, Around.in1]; omega)); (case u => (dsimp only [Around.deeper, Around.in1]; omega)); intro t' k'; (try dsimp only)))
local macro_rules | `(tactic| walk_at "compareOp Is ref str") => `(tactic| (k_here; refine wpAny_is_other (by rfl) (by intro x; cases x) ?_))
local macro_rules | `(tactic| walk_at "call builtin:isinstance") => `(tactic| (k_here; k_dflt (first
  | refine' isd_K (c := .ref 117) (b := false) ?H ?D (fun _ _ ha => isd_117 ?X ha) ?d ?u ?_
  | refine' isd_K (c := .type "dict") (b := true) ?H ?D (fun _ _ ha => isd_dict ?X ha) ?d ?u ?_
  | refine' isd_K (c := .type "str") (b := false) ?H ?D (fun _ _ ha => isd_str ?X ha) ?d ?u ?_); (case H => k_asm); (case D => exact DictL.mono (by assumption) (by kcj_all)); (case X => k_in); (case d => (dsimp only [Around.deeper, Around.in1]; omega)); (case u => (dsimp only [Around.deeper, Around.in1]; omega)); intro k'; (try dsimp only)))
local macro_rules | `(tactic| walk_at "call type:type") => `(tactic| (k_here; k_dflt (refine' tyd_K ?H ?D ?_; (case H => k_asm); (case D => exact DictL.mono (by assumption) (by kcj_all)))))
local macro_rules | `(tactic| walk_at "compareOp Is ref ref") => `(tactic| (k_here; k_dflt (refine' is_instdict ?H ?hx ?D ?_; (case H => k_asm); (case hx => exact .head _); (case D => exact DictL.mono (by assumption) (by kcj_all)))))

theorem made_fmt0 {t : Tok} {w : World} {mean : ExcName → Option Value} {mg mb : Str → Option Value} {N : Led}
  {un : Nat} {gd : Option (List Code)} {cn : Str} {cs : Scope} {a : Addr} {ccd : Value} {cl : List (Str × Addr)} {A₀ : Around} {base h₀ : Heap} {L : Addr} {m : Str → Option Value} {s : Shared} {Q E : Value → Shared → Prop}
  (B : Below A₀ base [] h₀) (F : Fr h₀ L s.heap m) (X : (hd.heap_39 w.params).In h₀) (H : News h₀ L s.heap N) (T : Top hd.view_39 LO mean mg mb h₀) (hk : cs.kind = .function) (XB : (hd.heap_39 w.params).In base) (TB : Top hd.view_39 LO mean mg mb base) (hun : un ≤ 100)
  
  (hret : Kept h₀ L m N s Q fun N' l => Rep w N' (.ref l) (.list [.str (Str.ofString "codec"), .int 1, .bool false, .str (Str.ofString "B")])) :
  wpAny (model PW w) (ktrTop 302 un gd cn cs L a ccd cl []) (call (.ref 239) [.str (Str.ofString "B") t]) Q E s := by
  revert X H XB
  unfold PW
  k_fill
  intro X H XB
  refine wpAny_call ?_
  k_dflt ((refine' code_defSX ?k1 ?k2 ?k3 ?k4 ?k5 ?kA ?k6 ?k7 ?k8 ?k9 ?kB ?_ ?cK ?c2 ?c3 ?c4 ?c5; (case kA => exact rfl); (case k2 => k_asm); (case k1 => k_asm); (case k3 => k_asm); (case k4 => k_asm); (case k5 => k_asm); (case k6 => k_is); (case k7 => k_is); (case k8 => k_room); (case k9 => exact BindsTo.of_eq rfl); (case kB => exact locs rfl); (case cK => assumption); (case c2 => exact rfl); (case c3 => exact rfl); (case c4 => exact rfl); (case c5 => decide); k_whole; intro g' L' h' FG' F' N' B' X' T' D'; (try dsimp only); (try k_lift B'); (try k_fold)))
  k_steps
  exact hret _ _ _ [_, _, _] (by assumption) (by assumption) (.list (.head _) (.cons (.str _ _) (.cons (.int _ _) (.cons (.bool _) (.cons (.str _ _) .nil)))))
theorem made_fmt1 {t : Tok} {w : World} {mean : ExcName → Option Value} {mg mb : Str → Option Value} {N : Led}
  {un : Nat} {gd : Option (List Code)} {cn : Str} {cs : Scope} {a : Addr} {ccd : Value} {cl : List (Str × Addr)} {A₀ : Around} {base h₀ : Heap} {L : Addr} {m : Str → Option Value} {s : Shared} {Q E : Value → Shared → Prop}
  (B : Below A₀ base [] h₀) (F : Fr h₀ L s.heap m) (X : (hd.heap_39 w.params).In h₀) (H : News h₀ L s.heap N) (T : Top hd.view_39 LO mean mg mb h₀) (hk : cs.kind = .function) (XB : (hd.heap_39 w.params).In base) (TB : Top hd.view_39 LO mean mg mb base) (hun : un ≤ 100)
  
  (hret : Kept h₀ L m N s Q fun N' l => Rep w N' (.ref l) (.list [.str (Str.ofString "codec"), .int 2, .bool false, .str (Str.ofString ">H")])) :
  wpAny (model PW w) (ktrTop 302 un gd cn cs L a ccd cl []) (call (.ref 239) [.str (Str.ofString ">H") t]) Q E s := by
  revert X H XB
  unfold PW
  k_fill
  intro X H XB
  refine wpAny_call ?_
  k_dflt ((refine' code_defSX ?k1 ?k2 ?k3 ?k4 ?k5 ?kA ?k6 ?k7 ?k8 ?k9 ?kB ?_ ?cK ?c2 ?c3 ?c4 ?c5; (case kA => exact rfl); (case k2 => k_asm); (case k1 => k_asm); (case k3 => k_asm); (case k4 => k_asm); (case k5 => k_asm); (case k6 => k_is); (case k7 => k_is); (case k8 => k_room); (case k9 => exact BindsTo.of_eq rfl); (case kB => exact locs rfl); (case cK => assumption); (case c2 => exact rfl); (case c3 => exact rfl); (case c4 => exact rfl); (case c5 => decide); k_whole; intro g' L' h' FG' F' N' B' X' T' D'; (try dsimp only); (try k_lift B'); (try k_fold)))
  k_steps
  exact hret _ _ _ [_, _, _] (by assumption) (by assumption) (.list (.head _) (.cons (.str _ _) (.cons (.int _ _) (.cons (.bool _) (.cons (.str _ _) .nil)))))
theorem made_fmt2 {t : Tok} {w : World} {mean : ExcName → Option Value} {mg mb : Str → Option Value} {N : Led}
  {un : Nat} {gd : Option (List Code)} {cn : Str} {cs : Scope} {a : Addr} {ccd : Value} {cl : List (Str × Addr)} {A₀ : Around} {base h₀ : Heap} {L : Addr} {m : Str → Option Value} {s : Shared} {Q E : Value → Shared → Prop}
  (B : Below A₀ base [] h₀) (F : Fr h₀ L s.heap m) (X : (hd.heap_39 w.params).In h₀) (H : News h₀ L s.heap N) (T : Top hd.view_39 LO mean mg mb h₀) (hk : cs.kind = .function) (XB : (hd.heap_39 w.params).In base) (TB : Top hd.view_39 LO mean mg mb base) (hun : un ≤ 100)
  
  (hret : Kept h₀ L m N s Q fun N' l => Rep w N' (.ref l) (.list [.str (Str.ofString "codec"), .int 4, .bool false, .str (Str.ofString "<I")])) :
  wpAny (model PW w) (ktrTop 302 un gd cn cs L a ccd cl []) (call (.ref 239) [.str (Str.ofString "<I") t]) Q E s := by
  revert X H XB
  unfold PW
  k_fill
  intro X H XB
  refine wpAny_call ?_
  k_dflt ((refine' code_defSX ?k1 ?k2 ?k3 ?k4 ?k5 ?kA ?k6 ?k7 ?k8 ?k9 ?kB ?_ ?cK ?c2 ?c3 ?c4 ?c5; (case kA => exact rfl); (case k2 => k_asm); (case k1 => k_asm); (case k3 => k_asm); (case k4 => k_asm); (case k5 => k_asm); (case k6 => k_is); (case k7 => k_is); (case k8 => k_room); (case k9 => exact BindsTo.of_eq rfl); (case kB => exact locs rfl); (case cK => assumption); (case c2 => exact rfl); (case c3 => exact rfl); (case c4 => exact rfl); (case c5 => decide); k_whole; intro g' L' h' FG' F' N' B' X' T' D'; (try dsimp only); (try k_lift B'); (try k_fold)))
  k_steps
  exact hret _ _ _ [_, _, _] (by assumption) (by assumption) (.list (.head _) (.cons (.str _ _) (.cons (.int _ _) (.cons (.bool _) (.cons (.str _ _) .nil)))))
theorem made_fmt3 {t : Tok} {w : World} {mean : ExcName → Option Value} {mg mb : Str → Option Value} {N : Led}
  {un : Nat} {gd : Option (List Code)} {cn : Str} {cs : Scope} {a : Addr} {ccd : Value} {cl : List (Str × Addr)} {A₀ : Around} {base h₀ : Heap} {L : Addr} {m : Str → Option Value} {s : Shared} {Q E : Value → Shared → Prop}
  (B : Below A₀ base [] h₀) (F : Fr h₀ L s.heap m) (X : (hd.heap_39 w.params).In h₀) (H : News h₀ L s.heap N) (T : Top hd.view_39 LO mean mg mb h₀) (hk : cs.kind = .function) (XB : (hd.heap_39 w.params).In base) (TB : Top hd.view_39 LO mean mg mb base) (hun : un ≤ 100)
  
  (hret : Kept h₀ L m N s Q fun N' l => Rep w N' (.ref l) (.list [.str (Str.ofString "codec"), .int 4, .bool false, .str (Str.ofString ">BHB")])) :
  wpAny (model PW w) (ktrTop 302 un gd cn cs L a ccd cl []) (call (.ref 239) [.str (Str.ofString ">BHB") t]) Q E s := by
  revert X H XB
  unfold PW
  k_fill
  intro X H XB
  refine wpAny_call ?_
  k_dflt ((refine' code_defSX ?k1 ?k2 ?k3 ?k4 ?k5 ?kA ?k6 ?k7 ?k8 ?k9 ?kB ?_ ?cK ?c2 ?c3 ?c4 ?c5; (case kA => exact rfl); (case k2 => k_asm); (case k1 => k_asm); (case k3 => k_asm); (case k4 => k_asm); (case k5 => k_asm); (case k6 => k_is); (case k7 => k_is); (case k8 => k_room); (case k9 => exact BindsTo.of_eq rfl); (case kB => exact locs rfl); (case cK => assumption); (case c2 => exact rfl); (case c3 => exact rfl); (case c4 => exact rfl); (case c5 => decide); k_whole; intro g' L' h' FG' F' N' B' X' T' D'; (try dsimp only); (try k_lift B'); (try k_fold)))
  k_steps
  exact hret _ _ _ [_, _, _] (by assumption) (by assumption) (.list (.head _) (.cons (.str _ _) (.cons (.int _ _) (.cons (.bool _) (.cons (.str _ _) .nil)))))
theorem made_fmt4 {t : Tok} {w : World} {mean : ExcName → Option Value} {mg mb : Str → Option Value} {N : Led}
  {un : Nat} {gd : Option (List Code)} {cn : Str} {cs : Scope} {a : Addr} {ccd : Value} {cl : List (Str × Addr)} {A₀ : Around} {base h₀ : Heap} {L : Addr} {m : Str → Option Value} {s : Shared} {Q E : Value → Shared → Prop}
  (B : Below A₀ base [] h₀) (F : Fr h₀ L s.heap m) (X : (hd.heap_39 w.params).In h₀) (H : News h₀ L s.heap N) (T : Top hd.view_39 LO mean mg mb h₀) (hk : cs.kind = .function) (XB : (hd.heap_39 w.params).In base) (TB : Top hd.view_39 LO mean mg mb base) (hun : un ≤ 100)
  
  (hret : Kept h₀ L m N s Q fun N' l => Rep w N' (.ref l) (.list [.str (Str.ofString "codec"), .int 9, .bool false, .str (Str.ofString ">qB")])) :
  wpAny (model PW w) (ktrTop 302 un gd cn cs L a ccd cl []) (call (.ref 239) [.str (Str.ofString ">qB") t]) Q E s := by
  revert X H XB
  unfold PW
  k_fill
  intro X H XB
  refine wpAny_call ?_
  k_dflt ((refine' code_defSX ?k1 ?k2 ?k3 ?k4 ?k5 ?kA ?k6 ?k7 ?k8 ?k9 ?kB ?_ ?cK ?c2 ?c3 ?c4 ?c5; (case kA => exact rfl); (case k2 => k_asm); (case k1 => k_asm); (case k3 => k_asm); (case k4 => k_asm); (case k5 => k_asm); (case k6 => k_is); (case k7 => k_is); (case k8 => k_room); (case k9 => exact BindsTo.of_eq rfl); (case kB => exact locs rfl); (case cK => assumption); (case c2 => exact rfl); (case c3 => exact rfl); (case c4 => exact rfl); (case c5 => decide); k_whole; intro g' L' h' FG' F' N' B' X' T' D'; (try dsimp only); (try k_lift B'); (try k_fold)))
  k_steps
  exact hret _ _ _ [_, _, _] (by assumption) (by assumption) (.list (.head _) (.cons (.str _ _) (.cons (.int _ _) (.cons (.bool _) (.cons (.str _ _) .nil)))))
theorem made_emp {t : Tok} {w : World} {mean : ExcName → Option Value} {mg mb : Str → Option Value} {N : Led}
  {un : Nat} {gd : Option (List Code)} {cn : Str} {cs : Scope} {a : Addr} {ccd : Value} {cl : List (Str × Addr)} {A₀ : Around} {base h₀ : Heap} {L : Addr} {m : Str → Option Value} {s : Shared} {Q E : Value → Shared → Prop}
  (B : Below A₀ base [] h₀) (F : Fr h₀ L s.heap m) (X : (hd.heap_39 w.params).In h₀) (H : News h₀ L s.heap N) (T : Top hd.view_39 LO mean mg mb h₀) (hk : cs.kind = .function) (XB : (hd.heap_39 w.params).In base) (TB : Top hd.view_39 LO mean mg mb base) (hun : un ≤ 100)
  
  (hret : Kept h₀ L m N s Q fun N' l => Rep w N' (.ref l) (.list [.str (Str.ofString "no codec")])) :
  wpAny (model PW w) (ktrTop 302 un gd cn cs L a ccd cl []) (call (.ref 239) [.str (Str.ofString "") t]) Q E s := by
  revert X H XB
  unfold PW
  k_fill
  intro X H XB
  refine wpAny_call ?_
  k_dflt ((refine' code_defSX ?k1 ?k2 ?k3 ?k4 ?k5 ?kA ?k6 ?k7 ?k8 ?k9 ?kB ?_ ?cK ?c2 ?c3 ?c4 ?c5; (case kA => exact rfl); (case k2 => k_asm); (case k1 => k_asm); (case k3 => k_asm); (case k4 => k_asm); (case k5 => k_asm); (case k6 => k_is); (case k7 => k_is); (case k8 => k_room); (case k9 => exact BindsTo.of_eq rfl); (case kB => exact locs rfl); (case cK => assumption); (case c2 => exact rfl); (case c3 => exact rfl); (case c4 => exact rfl); (case c5 => decide); k_whole; intro g' L' h' FG' F' N' B' X' T' D'; (try dsimp only); (try k_lift B'); (try k_fold)))
  k_steps
  exact hret _ _ _ [_] (by assumption) (by assumption) (.list (.head _) (.cons (.str _ _) .nil))
theorem made_num {t : Tok} {i : Int} {w : World} {mean : ExcName → Option Value} {mg mb : Str → Option Value} {N : Led}
  {un : Nat} {gd : Option (List Code)} {cn : Str} {cs : Scope} {a : Addr} {ccd : Value} {cl : List (Str × Addr)} {A₀ : Around} {base h₀ : Heap} {L : Addr} {m : Str → Option Value} {s : Shared} {Q E : Value → Shared → Prop}
  (B : Below A₀ base [] h₀) (F : Fr h₀ L s.heap m) (X : (hd.heap_39 w.params).In h₀) (H : News h₀ L s.heap N) (T : Top hd.view_39 LO mean mg mb h₀) (hk : cs.kind = .function) (XB : (hd.heap_39 w.params).In base) (TB : Top hd.view_39 LO mean mg mb base) (hun : un ≤ 100)
  
  (hret : Kept h₀ L m N s Q fun N' l => Rep w N' (.ref l) (.list [.str (Str.ofString "no codec")])) :
  wpAny (model PW w) (ktrTop 302 un gd cn cs L a ccd cl []) (call (.ref 239) [.int i t]) Q E s := by
  revert X H XB
  unfold PW
  k_fill
  intro X H XB
  refine wpAny_call ?_
  k_dflt ((refine' code_defSX ?k1 ?k2 ?k3 ?k4 ?k5 ?kA ?k6 ?k7 ?k8 ?k9 ?kB ?_ ?cK ?c2 ?c3 ?c4 ?c5; (case kA => exact rfl); (case k2 => k_asm); (case k1 => k_asm); (case k3 => k_asm); (case k4 => k_asm); (case k5 => k_asm); (case k6 => k_is); (case k7 => k_is); (case k8 => k_room); (case k9 => exact BindsTo.of_eq rfl); (case kB => exact locs rfl); (case cK => assumption); (case c2 => exact rfl); (case c3 => exact rfl); (case c4 => exact rfl); (case c5 => decide); k_whole; intro g' L' h' FG' F' N' B' X' T' D'; (try dsimp only); (try k_lift B'); (try k_fold)))
  k_steps
  exact hret _ _ _ [_] (by assumption) (by assumption) (.list (.head _) (.cons (.str _ _) .nil))
theorem made_mask {a₁ : Addr} {i : Int} {t : Tok} {w : World} {mean : ExcName → Option Value} {mg mb : Str → Option Value} {N : Led}
  {un : Nat} {gd : Option (List Code)} {cn : Str} {cs : Scope} {a : Addr} {ccd : Value} {cl : List (Str × Addr)} {A₀ : Around} {base h₀ : Heap} {L : Addr} {m : Str → Option Value} {s : Shared} {Q E : Value → Shared → Prop}
  (B : Below A₀ base [] h₀) (F : Fr h₀ L s.heap m) (X : (hd.heap_39 w.params).In h₀) (H : News h₀ L s.heap N) (T : Top hd.view_39 LO mean mg mb h₀) (hk : cs.kind = .function) (XB : (hd.heap_39 w.params).In base) (TB : Top hd.view_39 LO mean mg mb base) (hun : un ≤ 100)
  (D : DictL (sK w) N a₁ [(Str.ofString "mask", .int i t)])
  (hret : Kept h₀ L m N s Q fun N' l => Rep w N' (.ref l) (.list [.str (Str.ofString "no codec")])) :
  wpAny (model PW w) (ktrTop 302 un gd cn cs L a ccd cl []) (call (.ref 239) [.ref a₁]) Q E s := by
  revert X H XB
  unfold PW
  k_fill
  intro X H XB
  refine wpAny_call ?_
  k_dflt ((refine' code_defSX ?k1 ?k2 ?k3 ?k4 ?k5 ?kA ?k6 ?k7 ?k8 ?k9 ?kB ?_ ?cK ?c2 ?c3 ?c4 ?c5; (case kA => exact rfl); (case k2 => k_asm); (case k1 => k_asm); (case k3 => k_asm); (case k4 => k_asm); (case k5 => k_asm); (case k6 => k_is); (case k7 => k_is); (case k8 => k_room); (case k9 => exact BindsTo.of_eq rfl); (case kB => exact locs rfl); (case cK => assumption); (case c2 => exact rfl); (case c3 => exact rfl); (case c4 => exact rfl); (case c5 => decide); k_whole; intro g' L' h' FG' F' N' B' X' T' D'; (try dsimp only); (try k_lift B'); (try k_fold)))
  k_steps
  exact hret _ _ _ [_] (by assumption) (by assumption) (.list (.head _) (.cons (.str _ _) .nil))
theorem made_cemp {a₁ : Addr} {t : Tok} {w : World} {mean : ExcName → Option Value} {mg mb : Str → Option Value} {N : Led}
  {un : Nat} {gd : Option (List Code)} {cn : Str} {cs : Scope} {a : Addr} {ccd : Value} {cl : List (Str × Addr)} {A₀ : Around} {base h₀ : Heap} {L : Addr} {m : Str → Option Value} {s : Shared} {Q E : Value → Shared → Prop}
  (B : Below A₀ base [] h₀) (F : Fr h₀ L s.heap m) (X : (hd.heap_39 w.params).In h₀) (H : News h₀ L s.heap N) (T : Top hd.view_39 LO mean mg mb h₀) (hk : cs.kind = .function) (XB : (hd.heap_39 w.params).In base) (TB : Top hd.view_39 LO mean mg mb base) (hun : un ≤ 100)
  (D : DictL (sK w) N a₁ [(Str.ofString "codec", .str (Str.ofString "") t)])
  (hret : Kept h₀ L m N s Q fun N' l => Rep w N' (.ref l) (.list [.str (Str.ofString "no codec")])) :
  wpAny (model PW w) (ktrTop 302 un gd cn cs L a ccd cl []) (call (.ref 239) [.ref a₁]) Q E s := by
  revert X H XB
  unfold PW
  k_fill
  intro X H XB
  refine wpAny_call ?_
  k_dflt ((refine' code_defSX ?k1 ?k2 ?k3 ?k4 ?k5 ?kA ?k6 ?k7 ?k8 ?k9 ?kB ?_ ?cK ?c2 ?c3 ?c4 ?c5; (case kA => exact rfl); (case k2 => k_asm); (case k1 => k_asm); (case k3 => k_asm); (case k4 => k_asm); (case k5 => k_asm); (case k6 => k_is); (case k7 => k_is); (case k8 => k_room); (case k9 => exact BindsTo.of_eq rfl); (case kB => exact locs rfl); (case cK => assumption); (case c2 => exact rfl); (case c3 => exact rfl); (case c4 => exact rfl); (case c5 => decide); k_whole; intro g' L' h' FG' F' N' B' X' T' D'; (try dsimp only); (try k_lift B'); (try k_fold)))
  k_steps
  exact hret _ _ _ [_] (by assumption) (by assumption) (.list (.head _) (.cons (.str _ _) .nil))
theorem made_nest {a₁ b₁ c₁ : Addr} {t : Tok} {w : World} {mean : ExcName → Option Value} {mg mb : Str → Option Value} {N : Led}
  {un : Nat} {gd : Option (List Code)} {cn : Str} {cs : Scope} {a : Addr} {ccd : Value} {cl : List (Str × Addr)} {A₀ : Around} {base h₀ : Heap} {L : Addr} {m : Str → Option Value} {s : Shared} {Q E : Value → Shared → Prop}
  (B : Below A₀ base [] h₀) (F : Fr h₀ L s.heap m) (X : (hd.heap_39 w.params).In h₀) (H : News h₀ L s.heap N) (T : Top hd.view_39 LO mean mg mb h₀) (hk : cs.kind = .function) (XB : (hd.heap_39 w.params).In base) (TB : Top hd.view_39 LO mean mg mb base) (hun : un ≤ 100)
  (D : DictL (sK w) N a₁ [(Str.ofString "codec", .ref b₁)]) (D2 : DictL (sK w) N b₁ [(Str.ofString "codec", .str (Str.ofString "<hb") t), (Str.ofString "mask", .ref c₁)])
  (hret : Kept h₀ L m N s Q fun N' l => Rep w N' (.ref l) (.list [.str (Str.ofString "codec"), .int 3, .bool false, .str (Str.ofString "<hb")])) :
  wpAny (model PW w) (ktrTop 302 un gd cn cs L a ccd cl []) (call (.ref 239) [.ref a₁]) Q E s := by
  revert X H XB
  unfold PW
  k_fill
  intro X H XB
  refine wpAny_call ?_
  k_dflt ((refine' code_defSX ?k1 ?k2 ?k3 ?k4 ?k5 ?kA ?k6 ?k7 ?k8 ?k9 ?kB ?_ ?cK ?c2 ?c3 ?c4 ?c5; (case kA => exact rfl); (case k2 => k_asm); (case k1 => k_asm); (case k3 => k_asm); (case k4 => k_asm); (case k5 => k_asm); (case k6 => k_is); (case k7 => k_is); (case k8 => k_room); (case k9 => exact BindsTo.of_eq rfl); (case kB => exact locs rfl); (case cK => assumption); (case c2 => exact rfl); (case c3 => exact rfl); (case c4 => exact rfl); (case c5 => decide); k_whole; intro g' L' h' FG' F' N' B' X' T' D'; (try dsimp only); (try k_lift B'); (try k_fold)))
  k_steps
  exact hret _ _ _ [_, _, _] (by assumption) (by assumption) (.list (.head _) (.cons (.str _ _) (.cons (.int _ _) (.cons (.bool _) (.cons (.str _ _) .nil)))))
theorem made_quad {a₁ d₁ : Addr} {t u : Tok} {h₁ : Int} {w : World} {mean : ExcName → Option Value} {mg mb : Str → Option Value} {N : Led}
  {un : Nat} {gd : Option (List Code)} {cn : Str} {cs : Scope} {a : Addr} {ccd : Value} {cl : List (Str × Addr)} {A₀ : Around} {base h₀ : Heap} {L : Addr} {m : Str → Option Value} {s : Shared} {Q E : Value → Shared → Prop}
  (B : Below A₀ base [] h₀) (F : Fr h₀ L s.heap m) (X : (hd.heap_39 w.params).In h₀) (H : News h₀ L s.heap N) (T : Top hd.view_39 LO mean mg mb h₀) (hk : cs.kind = .function) (XB : (hd.heap_39 w.params).In base) (TB : Top hd.view_39 LO mean mg mb base) (hun : un ≤ 100)
  (hm : (a₁, instObj 117 d₁) ∈ N) (hd : (d₁, dictOf [⟨h₁, .str (Str.ofString "packstr") u, .str (Str.ofString ">Q") t⟩] 1) ∈ N)
  (hret : Kept h₀ L m N s Q fun N' l => Rep w N' (.ref l) (.list [.str (Str.ofString "codec"), .int 8, .bool true, .none])) :
  wpAny (model PW w) (ktrTop 302 un gd cn cs L a ccd cl []) (call (.ref 239) [.ref a₁]) Q E s := by
  revert X H XB
  unfold PW
  k_fill
  intro X H XB
  refine wpAny_call ?_
  k_dflt ((refine' code_defSX ?k1 ?k2 ?k3 ?k4 ?k5 ?kA ?k6 ?k7 ?k8 ?k9 ?kB ?_ ?cK ?c2 ?c3 ?c4 ?c5; (case kA => exact rfl); (case k2 => k_asm); (case k1 => k_asm); (case k3 => k_asm); (case k4 => k_asm); (case k5 => k_asm); (case k6 => k_is); (case k7 => k_is); (case k8 => k_room); (case k9 => exact BindsTo.of_eq rfl); (case kB => exact locs rfl); (case cK => assumption); (case c2 => exact rfl); (case c3 => exact rfl); (case c4 => exact rfl); (case c5 => decide); k_whole; intro g' L' h' FG' F' N' B' X' T' D'; (try dsimp only); (try k_lift B'); (try k_fold)))
  k_steps
  exact hret _ _ _ [_] (by assumption) (by assumption) (.list (.head _) (.cons (.str _ _) (.cons (.int _ _) (.cons (.bool _) (.cons .none .nil)))))
theorem made_asc {a₁ d₁ : Addr} {t u : Tok} {h₁ i : Int} {w : World} {mean : ExcName → Option Value} {mg mb : Str → Option Value} {N : Led}
  {un : Nat} {gd : Option (List Code)} {cn : Str} {cs : Scope} {a : Addr} {ccd : Value} {cl : List (Str × Addr)} {A₀ : Around} {base h₀ : Heap} {L : Addr} {m : Str → Option Value} {s : Shared} {Q E : Value → Shared → Prop}
  (B : Below A₀ base [] h₀) (F : Fr h₀ L s.heap m) (X : (hd.heap_39 w.params).In h₀) (H : News h₀ L s.heap N) (T : Top hd.view_39 LO mean mg mb h₀) (hk : cs.kind = .function) (XB : (hd.heap_39 w.params).In base) (TB : Top hd.view_39 LO mean mg mb base) (hun : un ≤ 100)
  (hi : 0 ≤ i) (hi2 : i < 300) (hm : (a₁, instObj 159 d₁) ∈ N) (hd : (d₁, dictOf [⟨h₁, .str (Str.ofString "string_len") u, .int i t⟩] 1) ∈ N)
  (hret : Kept h₀ L m N s Q fun N' l => Rep w N' (.ref l) (.list [.str (Str.ofString "codec"), .int i, .bool true, .none])) :
  wpAny (model PW w) (ktrTop 302 un gd cn cs L a ccd cl []) (call (.ref 239) [.ref a₁]) Q E s := by
  revert X H XB
  unfold PW
  k_fill
  intro X H XB
  refine wpAny_call ?_
  k_dflt ((refine' code_defSX ?k1 ?k2 ?k3 ?k4 ?k5 ?kA ?k6 ?k7 ?k8 ?k9 ?kB ?_ ?cK ?c2 ?c3 ?c4 ?c5; (case kA => exact rfl); (case k2 => k_asm); (case k1 => k_asm); (case k3 => k_asm); (case k4 => k_asm); (case k5 => k_asm); (case k6 => k_is); (case k7 => k_is); (case k8 => k_room); (case k9 => exact BindsTo.of_eq rfl); (case kB => exact locs rfl); (case cK => assumption); (case c2 => exact rfl); (case c3 => exact rfl); (case c4 => exact rfl); (case c5 => decide); k_whole; intro g' L' h' FG' F' N' B' X' T' D'; (try dsimp only); (try k_lift B'); (try k_fold)))
  k_steps
  exact hret _ _ _ [_] (by assumption) (by assumption) (.list (.head _) (.cons (.str _ _) (.cons (.int _ _) (.cons (.bool _) (.cons .none .nil)))))
end Mine
namespace Mine
local macro_rules | `(tactic| k_mem) => `(tactic| assumption)
local macro_rules | `(tactic| walk_at "compareOp In str ref") => `(tactic| (k_here; first
  | (refine c_in (k := Sum.inr _) (knd := ckKind _ _) (by k_asm) (DictL.mono (by assumption) (by kcj_all)) (ck_str _ _ _ _) (by assumption) ?_)
  | (refine c_in (b := true) (knd := strKind _ _) (by k_asm) (DictL.mono (by assumption) (by kcj_all)) (strKind_is _ _ _ _) (by rfl) ?_)
  | (refine c_in (b := false) (knd := strKind _ _) (by k_asm) (DictL.mono (by assumption) (by kcj_all)) (strKind_is _ _ _ _) (by rfl) ?_)))
local macro_rules | `(tactic| walk_at "compareOp NotIn str ref") => `(tactic| (k_here; refine c_notin (k := Sum.inr _) (knd := ckKind _ _) (by k_asm) (DictL.mono (by assumption) (by kcj_all)) (ck_str _ _ _ _) (by assumption) ?_))
local macro_rules | `(tactic| walk_at "compareOp In int ref") => `(tactic| (k_here; refine c_in (k := Sum.inl _) (knd := ckKind _ _) (by k_asm) (DictL.mono (by assumption) (by kcj_all)) (ck_int _ _ _ _) (by assumption) ?_))
local macro_rules | `(tactic| walk_at "compareOp NotIn int ref") => `(tactic| (k_here; refine c_notin (k := Sum.inl _) (knd := ckKind _ _) (by k_asm) (DictL.mono (by assumption) (by kcj_all)) (ck_int _ _ _ _) (by assumption) ?_))
local macro_rules | `(tactic| walk_at "subscriptTail") => `(tactic| (k_here; first
  | ((with_reducible show wpAny _ _ (subscriptTail _ _ (Value.ref _) (Value.int _ _)) _ _ _); (refine c_item (k := Sum.inl _) (knd := ckKind _ _) (by k_asm) (DictL.mono (by assumption) (by kcj_all)) (ck_int _ _ _ _) (by assumption) ?_))
  | ((with_reducible show wpAny _ _ (subscriptTail _ _ (Value.ref _) (Value.str _ _)) _ _ _); (refine c_item (k := Sum.inr _) (knd := ckKind _ _) (by k_asm) (DictL.mono (by assumption) (by kcj_all)) (ck_str _ _ _ _) (by assumption) ?_))
  | ((with_reducible show wpAny _ _ (subscriptTail _ _ (Value.ref _) (Value.str _ _)) _ _ _); (refine c_item (knd := strKind _ _) (by k_asm) (DictL.mono (by assumption) (by kcj_all)) (strKind_is _ _ _ _) (by rfl) ?_))))
theorem madeD_none {n : Int} (h : lenD n = none) : madeD n = .list [.str (Str.ofString "no codec")] := by unfold madeD; rw [h]
theorem madeD_some {n l : Int} (h : lenD n = some l) : madeD n = .list [.str (Str.ofString "codec"), .int l, .bool (decide (9 < kd n)), formD n] := by unfold madeD; rw [h]
theorem made_spec {v : Value} {n : Int} {w : World} {mean : ExcName → Option Value} {mg mb : Str → Option Value} {N : Led}
  {un : Nat} {gd : Option (List Code)} {cn : Str} {cs : Scope} {a : Addr} {ccd : Value} {cl : List (Str × Addr)} {A₀ : Around} {base h₀ : Heap} {L : Addr} {m : Str → Option Value} {s : Shared} {Q E : Value → Shared → Prop}
  (B : Below A₀ base [] h₀) (F : Fr h₀ L s.heap m) (X : (hd.heap_39 w.params).In h₀) (H : News h₀ L s.heap N) (T : Top hd.view_39 LO mean mg mb h₀) (hk : cs.kind = .function) (XB : (hd.heap_39 w.params).In base) (TB : Top hd.view_39 LO mean mg mb base) (hun : un ≤ 100) (R : RepN w N v n)
  (hret : Kept h₀ L m N s Q fun N' l => Rep w N' (.ref l) (madeD n)) :
  wpAny (model PW w) (ktrTop 302 un gd cn cs L a ccd cl []) (call (.ref 239) [v]) Q E s := by
  cases R with
  | fmt x t hk5 hx =>
    have h0 := kd_lo n
    have : kd n = 0 ∨ kd n = 1 ∨ kd n = 2 ∨ kd n = 3 ∨ kd n = 4 := by omega
    subst hx
    rcases this with e | e | e | e | e
    · rw [madeD_some (l := 1) (by simp [lenD, e, sizeOf']), show formD n = .str (Str.ofString "B") by simp [formD, fmtOf, e], e] at hret
      rw [show fmtOf (kd n) = Str.ofString "B" by simp [fmtOf, e]]
      exact made_fmt0 B F X H T hk XB TB hun hret
    · rw [madeD_some (l := 2) (by simp [lenD, e, sizeOf']), show formD n = .str (Str.ofString ">H") by simp [formD, fmtOf, e], e] at hret
      rw [show fmtOf (kd n) = Str.ofString ">H" by simp [fmtOf, e]]
      exact made_fmt1 B F X H T hk XB TB hun hret
    · rw [madeD_some (l := 4) (by simp [lenD, e, sizeOf']), show formD n = .str (Str.ofString "<I") by simp [formD, fmtOf, e], e] at hret
      rw [show fmtOf (kd n) = Str.ofString "<I" by simp [fmtOf, e]]
      exact made_fmt2 B F X H T hk XB TB hun hret
    · rw [madeD_some (l := 4) (by simp [lenD, e, sizeOf']), show formD n = .str (Str.ofString ">BHB") by simp [formD, fmtOf, e], e] at hret
      rw [show fmtOf (kd n) = Str.ofString ">BHB" by simp [fmtOf, e]]
      exact made_fmt3 B F X H T hk XB TB hun hret
    · rw [madeD_some (l := 9) (by simp [lenD, e, sizeOf']), show formD n = .str (Str.ofString ">qB") by simp [formD, fmtOf, e], e] at hret
      rw [show fmtOf (kd n) = Str.ofString ">qB" by simp [fmtOf, e]]
      exact made_fmt4 B F X H T hk XB TB hun hret
  | emp t e => rw [madeD_none (by simp [lenD, e])] at hret; exact made_emp B F X H T hk XB TB hun hret
  | num t e _ => rw [madeD_none (by simp [lenD, e])] at hret; exact made_num B F X H T hk XB TB hun hret
  | mask e _ r =>
    rw [madeD_none (by simp [lenD, e])] at hret
    cases r with | dmask D => exact made_mask B F X H T hk XB TB hun D hret
  | cemp e r =>
    rw [madeD_none (by simp [lenD, e])] at hret
    cases r with | dcemp D => exact made_cemp B F X H T hk XB TB hun D hret
  | nest e r =>
    rw [madeD_some (l := 3) (by simp [lenD, e]), show formD n = .str (Str.ofString "<hb") by simp [formD, e], e] at hret
    cases r with | dnest D D2 D3 => exact made_nest B F X H T hk XB TB hun D D2 hret
  | quad e h1 h2 =>
    rw [madeD_some (l := 8) (by simp [lenD, e]), show formD n = .none by simp [formD, e], e] at hret
    exact made_quad B F X H T hk XB TB hun h1 h2 hret
  | asc e hi h1 h2 =>
    rw [madeD_some (l := rs n) (by simp [lenD, e]), show formD n = .none by simp [formD, e], e] at hret
    subst hi
    exact made_asc B F X H T hk XB TB hun (rs_lo n) (rs_hi n) h1 h2 hret
end Mine
namespace Mine
local macro_rules | `(tactic| walk_at "zz0") => `(tactic| fail "zz")
local macro_rules | `(tactic| walk_at "zz1") => `(tactic| fail "zz")
local macro_rules | `(tactic| walk_at "zz2") => `(tactic| fail "zz")
theorem off_FEplain : True := by
  w_top off
  trivial
local macro_rules | `(tactic| k_mem) => `(tactic| assumption)
local macro_rules | `(tactic| walk_at "compareOp In str ref") => `(tactic| (k_here; first
  | (refine c_in (k := Sum.inr _) (knd := ckKind _ _) (by k_asm) (DictL.mono (by assumption) (by kcj_all)) (ck_str _ _ _ _) (by assumption) ?_)
  | (refine c_in (b := true) (knd := strKind _ _) (by k_asm) (DictL.mono (by assumption) (by kcj_all)) (strKind_is _ _ _ _) (by rfl) ?_)
  | (refine c_in (b := false) (knd := strKind _ _) (by k_asm) (DictL.mono (by assumption) (by kcj_all)) (strKind_is _ _ _ _) (by rfl) ?_)))
local macro_rules | `(tactic| walk_at "compareOp NotIn str ref") => `(tactic| (k_here; refine c_notin (k := Sum.inr _) (knd := ckKind _ _) (by k_asm) (DictL.mono (by assumption) (by kcj_all)) (ck_str _ _ _ _) (by assumption) ?_))
local macro_rules | `(tactic| walk_at "compareOp In int ref") => `(tactic| (k_here; refine c_in (k := Sum.inl _) (knd := ckKind _ _) (by k_asm) (DictL.mono (by assumption) (by kcj_all)) (ck_int _ _ _ _) (by assumption) ?_))
local macro_rules | `(tactic| walk_at "compareOp NotIn int ref") => `(tactic| (k_here; refine c_notin (k := Sum.inl _) (knd := ckKind _ _) (by k_asm) (DictL.mono (by assumption) (by kcj_all)) (ck_int _ _ _ _) (by assumption) ?_))
local macro_rules | `(tactic| walk_at "subscriptTail") => `(tactic| (k_here; first
  | ((with_reducible show wpAny _ _ (subscriptTail _ _ (Value.ref _) (Value.int _ _)) _ _ _); (refine c_item (k := Sum.inl _) (knd := ckKind _ _) (by k_asm) (DictL.mono (by assumption) (by kcj_all)) (ck_int _ _ _ _) (by assumption) ?_))
  | ((with_reducible show wpAny _ _ (subscriptTail _ _ (Value.ref _) (Value.str _ _)) _ _ _); (refine c_item (k := Sum.inr _) (knd := ckKind _ _) (by k_asm) (DictL.mono (by assumption) (by kcj_all)) (ck_str _ _ _ _) (by assumption) ?_))
  | ((with_reducible show wpAny _ _ (subscriptTail _ _ (Value.ref _) (Value.str _ _)) _ _ _); (refine c_item (knd := strKind _ _) (by k_asm) (DictL.mono (by assumption) (by kcj_all)) (strKind_is _ _ _ _) (by rfl) ?_))))
local macro_rules | `(tactic| walk_at "binaryOp Mod str type:int") => `(tactic| (k_here; k_dflt (refine mod_ty_int (by k_in) (by dsimp only [Around.deeper]; omega) (by dsimp only [Around.deeper]; omega) ?_); intro x' t' k'; (try dsimp only)))
local macro_rules | `(tactic| walk_at "binaryOp Mod str type:dict") => `(tactic| (k_here; k_dflt (refine mod_ty_dict (by k_in) (by dsimp only [Around.deeper]; omega) (by dsimp only [Around.deeper]; omega) ?_); intro x' t' k'; (try dsimp only)))
local macro_rules | `(tactic| walk_at "binaryOp Mod str type") => `(tactic| (k_here; k_dflt (first | refine mod_ty_int (by k_in) (by dsimp only [Around.deeper]; omega) (by dsimp only [Around.deeper]; omega) ?_ | refine mod_ty_dict (by k_in) (by dsimp only [Around.deeper]; omega) (by dsimp only [Around.deeper]; omega) ?_); intro x' t' k'; (try dsimp only)))
local macro_rules | `(tactic| walk_at "call builtin:_struct.calcsize") => `(tactic| (k_here; k_dflt (first | refine calc_K (calc_0 (by k_in)) ?d ?u ?_ | refine calc_K (calc_1 (by k_in)) ?d ?u ?_ | refine calc_K (calc_2 (by k_in)) ?d ?u ?_ | refine calc_K (calc_3 (by k_in)) ?d ?u ?_ | refine calc_K (calc_4 (by k_in)) ?d ?u ?_ | refine calc_K (calc_5 (by k_in)) ?d ?u ?_ | refine calc_K (calc_6 (by k_in)) ?d ?u ?_); (case d => (dsimp only [Around.deeper, Around.in1]; omega)); (case u => (dsimp only [Around.deeper, Around.in1]; omega)); intro t' k'; (try dsimp only)))
local macro_rules | `(tactic| walk_at "compareOp Is ref str") => `(tactic| (k_here; refine wpAny_is_other (by rfl) (by intro x; cases x) ?_))
local macro_rules | `(tactic| walk_at "call builtin:isinstance") => `(tactic| (k_here; k_dflt (first
  | refine' isd_K (c := .ref 117) (b := false) ?H ?D (fun _ _ ha => isd_117 ?X ha) ?d ?u ?_
  | refine' isd_K (c := .type "dict") (b := true) ?H ?D (fun _ _ ha => isd_dict ?X ha) ?d ?u ?_
  | refine' isd_K (c := .type "str") (b := false) ?H ?D (fun _ _ ha => isd_str ?X ha) ?d ?u ?_); (case H => k_asm); (case D => exact DictL.mono (by assumption) (by kcj_all)); (case X => k_in); (case d => (dsimp only [Around.deeper, Around.in1]; omega)); (case u => (dsimp only [Around.deeper, Around.in1]; omega)); intro k'; (try dsimp only)))
local macro_rules | `(tactic| walk_at "call type:type") => `(tactic| (k_here; k_dflt (refine' tyd_K ?H ?D ?_; (case H => k_asm); (case D => exact DictL.mono (by assumption) (by kcj_all)))))
local macro_rules | `(tactic| walk_at "compareOp Is ref ref") => `(tactic| (k_here; k_dflt (refine' is_instdict ?H ?hx ?D ?_; (case H => k_asm); (case hx => exact .head _); (case D => exact DictL.mono (by assumption) (by kcj_all)))))

theorem plain_str {x : Str} {t : Tok} {w : World} {mean : ExcName → Option Value} {mg mb : Str → Option Value} {N : Led}
  {dp un : Nat} {gd : Option (List Code)} {cn : Str} {cs : Scope} {a : Addr} {ccd : Value} {cl : List (Str × Addr)} {outer : List Env} {A₀ : Around} {base h₀ : Heap} {L : Addr} {m : Str → Option Value} {s : Shared} {Q E : Value → Shared → Prop}
  (B : Below A₀ base outer h₀) (F : Fr h₀ L s.heap m) (X : (hd.heap_39 w.params).In h₀) (H : News h₀ L s.heap N) (T : Top hd.view_39 LO mean mg mb h₀) (hk : cs.kind = .function)
  (hdp : dp + 5 < recursionLimit) (hun : un + 40 < cLine) (hdq : dp ≤ 400) (hunq : un ≤ 100)
  (hret : ∀ h' tk, Fr h₀ L h' m → News h₀ L h' N → Q (.str x t) { s with heap := h', toks := tk }) :
  wpAny (model PW w) (ktrTop dp un gd cn cs L a ccd cl outer) (call (.ref 246) [.str x t]) Q E s := by
  revert X H
  unfold PW
  k_fill
  intro X H
  refine wpAny_call ?_
  k_dflt cell_enter
  k_steps
  exact hret _ _ (by assumption) (by assumption)
theorem plain_int {i : Int} {t : Tok} {w : World} {mean : ExcName → Option Value} {mg mb : Str → Option Value} {N : Led}
  {dp un : Nat} {gd : Option (List Code)} {cn : Str} {cs : Scope} {a : Addr} {ccd : Value} {cl : List (Str × Addr)} {outer : List Env} {A₀ : Around} {base h₀ : Heap} {L : Addr} {m : Str → Option Value} {s : Shared} {Q E : Value → Shared → Prop}
  (B : Below A₀ base outer h₀) (F : Fr h₀ L s.heap m) (X : (hd.heap_39 w.params).In h₀) (H : News h₀ L s.heap N) (T : Top hd.view_39 LO mean mg mb h₀) (hk : cs.kind = .function)
  (hdp : dp + 5 < recursionLimit) (hun : un + 40 < cLine) (hdq : dp ≤ 400) (hunq : un ≤ 100)
  (hret : ∀ h' tk, Fr h₀ L h' m → News h₀ L h' N → Q (.int i t) { s with heap := h', toks := tk }) :
  wpAny (model PW w) (ktrTop dp un gd cn cs L a ccd cl outer) (call (.ref 246) [.int i t]) Q E s := by
  revert X H
  unfold PW
  k_fill
  intro X H
  refine wpAny_call ?_
  k_dflt cell_enter
  k_steps
  exact hret _ _ (by assumption) (by assumption)
theorem plain_dict {a₁ : Addr} {kvs : List (Str × Value)} {w : World} {mean : ExcName → Option Value} {mg mb : Str → Option Value} {N : Led}
  {dp un : Nat} {gd : Option (List Code)} {cn : Str} {cs : Scope} {a : Addr} {ccd : Value} {cl : List (Str × Addr)} {outer : List Env} {A₀ : Around} {base h₀ : Heap} {L : Addr} {m : Str → Option Value} {s : Shared} {Q E : Value → Shared → Prop}
  (B : Below A₀ base outer h₀) (F : Fr h₀ L s.heap m) (X : (hd.heap_39 w.params).In h₀) (H : News h₀ L s.heap N) (T : Top hd.view_39 LO mean mg mb h₀) (hk : cs.kind = .function)
  (hdp : dp + 5 < recursionLimit) (hun : un + 40 < cLine) (hdq : dp ≤ 400) (hunq : un ≤ 100) (D : DictL (sK w) N a₁ kvs)
  (hret : ∀ h' tk, Fr h₀ L h' m → News h₀ L h' N → Q (.ref a₁) { s with heap := h', toks := tk }) :
  wpAny (model PW w) (ktrTop dp un gd cn cs L a ccd cl outer) (call (.ref 246) [.ref a₁]) Q E s := by
  revert X H
  unfold PW
  k_fill
  intro X H
  refine wpAny_call ?_
  k_dflt cell_enter
  k_steps
  exact hret _ _ (by assumption) (by assumption)
theorem plain_quad {a₁ d₁ : Addr} {w : World} {mean : ExcName → Option Value} {mg mb : Str → Option Value} {N : Led}
  {dp un : Nat} {gd : Option (List Code)} {cn : Str} {cs : Scope} {a : Addr} {ccd : Value} {cl : List (Str × Addr)} {outer : List Env} {A₀ : Around} {base h₀ : Heap} {L : Addr} {m : Str → Option Value} {s : Shared} {Q E : Value → Shared → Prop}
  (B : Below A₀ base outer h₀) (F : Fr h₀ L s.heap m) (X : (hd.heap_39 w.params).In h₀) (H : News h₀ L s.heap N) (T : Top hd.view_39 LO mean mg mb h₀) (hk : cs.kind = .function)
  (hdp : dp + 5 < recursionLimit) (hun : un + 40 < cLine) (hdq : dp ≤ 400) (hunq : un ≤ 100) (hm : (a₁, instObj 117 d₁) ∈ N) {od : Obj} (hd : (d₁, od) ∈ N)
  (hret : ∀ h' tk u, Fr h₀ L h' m → News h₀ L h' N → Q (.str (Str.ofString "a codec") u) { s with heap := h', toks := tk }) :
  wpAny (model PW w) (ktrTop dp un gd cn cs L a ccd cl outer) (call (.ref 246) [.ref a₁]) Q E s := by
  revert X H
  unfold PW
  k_fill
  intro X H
  refine wpAny_call ?_
  k_dflt cell_enter
  k_steps
  exact hret _ _ _ (by assumption) (by assumption)
theorem plain_asc {a₁ d₁ : Addr} {w : World} {mean : ExcName → Option Value} {mg mb : Str → Option Value} {N : Led}
  {dp un : Nat} {gd : Option (List Code)} {cn : Str} {cs : Scope} {a : Addr} {ccd : Value} {cl : List (Str × Addr)} {outer : List Env} {A₀ : Around} {base h₀ : Heap} {L : Addr} {m : Str → Option Value} {s : Shared} {Q E : Value → Shared → Prop}
  (B : Below A₀ base outer h₀) (F : Fr h₀ L s.heap m) (X : (hd.heap_39 w.params).In h₀) (H : News h₀ L s.heap N) (T : Top hd.view_39 LO mean mg mb h₀) (hk : cs.kind = .function)
  (hdp : dp + 5 < recursionLimit) (hun : un + 40 < cLine) (hdq : dp ≤ 400) (hunq : un ≤ 100) (hm : (a₁, instObj 159 d₁) ∈ N) {od : Obj} (hd : (d₁, od) ∈ N)
  (hret : ∀ h' tk u, Fr h₀ L h' m → News h₀ L h' N → Q (.str (Str.ofString "a codec") u) { s with heap := h', toks := tk }) :
  wpAny (model PW w) (ktrTop dp un gd cn cs L a ccd cl outer) (call (.ref 246) [.ref a₁]) Q E s := by
  revert X H
  unfold PW
  k_fill
  intro X H
  refine wpAny_call ?_
  k_dflt cell_enter
  k_steps
  exact hret _ _ _ (by assumption) (by assumption)
end Mine
namespace Mine
local macro_rules | `(tactic| walk_at "zz0") => `(tactic| fail "zz")
local macro_rules | `(tactic| walk_at "zz1") => `(tactic| fail "zz")
local macro_rules | `(tactic| walk_at "zz2") => `(tactic| fail "zz")
local macro_rules | `(tactic| walk_at "zz3") => `(tactic| fail "zz")
local macro_rules | `(tactic| walk_at "zz4") => `(tactic| fail "zz")
local macro_rules | `(tactic| walk_at "zz5") => `(tactic| fail "zz")
theorem off_FExr : True := by
  w_top off
  trivial
local macro_rules | `(tactic| k_mem) => `(tactic| assumption)
local macro_rules | `(tactic| walk_at "compareOp In str ref") => `(tactic| (k_here; first
  | (refine c_in (k := Sum.inr _) (knd := ckKind _ _) (by k_asm) (DictL.mono (by assumption) (by kcj_all)) (ck_str _ _ _ _) (by assumption) ?_)
  | (refine c_in (b := true) (knd := strKind _ _) (by k_asm) (DictL.mono (by assumption) (by kcj_all)) (strKind_is _ _ _ _) (by rfl) ?_)
  | (refine c_in (b := false) (knd := strKind _ _) (by k_asm) (DictL.mono (by assumption) (by kcj_all)) (strKind_is _ _ _ _) (by rfl) ?_)))
local macro_rules | `(tactic| walk_at "compareOp NotIn str ref") => `(tactic| (k_here; refine c_notin (k := Sum.inr _) (knd := ckKind _ _) (by k_asm) (DictL.mono (by assumption) (by kcj_all)) (ck_str _ _ _ _) (by assumption) ?_))
local macro_rules | `(tactic| walk_at "compareOp In int ref") => `(tactic| (k_here; refine c_in (k := Sum.inl _) (knd := ckKind _ _) (by k_asm) (DictL.mono (by assumption) (by kcj_all)) (ck_int _ _ _ _) (by assumption) ?_))
local macro_rules | `(tactic| walk_at "compareOp NotIn int ref") => `(tactic| (k_here; refine c_notin (k := Sum.inl _) (knd := ckKind _ _) (by k_asm) (DictL.mono (by assumption) (by kcj_all)) (ck_int _ _ _ _) (by assumption) ?_))
local macro_rules | `(tactic| walk_at "subscriptTail") => `(tactic| (k_here; first
  | ((with_reducible show wpAny _ _ (subscriptTail _ _ (Value.ref _) (Value.int _ _)) _ _ _); (refine c_item (k := Sum.inl _) (knd := ckKind _ _) (by k_asm) (DictL.mono (by assumption) (by kcj_all)) (ck_int _ _ _ _) (by assumption) ?_))
  | ((with_reducible show wpAny _ _ (subscriptTail _ _ (Value.ref _) (Value.str _ _)) _ _ _); (refine c_item (k := Sum.inr _) (knd := ckKind _ _) (by k_asm) (DictL.mono (by assumption) (by kcj_all)) (ck_str _ _ _ _) (by assumption) ?_))
  | ((with_reducible show wpAny _ _ (subscriptTail _ _ (Value.ref _) (Value.str _ _)) _ _ _); (refine c_item (knd := strKind _ _) (by k_asm) (DictL.mono (by assumption) (by kcj_all)) (strKind_is _ _ _ _) (by rfl) ?_))))
local macro_rules | `(tactic| x_close) => `(tactic| (refine ret_intro (by assumption) ?_; exact ⟨_, _, _, _, rfl, .tail _ (.tail _ (.head _)), .tail _ (.head _)⟩))
theorem new_codec {w : World} {s : Shared} {x : Str} {t : Tok} (X : (hd.heap_39 w.params).In s.heap) :
    wpAny (model PW w) (AN 500 200) (call (.ref 117) [.str x t]) (Ret s fun r own => ∃ a d hs u, r = .ref a ∧ (d, dictOf [⟨hs, .str (Str.ofString "packstr") u, .str x t⟩] 1) ∈ own ∧ (a, instObj 117 d) ∈ own) (fun _ _ => False) s := by
  x_run
theorem new_codec_kw {w : World} {s : Shared} {x : Str} {t : Tok} (X : (hd.heap_39 w.params).In s.heap) :
    wpAny (model PW w) (AN 500 200) (call (.ref 117) [] [(Str.ofString "packstr", .str x t)]) (Ret s fun r own => ∃ a d hs u, r = .ref a ∧ (d, dictOf [⟨hs, .str (Str.ofString "packstr") u, .str x t⟩] 1) ∈ own ∧ (a, instObj 117 d) ∈ own) (fun _ _ => False) s := by
  x_run
theorem new_ascii {w : World} {s : Shared} {i : Int} {t : Tok} (X : (hd.heap_39 w.params).In s.heap) :
    wpAny (model PW w) (AN 500 200) (call (.ref 159) [.int i t]) (Ret s fun r own => ∃ a d hs u, r = .ref a ∧ (d, dictOf [⟨hs, .str (Str.ofString "string_len") u, .int i t⟩] 1) ∈ own ∧ (a, instObj 159 d) ∈ own) (fun _ _ => False) s := by
  x_run
end Mine
namespace Mine
local macro_rules | `(tactic| walk_at "zz0") => `(tactic| fail "zz")
local macro_rules | `(tactic| walk_at "zz1") => `(tactic| fail "zz")
local macro_rules | `(tactic| walk_at "zz2") => `(tactic| fail "zz")
local macro_rules | `(tactic| walk_at "zz3") => `(tactic| fail "zz")
local macro_rules | `(tactic| walk_at "zz4") => `(tactic| fail "zz")
local macro_rules | `(tactic| walk_at "zz5") => `(tactic| fail "zz")
local macro_rules | `(tactic| walk_at "zz6") => `(tactic| fail "zz")
theorem off_FEdef0 : True := by
  w_top off
  trivial
local macro_rules | `(tactic| k_mem) => `(tactic| assumption)
local macro_rules | `(tactic| walk_at "compareOp In str ref") => `(tactic| (k_here; first
  | (refine c_in (k := Sum.inr _) (knd := ckKind _ _) (by k_asm) (DictL.mono (by assumption) (by kcj_all)) (ck_str _ _ _ _) (by assumption) ?_)
  | (refine c_in (b := true) (knd := strKind _ _) (by k_asm) (DictL.mono (by assumption) (by kcj_all)) (strKind_is _ _ _ _) (by rfl) ?_)
  | (refine c_in (b := false) (knd := strKind _ _) (by k_asm) (DictL.mono (by assumption) (by kcj_all)) (strKind_is _ _ _ _) (by rfl) ?_)))
local macro_rules | `(tactic| walk_at "compareOp NotIn str ref") => `(tactic| (k_here; refine c_notin (k := Sum.inr _) (knd := ckKind _ _) (by k_asm) (DictL.mono (by assumption) (by kcj_all)) (ck_str _ _ _ _) (by assumption) ?_))
local macro_rules | `(tactic| walk_at "compareOp In int ref") => `(tactic| (k_here; refine c_in (k := Sum.inl _) (knd := ckKind _ _) (by k_asm) (DictL.mono (by assumption) (by kcj_all)) (ck_int _ _ _ _) (by assumption) ?_))
local macro_rules | `(tactic| walk_at "compareOp NotIn int ref") => `(tactic| (k_here; refine c_notin (k := Sum.inl _) (knd := ckKind _ _) (by k_asm) (DictL.mono (by assumption) (by kcj_all)) (ck_int _ _ _ _) (by assumption) ?_))
local macro_rules | `(tactic| walk_at "subscriptTail") => `(tactic| (k_here; first
  | ((with_reducible show wpAny _ _ (subscriptTail _ _ (Value.ref _) (Value.int _ _)) _ _ _); (refine c_item (k := Sum.inl _) (knd := ckKind _ _) (by k_asm) (DictL.mono (by assumption) (by kcj_all)) (ck_int _ _ _ _) (by assumption) ?_))
  | ((with_reducible show wpAny _ _ (subscriptTail _ _ (Value.ref _) (Value.str _ _)) _ _ _); (refine c_item (k := Sum.inr _) (knd := ckKind _ _) (by k_asm) (DictL.mono (by assumption) (by kcj_all)) (ck_str _ _ _ _) (by assumption) ?_))
  | ((with_reducible show wpAny _ _ (subscriptTail _ _ (Value.ref _) (Value.str _ _)) _ _ _); (refine c_item (knd := strKind _ _) (by k_asm) (DictL.mono (by assumption) (by kcj_all)) (strKind_is _ _ _ _) (by rfl) ?_))))
theorem drop3 {h₀ h : Heap} {L : Addr} {x y z : Addr × Obj} {N : Led} (k : News h₀ L h (x :: y :: z :: N)) : News h₀ L h ([x, y] ++ N) := fun p hp => by
  rcases List.mem_cons.mp hp with e | hp
  · rw [e]; exact k _ (.head _)
  rcases List.mem_cons.mp hp with e | hp
  · rw [e]; exact k _ (.tail _ (.head _))
  · exact k _ (.tail _ (.tail _ (.tail _ hp)))
def Off (own N : Led) : Prop := ∀ p ∈ own, ∀ q ∈ N, q.1 ≠ p.1
theorem off_new {g h : Heap} {L : Addr} {M N : Led} (N0 : News g L h M) (hs : ∀ q ∈ N, q ∈ M) : ∀ q ∈ N, q.1 ≠ h.objs.size := fun q hq => Nat.ne_of_lt (Heap.lt_size (N0 q (hs q hq)).1)
theorem allLt_at {d : Addr} {N : Led} (h : PySem.W.AllLt d N) : ∀ q ∈ N, q.1 ≠ d := by
  induction N with
  | nil => intro q hq; cases hq
  | cons p r ih =>
    intro q hq
    have h' : (@LT.lt Nat _ p.1 d) ∧ PySem.W.AllLt d r := h
    rcases List.mem_cons.mp hq with e | hq
    · rw [e]; exact Nat.ne_of_lt h'.1
    · exact ih h'.2 q hq
theorem off_cons {p : Addr × Obj} {own N : Led} (a : ∀ q ∈ N, q.1 ≠ p.1) (b : Off own N) : Off (p :: own) N := fun x hx => by
  rcases List.mem_cons.mp hx with rfl | hx
  · exact a
  · exact b x hx
theorem off_nil {N : Led} : Off [] N := fun _ h => nomatch h
theorem my_made_str {w : World} {h₀ h : Heap} {L : Addr} {m : Str → Option Value} {news : Led} {vs : List (Value × Value)} {P : Heap → Prop} (F : Fr h₀ L h m) (N : News h₀ L h news) (hbig : h₀.NoLimit) (hk : allStrKeys vs = true) (hn : ((strPairs vs).map (·.1)).Nodup)
    (k : ∀ h' o, Fr h₀ L h' m → News h₀ L h' ((h.objs.size, o) :: news) → (∀ p ∈ news, p.1 < h.objs.size) → (h.objs.size == sysModules) = false → o.IsDictOf (PySem.strKind PW w) (strPairs vs) → P h') :
    ∃ kvs, Carries (PySem.strKind PW w) vs kvs ∧ (h.push { cls := .type "dict", data := .dict #[] }).DictOf (PySem.strKind PW w) h.objs.size [] ∧
      ∀ h', h'.DictOf (PySem.strKind PW w) h.objs.size (merged [] kvs) → Heap.SameBut h.objs.size (h.push { cls := .type "dict", data := .dict #[] }) h' → P h' :=
  made_str F N hk hn fun h' o F' N' hd => k h' o F' N' (fun p hp => Heap.lt_size (N p hp).1) (F.notModules (modules_low hbig)) hd
abbrev forms (t0 t1 t2 t3 t4 t9 : Tok) : List Value := [.str (Str.ofString "B") t0, .str (Str.ofString ">H") t1, .str (Str.ofString "<I") t2, .str (Str.ofString ">BHB") t3, .str (Str.ofString ">qB") t4, .none, .none, .none, .none, .str (Str.ofString "<hb") t9, .none, .none]
theorem form_spec {w : World} {mean : ExcName → Option Value} {mg mb : Str → Option Value} {N : Led}
  {dp un : Nat} {gd : Option (List Code)} {cn : Str} {cs : Scope} {a : Addr} {ccd : Value} {cl : List (Str × Addr)} {outer : List Env} {A₀ : Around} {base h₀ : Heap} {L : Addr} {m : Str → Option Value} {s : Shared} {Q E : Value → Shared → Prop}
  (B : Below A₀ base outer h₀) (F : Fr h₀ L s.heap m) (X : (hd.heap_39 w.params).In h₀) (H : News h₀ L s.heap N) (T : Top hd.view_39 LO mean mg mb h₀) (hk : cs.kind = .function)
  (hdp : dp + 5 < recursionLimit) (hun : un + 40 < cLine)
  (hret : ∀ h' tk l t0 t1 t2 t3 t4 t9, Fr h₀ L h' m → News h₀ L h' ((l, listOf (forms t0 t1 t2 t3 t4 t9).toArray 0) :: N) → Q (.ref l) { s with heap := h', toks := tk }) :
  wpAny (model PW w) (ktrTop dp un gd cn cs L a ccd cl outer) (call (.ref 190) []) Q E s := by
  revert X H
  unfold PW
  k_fill
  intro X H
  refine wpAny_call ?_
  k_dflt cell_enter
  k_steps
  exact hret _ _ _ _ _ _ _ _ _ (by assumption) (by assumption)
theorem codec_K {w : World} {A : Around} {s : Shared} {h₀ : Heap} {L : Addr} {m : Str → Option Value} {N : Led} {x : Str} {t : Tok} {Q E : Value → Shared → Prop} (F : Fr h₀ L s.heap m) (X₀ : (hd.heap_39 w.params).In h₀) (H : News h₀ L s.heap N)
   (hh : A.handled = none) (hd : A.depth ≤ 500) (hu : A.units ≤ 200)
   (k : ∀ a d hs u h' tk, Fr h₀ L h' m → News h₀ L h' ((d, dictOf [⟨hs, .str (Str.ofString "packstr") u, .str x t⟩] 1) :: (a, instObj 117 d) :: N) → (∀ q ∈ N, q.1 ≠ d) → (∀ q ∈ N, q.1 ≠ a) → Q (.ref a) { s with heap := h', toks := tk }) :
   wpAny (model PW w) A (call (.ref 117) [.str x t]) Q E s :=
  ret_use (new_codec (X₀.keeps F.keep)) hh hd hu F H fun v own h' tk ex F' H' off nw hp => by
    obtain ⟨a, d, hs, u, rfl, h1, h2⟩ := hp
    refine k a d hs u h' tk F' (fun p hp => ?_) (fun q hq => off _ h1 q hq) fun q hq => off _ h2 q hq
    rcases List.mem_cons.mp hp with rfl | hp
    · exact H' _ (List.mem_append_left _ h1)
    rcases List.mem_cons.mp hp with rfl | hp
    · exact H' _ (List.mem_append_left _ h2)
    · exact H' _ (List.mem_append_right _ hp)
theorem ascii_K {w : World} {A : Around} {s : Shared} {h₀ : Heap} {L : Addr} {m : Str → Option Value} {N : Led} {i : Int} {t : Tok} {Q E : Value → Shared → Prop} (F : Fr h₀ L s.heap m) (X₀ : (hd.heap_39 w.params).In h₀) (H : News h₀ L s.heap N)
   (hh : A.handled = none) (hd : A.depth ≤ 500) (hu : A.units ≤ 200)
   (k : ∀ a d hs u h' tk, Fr h₀ L h' m → News h₀ L h' ((d, dictOf [⟨hs, .str (Str.ofString "string_len") u, .int i t⟩] 1) :: (a, instObj 159 d) :: N) → (∀ q ∈ N, q.1 ≠ d) → (∀ q ∈ N, q.1 ≠ a) → Q (.ref a) { s with heap := h', toks := tk }) :
   wpAny (model PW w) A (call (.ref 159) [.int i t]) Q E s :=
  ret_use (new_ascii (X₀.keeps F.keep)) hh hd hu F H fun v own h' tk ex F' H' off nw hp => by
    obtain ⟨a, d, hs, u, rfl, h1, h2⟩ := hp
    refine k a d hs u h' tk F' (fun p hp => ?_) (fun q hq => off _ h1 q hq) fun q hq => off _ h2 q hq
    rcases List.mem_cons.mp hp with rfl | hp
    · exact H' _ (List.mem_append_left _ h1)
    rcases List.mem_cons.mp hp with rfl | hp
    · exact H' _ (List.mem_append_left _ h2)
    · exact H' _ (List.mem_append_right _ hp)
end Mine
namespace Mine
local macro_rules | `(tactic| walk_at "zz0") => `(tactic| fail "zz")
local macro_rules | `(tactic| walk_at "zz1") => `(tactic| fail "zz")
local macro_rules | `(tactic| walk_at "zz2") => `(tactic| fail "zz")
local macro_rules | `(tactic| walk_at "zz3") => `(tactic| fail "zz")
local macro_rules | `(tactic| walk_at "zz4") => `(tactic| fail "zz")
local macro_rules | `(tactic| walk_at "zz5") => `(tactic| fail "zz")
local macro_rules | `(tactic| walk_at "zz6") => `(tactic| fail "zz")
theorem off_FEdef : True := by
  w_top off
  trivial
local macro_rules | `(tactic| k_mem) => `(tactic| assumption)
local macro_rules | `(tactic| walk_at "compareOp In str ref") => `(tactic| (k_here; first
  | (refine c_in (k := Sum.inr _) (knd := ckKind _ _) (by k_asm) (DictL.mono (by assumption) (by kcj_all)) (ck_str _ _ _ _) (by assumption) ?_)
  | (refine c_in (b := true) (knd := strKind _ _) (by k_asm) (DictL.mono (by assumption) (by kcj_all)) (strKind_is _ _ _ _) (by rfl) ?_)
  | (refine c_in (b := false) (knd := strKind _ _) (by k_asm) (DictL.mono (by assumption) (by kcj_all)) (strKind_is _ _ _ _) (by rfl) ?_)))
local macro_rules | `(tactic| walk_at "compareOp NotIn str ref") => `(tactic| (k_here; refine c_notin (k := Sum.inr _) (knd := ckKind _ _) (by k_asm) (DictL.mono (by assumption) (by kcj_all)) (ck_str _ _ _ _) (by assumption) ?_))
local macro_rules | `(tactic| walk_at "compareOp In int ref") => `(tactic| (k_here; refine c_in (k := Sum.inl _) (knd := ckKind _ _) (by k_asm) (DictL.mono (by assumption) (by kcj_all)) (ck_int _ _ _ _) (by assumption) ?_))
local macro_rules | `(tactic| walk_at "compareOp NotIn int ref") => `(tactic| (k_here; refine c_notin (k := Sum.inl _) (knd := ckKind _ _) (by k_asm) (DictL.mono (by assumption) (by kcj_all)) (ck_int _ _ _ _) (by assumption) ?_))
local macro_rules | `(tactic| walk_at "subscriptTail") => `(tactic| (k_here; first
  | ((with_reducible show wpAny _ _ (subscriptTail _ _ (Value.ref _) (Value.int _ _)) _ _ _); (refine c_item (k := Sum.inl _) (knd := ckKind _ _) (by k_asm) (DictL.mono (by assumption) (by kcj_all)) (ck_int _ _ _ _) (by assumption) ?_))
  | ((with_reducible show wpAny _ _ (subscriptTail _ _ (Value.ref _) (Value.str _ _)) _ _ _); (refine c_item (k := Sum.inr _) (knd := ckKind _ _) (by k_asm) (DictL.mono (by assumption) (by kcj_all)) (ck_str _ _ _ _) (by assumption) ?_))
  | ((with_reducible show wpAny _ _ (subscriptTail _ _ (Value.ref _) (Value.str _ _)) _ _ _); (refine c_item (knd := strKind _ _) (by k_asm) (DictL.mono (by assumption) (by kcj_all)) (strKind_is _ _ _ _) (by rfl) ?_))))
local macro_rules | `(tactic| walk_at "subscriptTail") => `(tactic| (k_here; (with_reducible show wpAny _ _ (subscriptTail _ _ (Value.ref _) (Value.int _ _)) _ _ _); k_dflt (refine' item_at ?hl ?h0 ?h1 ?hz ?_; (case hl => exact News.isList (by k_asm) (.head _)); (case h0 => first | omega | (simp only [decide_eq_true_eq, decide_eq_false_iff_not, Bool.not_eq_true, Int.not_lt] at *; omega)); (case h1 => first | (simp only [List.length_cons, List.length_nil]; omega) | (simp only [decide_eq_true_eq, decide_eq_false_iff_not, Bool.not_eq_true, Int.not_lt, List.length_cons, List.length_nil] at *; omega)); (case hz => (simp only [List.length_cons, List.length_nil]; decide))); intro v' hv'))
local macro_rules | `(tactic| walk_at "call ref") => `(tactic| (k_here; k_dflt (refine' form_spec ?B ?F ?X ?H ?T rfl ?d ?u ?_; (case B => k_asm); (case F => k_asm); (case X => k_asm); (case H => k_asm); (case T => k_asm); (case d => (dsimp only [recursionLimit]; omega)); (case u => (dsimp only [cLine]; omega))); intro h' tk' l' t0 t1 t2 t3 t4 t9 F' H'; (try dsimp only)))
local macro_rules | `(tactic| walk_at "call ref") => `(tactic| (k_here; (with_reducible show wpAny _ _ (PySem.call (Value.ref 117) _) _ _ _); k_dflt (refine' codec_K ?F ?X ?H rfl ?d ?u ?_; (case F => k_asm); (case X => k_asm); (case H => k_asm); (case d => (dsimp only [Around.deeper]; omega)); (case u => (dsimp only [Around.deeper]; omega))); intro a' d' hs' u' h' tk' F' H' offd' offa'; (try dsimp only)))
local macro_rules | `(tactic| walk_at "call ref") => `(tactic| (k_here; (with_reducible show wpAny _ _ (PySem.call (Value.ref 159) _) _ _ _); k_dflt (refine' ascii_K ?F ?X ?H rfl ?d ?u ?_; (case F => k_asm); (case X => k_asm); (case H => k_asm); (case d => (dsimp only [Around.deeper]; omega)); (case u => (dsimp only [Around.deeper]; omega))); intro a' d' hs' u' h' tk' F' H' offd' offa'; (try dsimp only)))
local macro_rules | `(tactic| walk_at "Exists") => `(tactic| (k_here; (refine my_made_str (by k_asm) (by first | k_asm | exact News.nil) (Top.nolimit (by k_asm)) (by rfl) (of_decide_eq_true (by rfl)) ?_; intro h' o' F' N' l1 lo' hd'; (try k_lt l1))))

def LenIs (v : Value) (n : Int) : Prop := (∃ l t, v = .int l t ∧ lenD n = some l) ∨ (v = .none ∧ lenD n = none)
theorem len_spec {n : Int} {t : Tok} {w : World} {mean : ExcName → Option Value} {mg mb : Str → Option Value} {N : Led}
  {dp un : Nat} {gd : Option (List Code)} {cn : Str} {cs : Scope} {a : Addr} {ccd : Value} {cl : List (Str × Addr)} {outer : List Env} {A₀ : Around} {base h₀ : Heap} {L : Addr} {m : Str → Option Value} {s : Shared} {Q E : Value → Shared → Prop}
  (B : Below A₀ base outer h₀) (F : Fr h₀ L s.heap m) (X : (hd.heap_39 w.params).In h₀) (H : News h₀ L s.heap N) (T : Top hd.view_39 LO mean mg mb h₀) (hk : cs.kind = .function)
  (hdp : dp + 5 < recursionLimit) (hun : un + 40 < cLine) (hdq : dp ≤ 400) (hunq : un ≤ 100)
  (hret : ∀ h' tk v own, Fr h₀ L h' m → News h₀ L h' (own ++ N) → LenIs v n → Q v { s with heap := h', toks := tk }) :
  wpAny (model PW w) (ktrTop dp un gd cn cs L a ccd cl outer) (call (.ref 204) [.int n t]) Q E s := by
  have f0 : 0 ≤ n.fmod 12 := fmod_lo n (by decide)
  have f1 : n.fmod 12 < 12 := fmod_hi n (by decide)
  revert X H
  unfold PW
  k_fill
  intro X H
  refine wpAny_call ?_
  k_dflt cell_enter
  k_steps
  rename_i hv' _ _ _ _
  have c : n.fmod 12 = 0 ∨ n.fmod 12 = 1 ∨ n.fmod 12 = 2 ∨ n.fmod 12 = 3 ∨ n.fmod 12 = 4 ∨ n.fmod 12 = 5 ∨ n.fmod 12 = 6 ∨ n.fmod 12 = 7 ∨ n.fmod 12 = 8 ∨ n.fmod 12 = 9 ∨ n.fmod 12 = 10 ∨ n.fmod 12 = 11 := by omega
  refine hret _ _ _ [_] (by assumption) (by assumption) ?_
  rcases c with e | e | e | e | e | e | e | e | e | e | e | e <;> rw [e] at hv' <;> cases Option.some.inj hv' <;> first | exact .inl ⟨_, _, rfl, by simp [lenD, kd, e, sizeOf', rs]⟩ | exact .inr ⟨rfl, by simp [lenD, kd, e]⟩
theorem def_spec {n : Int} {t : Tok} {w : World} {mean : ExcName → Option Value} {mg mb : Str → Option Value} {N : Led}
  {dp un : Nat} {gd : Option (List Code)} {cn : Str} {cs : Scope} {a : Addr} {ccd : Value} {cl : List (Str × Addr)} {outer : List Env} {A₀ : Around} {base h₀ : Heap} {L : Addr} {m : Str → Option Value} {s : Shared} {Q E : Value → Shared → Prop}
  (B : Below A₀ base outer h₀) (F : Fr h₀ L s.heap m) (X : (hd.heap_39 w.params).In h₀) (H : News h₀ L s.heap N) (T : Top hd.view_39 LO mean mg mb h₀) (hk : cs.kind = .function)
  (hdp : dp + 5 < recursionLimit) (hun : un + 40 < cLine) (hdq : dp ≤ 400) (hunq : un ≤ 100)
  (hret : ∀ h' tk v own, Fr h₀ L h' m → News h₀ L h' (own ++ N) → Off own N → RepN w own v n → Q v { s with heap := h', toks := tk }) :
  wpAny (model PW w) (ktrTop dp un gd cn cs L a ccd cl outer) (call (.ref 197) [.int n t]) Q E s := by
  have f0 : 0 ≤ n.fmod 12 := fmod_lo n (by decide)
  have f1 : n.fmod 12 < 12 := fmod_hi n (by decide)
  revert X H
  unfold PW
  k_fill
  intro X H
  refine wpAny_call ?_
  k_dflt cell_enter
  k_steps
  next =>
    rename_i hv' _ kN _ _
    have c : n.fmod 12 = 0 ∨ n.fmod 12 = 1 ∨ n.fmod 12 = 2 ∨ n.fmod 12 = 3 ∨ n.fmod 12 = 4 := by omega
    rcases c with e | e | e | e | e <;> rw [e] at hv' <;> cases Option.some.inj hv' <;>
      exact hret _ _ _ [] (by assumption) (fun p hp => kN p (.tail _ (.tail _ hp))) off_nil (.fmt _ _ (by show n.fmod 12 < 5; omega) (by show _ = fmtOf (n.fmod 12); rw [e]; rfl))
  next =>
    rename_i hv' _ kN _ _
    have c : n.fmod 12 = 5 ∨ n.fmod 12 = 6 ∨ n.fmod 12 = 7 ∨ n.fmod 12 = 8 := by omega
    rcases c with e | e | e | e <;> rw [e] at hv' <;> cases Option.some.inj hv'
    · exact hret _ _ _ [] (by assumption) (fun p hp => kN p (.tail _ (.tail _ (.tail _ (.tail _ hp))))) off_nil (.emp _ e)
    · exact hret _ _ _ [] (by assumption) (fun p hp => kN p (.tail _ (.tail _ (.tail _ (.tail _ hp))))) off_nil (.num _ e rfl)
    · refine hret _ _ _ [(_, _)] (by assumption) (fun p hp => ?_) (off_cons (allLt_at (by first | assumption | (apply And.right; assumption) | (apply And.right; apply And.right; assumption) | (apply And.right; apply And.right; apply And.right; assumption))) off_nil) (.mask e rfl (.dmask ⟨⟨_, .head _, by assumption⟩, by assumption⟩))
      · rcases List.mem_cons.mp hp with rfl | hp
        · exact kN _ (.tail _ (.tail _ (.head _)))
        · exact kN _ (.tail _ (.tail _ (.tail _ (.tail _ hp))))
    · refine hret _ _ _ [(_, _)] (by assumption) (fun p hp => ?_) (off_cons (allLt_at (by first | assumption | (apply And.right; assumption) | (apply And.right; apply And.right; assumption) | (apply And.right; apply And.right; apply And.right; assumption))) off_nil) (.cemp e (.dcemp ⟨⟨_, .head _, by assumption⟩, by assumption⟩))
      · rcases List.mem_cons.mp hp with rfl | hp
        · exact kN _ (.tail _ (.head _))
        · exact kN _ (.tail _ (.tail _ (.tail _ (.tail _ hp))))
  next =>
    rename_i kN _ _
    refine hret _ _ _ [(_, _), (_, _), (_, _)] (by assumption) (fun p hp => ?_) ?off (.nest (by show n.fmod 12 = 9; omega) (.dnest ⟨⟨_, .head _, by assumption⟩, by assumption⟩ ⟨⟨_, .tail _ (.head _), by assumption⟩, by assumption⟩ ⟨⟨_, .tail _ (.tail _ (.head _)), by assumption⟩, by assumption⟩))
    case off => exact off_cons (allLt_at (by first | assumption | (apply And.right; assumption) | (apply And.right; apply And.right; assumption) | (apply And.right; apply And.right; apply And.right; assumption))) (off_cons (allLt_at (by first | assumption | (apply And.right; assumption) | (apply And.right; apply And.right; assumption) | (apply And.right; apply And.right; apply And.right; assumption))) (off_cons (allLt_at (by first | assumption | (apply And.right; assumption) | (apply And.right; apply And.right; assumption) | (apply And.right; apply And.right; apply And.right; assumption))) off_nil))
    rcases List.mem_cons.mp hp with rfl | hp
    · exact kN _ (by first | exact .head _ | exact .tail _ (.head _) | exact .tail _ (.tail _ (.head _)))
    rcases List.mem_cons.mp hp with rfl | hp
    · exact kN _ (by first | exact .head _ | exact .tail _ (.head _) | exact .tail _ (.tail _ (.head _)))
    rcases List.mem_cons.mp hp with rfl | hp
    · exact kN _ (by first | exact .head _ | exact .tail _ (.head _) | exact .tail _ (.tail _ (.head _)))
    exact kN _ (.tail _ (.tail _ (.tail _ (.tail _ hp))))
  next =>
    rename_i offd offa _ kN _ _
    refine hret _ _ _ [_, _] (by assumption) (drop3 kN) ?off (.quad (by show n.fmod 12 = 10; omega) (.tail _ (.head _)) (.head _))
    case off => exact off_cons (fun q hq => offd q (.tail _ hq)) (off_cons (fun q hq => offa q (.tail _ hq)) off_nil)
  next =>
    rename_i offd offa _ kN _ _
    refine hret _ _ _ [_, _] (by assumption) (drop3 kN) ?off (.asc (by show n.fmod 12 = 11; omega) rfl (.tail _ (.head _)) (.head _))
    case off => exact off_cons (fun q hq => offd q (.tail _ hq)) (off_cons (fun q hq => offa q (.tail _ hq)) off_nil)
end Mine
namespace Mine
local macro_rules | `(tactic| walk_at "zz0") => `(tactic| fail "zz")
local macro_rules | `(tactic| walk_at "zz1") => `(tactic| fail "zz")
local macro_rules | `(tactic| walk_at "zz2") => `(tactic| fail "zz")
local macro_rules | `(tactic| walk_at "zz3") => `(tactic| fail "zz")
local macro_rules | `(tactic| walk_at "zz4") => `(tactic| fail "zz")
local macro_rules | `(tactic| walk_at "zz5") => `(tactic| fail "zz")
local macro_rules | `(tactic| walk_at "zz6") => `(tactic| fail "zz")
local macro_rules | `(tactic| walk_at "zz7") => `(tactic| fail "zz")
local macro_rules | `(tactic| walk_at "zz8") => `(tactic| fail "zz")
local macro_rules | `(tactic| walk_at "zz9") => `(tactic| fail "zz")
local macro_rules | `(tactic| walk_at "zz10") => `(tactic| fail "zz")
theorem off_FEwant : True := by
  w_top off
  trivial
local macro_rules | `(tactic| k_mem) => `(tactic| assumption)
local macro_rules | `(tactic| walk_at "compareOp In str ref") => `(tactic| (k_here; first
  | (refine c_in (k := Sum.inr _) (knd := ckKind _ _) (by k_asm) (DictL.mono (by assumption) (by kcj_all)) (ck_str _ _ _ _) (by assumption) ?_)
  | (refine c_in (b := true) (knd := strKind _ _) (by k_asm) (DictL.mono (by assumption) (by kcj_all)) (strKind_is _ _ _ _) (by rfl) ?_)
  | (refine c_in (b := false) (knd := strKind _ _) (by k_asm) (DictL.mono (by assumption) (by kcj_all)) (strKind_is _ _ _ _) (by rfl) ?_)))
local macro_rules | `(tactic| walk_at "compareOp NotIn str ref") => `(tactic| (k_here; refine c_notin (k := Sum.inr _) (knd := ckKind _ _) (by k_asm) (DictL.mono (by assumption) (by kcj_all)) (ck_str _ _ _ _) (by assumption) ?_))
local macro_rules | `(tactic| walk_at "compareOp In int ref") => `(tactic| (k_here; refine c_in (k := Sum.inl _) (knd := ckKind _ _) (by k_asm) (DictL.mono (by assumption) (by kcj_all)) (ck_int _ _ _ _) (by assumption) ?_))
local macro_rules | `(tactic| walk_at "compareOp NotIn int ref") => `(tactic| (k_here; refine c_notin (k := Sum.inl _) (knd := ckKind _ _) (by k_asm) (DictL.mono (by assumption) (by kcj_all)) (ck_int _ _ _ _) (by assumption) ?_))
local macro_rules | `(tactic| walk_at "subscriptTail") => `(tactic| (k_here; first
  | ((with_reducible show wpAny _ _ (subscriptTail _ _ (Value.ref _) (Value.int _ _)) _ _ _); (refine c_item (k := Sum.inl _) (knd := ckKind _ _) (by k_asm) (DictL.mono (by assumption) (by kcj_all)) (ck_int _ _ _ _) (by assumption) ?_))
  | ((with_reducible show wpAny _ _ (subscriptTail _ _ (Value.ref _) (Value.str _ _)) _ _ _); (refine c_item (k := Sum.inr _) (knd := ckKind _ _) (by k_asm) (DictL.mono (by assumption) (by kcj_all)) (ck_str _ _ _ _) (by assumption) ?_))
  | ((with_reducible show wpAny _ _ (subscriptTail _ _ (Value.ref _) (Value.str _ _)) _ _ _); (refine c_item (knd := strKind _ _) (by k_asm) (DictL.mono (by assumption) (by kcj_all)) (strKind_is _ _ _ _) (by rfl) ?_))))
local macro_rules | `(tactic| walk_at "exec For Name Name cons nil") => `(tactic| (k_here; (rename Fr _ _ _ _ => lF'); (with_unfolding_all refine' For_invVF lF' ?k1 ?k2 ?_; (case k1 => exact rfl); (case k2 => exact rfl); k_whole)))
local macro_rules | `(tactic| walk_at "pyIter ref") => `(tactic| (k_here; (with_reducible show wpAny _ _ (pyIter (Value.ref _)) (fun it s₂ => LoopAtV _ _ _ _ _ _ _ _ _ it s₂) _ _); k_dflt (refine hold_iter rfl (by assumption) (by assumption) (by first | assumption | exact .head _) ?_); intro I' hI'))

theorem want_spec {c l : Addr} {vs : List Value} {n0 : Nat} {ds : List Int} {kvs : List (CKey × Value)} {w : World} {mean : ExcName → Option Value} {mg mb : Str → Option Value} {N : Led}
  {dp un : Nat} {gd : Option (List Code)} {cn : Str} {cs : Scope} {a : Addr} {ccd : Value} {cl : List (Str × Addr)} {outer : List Env} {A₀ : Around} {base h₀ : Heap} {L : Addr} {m : Str → Option Value} {s : Shared} {Q E : Value → Shared → Prop}
  (B : Below A₀ base outer h₀) (F : Fr h₀ L s.heap m) (X : (hd.heap_39 w.params).In h₀) (H : News h₀ L s.heap N) (T : Top hd.view_39 LO mean mg mb h₀) (hk : cs.kind = .function)
  (hdp : dp + 5 < recursionLimit) (hun : un + 40 < cLine) (hdq : dp ≤ 400) (hunq : un ≤ 100)
  (hl : (l, listOf vs.toArray n0) ∈ N) (hi : IntsAre vs ds)
  (C : DictL (cK w) N c kvs)
  (hret : Kept h₀ L m N s Q fun N' l => Rep w N' (.ref l) (wantK kvs ds)) :
  wpAny (model PW w) (ktrTop dp un gd cn cs L a ccd cl outer) (call (.ref 218) [.ref l, .ref c]) Q E s := by
  revert X H
  unfold PW
  k_fill
  intro X H
  refine wpAny_call ?_
  k_dflt cell_enter
  k_steps
  rename_i I hI
  refine rest_keep (vs := vs) (fun i => ∀ j e, j < i → (ds : List Int)[j]? = some e → hasK kvs e = true) hl hI (fun _ _ h => absurd h (Nat.not_lt_zero _)) ?_ ?_
  · intro i v it h tk hv hinv hit F2 N2
    obtain ⟨d, hd, t, rfl⟩ : ∃ d, (ds : List Int)[i]? = some d ∧ ∃ t, v = .int d t := by
      have hlt : i < (ds : List Int).length := by have := (List.getElem?_eq_some_iff.mp hv).1; rwa [hi.length] at this
      obtain ⟨t, hx⟩ := hi.get i (ds : List Int)[i] (List.getElem?_eq_getElem hlt)
      exact ⟨(ds : List Int)[i], List.getElem?_eq_getElem hlt, t, Option.some.inj (hv.symm.trans hx)⟩
    have step : hasK kvs d = true → ∀ j e, j < i + 1 → (ds : List Int)[j]? = some e → hasK kvs e = true := fun hh j e hj he => by
      by_cases q : j = i
      · subst q; rw [hd] at he; cases he; exact hh
      · exact hinv j e (by omega) he
    cases hb : (valueAt kvs (.inl d)).isSome with
    | true =>
      k_steps
      exact InvEnd.intro (by assumption) (by assumption) (fun _ h => h) ⟨step (by simp [hasK, hb]), fun y hy => if_neg hy⟩
    | false =>
      cases hb2 : (valueAt kvs kDef).isSome with
      | true =>
        k_steps
        exact InvEnd.intro (by assumption) (by assumption) (fun _ h => h) ⟨step (by simp [hasK, hb2]), fun y hy => if_neg hy⟩
      | false =>
        k_steps
        exact hret _ _ _ [_, _] (by assumption) (by assumption) (by rw [want_at hd hinv (by simp [hasK, hb, hb2])]; exact .list (.head _) (.cons (.str _ _) (.cons (.int _ _) .nil)))
  · intro h tk u hinv F2 N2
    k_steps
    exact hret _ _ _ [_] (by assumption) (by assumption) (by
      rw [want_none fun d hd => (let ⟨j, hj, e⟩ := List.getElem_of_mem hd; hinv j d (by rw [hi.length]; exact hj) (by rw [← e]; exact List.getElem?_eq_getElem hj))]
      exact .list (.head _) (.cons (.str _ _) (.cons (.bool _) .nil)))
end Mine
namespace Mine
local macro_rules | `(tactic| k_mem) => `(tactic| assumption)
local macro_rules | `(tactic| walk_at "compareOp In str ref") => `(tactic| (k_here; first
  | (refine c_in (k := Sum.inr _) (knd := ckKind _ _) (by k_asm) (DictL.mono (by assumption) (by kcj_all)) (ck_str _ _ _ _) (by assumption) ?_)
  | (refine c_in (b := true) (knd := strKind _ _) (by k_asm) (DictL.mono (by assumption) (by kcj_all)) (strKind_is _ _ _ _) (by rfl) ?_)
  | (refine c_in (b := false) (knd := strKind _ _) (by k_asm) (DictL.mono (by assumption) (by kcj_all)) (strKind_is _ _ _ _) (by rfl) ?_)))
local macro_rules | `(tactic| walk_at "compareOp NotIn str ref") => `(tactic| (k_here; refine c_notin (k := Sum.inr _) (knd := ckKind _ _) (by k_asm) (DictL.mono (by assumption) (by kcj_all)) (ck_str _ _ _ _) (by assumption) ?_))
local macro_rules | `(tactic| walk_at "compareOp In int ref") => `(tactic| (k_here; refine c_in (k := Sum.inl _) (knd := ckKind _ _) (by k_asm) (DictL.mono (by assumption) (by kcj_all)) (ck_int _ _ _ _) (by assumption) ?_))
local macro_rules | `(tactic| walk_at "compareOp NotIn int ref") => `(tactic| (k_here; refine c_notin (k := Sum.inl _) (knd := ckKind _ _) (by k_asm) (DictL.mono (by assumption) (by kcj_all)) (ck_int _ _ _ _) (by assumption) ?_))
local macro_rules | `(tactic| walk_at "subscriptTail") => `(tactic| (k_here; first
  | ((with_reducible show wpAny _ _ (subscriptTail _ _ (Value.ref _) (Value.int _ _)) _ _ _); (refine c_item (k := Sum.inl _) (knd := ckKind _ _) (by k_asm) (DictL.mono (by assumption) (by kcj_all)) (ck_int _ _ _ _) (by assumption) ?_))
  | ((with_reducible show wpAny _ _ (subscriptTail _ _ (Value.ref _) (Value.str _ _)) _ _ _); (refine c_item (k := Sum.inr _) (knd := ckKind _ _) (by k_asm) (DictL.mono (by assumption) (by kcj_all)) (ck_str _ _ _ _) (by assumption) ?_))
  | ((with_reducible show wpAny _ _ (subscriptTail _ _ (Value.ref _) (Value.str _ _)) _ _ _); (refine c_item (knd := strKind _ _) (by k_asm) (DictL.mono (by assumption) (by kcj_all)) (strKind_is _ _ _ _) (by rfl) ?_))))
section
variable {prog : Program} {w : World} {A : Around} {E : Value → Shared → Prop} {s : Shared} {env : Env} {h₀ : Heap} {x : Str} {body : List PySem.Stmt} {Q : Flow → Shared → Prop}
theorem rest_range {I : Addr} {a : Int} {n : Nat} {m₀ : Str → Option Value} {news : Led} (Inv : Nat → Led → Prop) (h0 : Inv 0 news) (offI : ∀ p ∈ news, p.1 ≠ I)
   (turn : ∀ i t h tk n₁, i < n → Inv i n₁ → (∀ p ∈ n₁, p.1 ≠ I) → Fr h₀ env.locals h (fun y => if y = x then some (.int (a + (i : Int)) t) else m₀ y) →
      News h₀ env.locals h ((I, itR (a + ((i + 1 : Nat) : Int)) ((n : Int) - ((i + 1 : Nat) : Int))) :: n₁) →
      wpAny (model prog w) A (execs body env) (UnrPost h₀ env.locals { s with heap := h, toks := tk } I (itR (a + ((i + 1 : Nat) : Int)) ((n : Int) - ((i + 1 : Nat) : Int))) (fun m' n' => Inv (i + 1) n' ∧ ∀ y, y ≠ x → m' y = m₀ y) Q) E { s with heap := h, toks := tk })
   (done : ∀ h tk (u : Option Value) n₁, Inv n n₁ → Fr h₀ env.locals h (fun y => if y = x then u else m₀ y) → News h₀ env.locals h n₁ → Q .next { s with heap := h, toks := tk }) :
   RangeRest prog w A E h₀ env x body Q s I a n n 0 m₀ news := by
  have main : ∀ (k i : Nat) (m₁ : Str → Option Value) (n₁ : Led), i + k = n → (∀ y, y ≠ x → m₁ y = m₀ y) → Inv i n₁ → (∀ p ∈ n₁, p.1 ≠ I) → RangeRest prog w A E h₀ env x body Q s I a n k i m₁ n₁ := by
    intro k
    induction k with
    | zero =>
      intro i m₁ n₁ hk hm hi hoff h tk F N
      have e : m₁ = fun y => if y = x then m₁ x else m₀ y := by
        funext y
        by_cases q : y = x
        · subst q; simp
        · simp [q, hm y q]
      rw [e] at F
      have : i = n := by omega
      subst this
      exact done h tk (m₁ x) n₁ hi F N
    | succ k ih =>
      intro i m₁ n₁ hk hm hi hoff t h tk F N
      have e : (fun y => if y = x then some (Value.int (a + (i : Int)) t) else m₁ y) = fun y => if y = x then some (Value.int (a + (i : Int)) t) else m₀ y := by
        funext y
        by_cases q : y = x
        · simp [q]
        · simp [q, hm y q]
      rw [e] at F
      refine wpAny_mono (turn i t h tk n₁ (by omega) hi hoff F N) (fun f s₂ p => ?_) fun _ _ z => z
      have fin : ∀ {s₁ : Shared} {it : Obj}, UnrEnd h₀ env.locals s₁ I it (fun m' n' => Inv (i + 1) n' ∧ ∀ y, y ≠ x → m' y = m₀ y) s₂ → UnrEnd h₀ env.locals s₁ I it (RangeRest prog w A E h₀ env x body Q s I a n k (i + 1)) s₂ := by
        rintro s₁ it ⟨h', tk', m', news', q, F', N', off, hI', hm'⟩
        exact ⟨h', tk', m', news', q, F', N', off, ih (i + 1) m' news' (by omega) hm' hI' off⟩
      cases f with
      | ret v => exact p
      | brk => exact p
      | next => exact fin p
      | cont => exact fin p
  exact main n 0 m₀ news (by omega) (fun _ _ => rfl) h0 offI
end
theorem ints_item {w : World} {A : Around} {E : Value → Shared → Prop} {s : Shared} {l : Addr} {value slice : PySem.Expr} {vs : List Value} {ns : List Int} {k : Int} {u : Tok} {Q : Value → Shared → Prop}
    (hl : s.heap.IsList l vs.toArray) (hi : IntsAre vs ns) (h0 : 0 ≤ k) (h1 : k < (ns.length : Int)) (hz : ns.length < 2 ^ 62) (h : ∀ t, Q (.int (ns.getD k.toNat 0) t) s)
    (hs : subscripted slice false (.ref l) (.int k u) = operate [.ref l, .int k u] (getItem (.ref l) (.int k u)) := by with_unfolding_all rfl) :
    wpAny (model PW w) A (subscriptTail value slice (.ref l) (.int k u)) Q E s := by
  refine item_at hl h0 (by rw [hi.length]; exact h1) (by rw [hi.length]; exact hz) (fun v hv => ?_) hs
  have hlt : k.toNat < ns.length := by omega
  obtain ⟨t, ht⟩ := hi.get k.toNat ns[k.toNat] (List.getElem?_eq_getElem hlt)
  rw [hv] at ht
  cases ht
  have := h t
  rw [List.getD_eq_getElem?_getD, List.getElem?_eq_getElem hlt] at this
  exact this
theorem isDict_nil {w : World} {o : Obj} (h : o.IsDictOf (sK w) []) : o.IsDictOf (cK w) [] := by
  obtain ⟨es, ep, e, hd, hk, hp, hn⟩ := h
  have : es.toList = [] := by
    have := hp.length
    simpa using this
  have he : es = #[] := by simpa using this
  subst he
  refine ⟨#[], ep, e, hd, ?_, ?_, .nil⟩
  · intro e he; simp at he
  · exact .nil
theorem names_at {w : World} {h : Heap} (X : (hd.heap_39 w.params).In h) : ∃ vs, h.IsList 183 (List.toArray vs) ∧ IntsAre vs NAMES ∧ PW = PW := by
  revert X
  unfold PW
  k_fill
  intro X
  have h183 := X 183 _ (by k_is)
  exact ⟨_, ⟨_, h183, rfl, _, rfl⟩, .cons _ _ (.cons _ _ (.cons _ _ (.cons _ _ (.cons _ _ (.cons _ _ (.cons _ _ .nil)))))), rfl⟩
theorem names_item {w : World} {A : Around} {E : Value → Shared → Prop} {s : Shared} {value slice : PySem.Expr} {k : Int} {u : Tok} {Q : Value → Shared → Prop}
    (X : (hd.heap_39 w.params).In s.heap) (h0 : 0 ≤ k) (h1 : k < 7) (h : ∀ t, Q (.int (NAMES.getD k.toNat 0) t) s)
    (hs : subscripted slice false (.ref 183) (.int k u) = operate [.ref 183, .int k u] (getItem (.ref 183) (.int k u)) := by with_unfolding_all rfl) :
    wpAny (model PW w) A (subscriptTail value slice (.ref 183) (.int k u)) Q E s := by
  obtain ⟨vs, hl, hi, _⟩ := names_at X
  exact ints_item hl hi h0 (by simpa [NAMES] using h1) (by decide) h hs
theorem set_led {w : World} {A : Around} {E : Value → Shared → Prop} {s : Shared} {h₀ : Heap} {L c : Addr} {m : Str → Option Value} {M : Led} {o : Obj} {K : Type} [DecidableEq K] {knd : KeyKind PW w K} {kvs : List (K × Value)} {k : K} {key v : Value} {Q : Unit → Shared → Prop}
    (F : Fr h₀ L s.heap m) (H : News h₀ L s.heap M) (hc : (c, o) ∈ M) (R : Led) (hR : ∀ p ∈ R, p ∈ M ∧ p.1 ≠ c) (hd : o.IsDictOf knd kvs) (hkey : knd.is k key = true) (hsz : kvs.length ≤ sizeLine)
    (h : ∀ h' o', Fr h₀ L h' m → News h₀ L h' ((c, o') :: R) → o'.IsDictOf knd (stored kvs k v) → Q () { s with heap := h', toks := s.toks + 1 }) : wpAny (model PW w) A (setItem (.ref c) key v) Q E s := by
  have hm := H _ hc
  refine wpAny_setItem_pairs (hsz := hsz) hkey (Heap.dictOf_iff.mpr ⟨o, hm.1, hd⟩) fun h' hmm hs => ?_
  obtain ⟨o', ho', hd'⟩ := Heap.dictOf_iff.mp hmm
  refine h h' o' (F.change hs hm.2.1 hm.2.2) (fun p hp => ?_) hd'
  rcases List.mem_cons.mp hp with e | hp
  · rw [e]; exact ⟨ho', hm.2.1, hm.2.2⟩
  · have z := H p (hR p hp).1
    exact ⟨(hs.2 _ (hR p hp).2).trans z.1, z.2⟩
theorem stored_new {K : Type} [DecidableEq K] {kvs : List (K × Value)} {k : K} {v : Value} (h : ∀ kv ∈ kvs, kv.1 ≠ k) : stored kvs k v = kvs ++ [(k, v)] := by
  unfold stored
  rw [if_neg]
  intro z
  obtain ⟨kv, hm, e⟩ := List.any_eq_true.mp z
  exact h kv hm (of_decide_eq_true e)
def cfgUpto (ns : List Int) : Nat → Cfg
  | 0 => []
  | i + 1 => cfgUpto ns i ++ (if 0 ≤ ns.getD (i + 3) 0 then [(.inl (NAMES.getD i 0), ns.getD (i + 3) 0)] else [])
theorem cfg_key {ns : List Int} : ∀ {i : Nat} {c : CKey × Int}, c ∈ cfgUpto ns i → ∃ j, j < i ∧ c.1 = .inl (NAMES.getD j 0)
  | 0, c, h => nomatch h
  | i + 1, c, h => by
    unfold cfgUpto at h
    rcases List.mem_append.mp h with h | h
    · obtain ⟨j, hj, e⟩ := cfg_key h
      exact ⟨j, by omega, e⟩
    · split at h
      · rw [List.mem_singleton.mp h]; exact ⟨i, by omega, rfl⟩
      · exact nomatch h
theorem names_ne : ∀ {i j : Nat}, j < i → i < 7 → NAMES.getD j 0 ≠ NAMES.getD i 0 := by
  intro i j h1 h2
  have : ∀ i : Fin 7, ∀ j : Fin 7, j.val < i.val → NAMES.getD j.val 0 ≠ NAMES.getD i.val 0 := by decide
  exact this ⟨i, h2⟩ ⟨j, by omega⟩ h1
theorem KvsRep.snoc {w : World} {N : Led} {k : CKey} {v : Value} {n : Int} : ∀ {kvs : List (CKey × Value)} {cs : Cfg}, KvsRep w N kvs cs → RepN w N v n → KvsRep w N (kvs ++ [(k, v)]) (cs ++ [(k, n)])
  | [], [], _, r => ⟨rfl, r, trivial⟩
  | _ :: _, _ :: _, ⟨a, b, c⟩, r => ⟨a, b, KvsRep.snoc c r⟩
  | [], _ :: _, h, _ => h.elim
  | _ :: _, [], h, _ => h.elim
theorem KvsRep.keys {w : World} {N : Led} : ∀ {kvs : List (CKey × Value)} {cs : Cfg}, KvsRep w N kvs cs → ∀ kv ∈ kvs, ∃ c ∈ cs, c.1 = kv.1
  | [], [], _, kv, h => nomatch h
  | x :: _, c :: _, ⟨a, b, r⟩, kv, h => by
    rcases List.mem_cons.mp h with e | h
    · exact ⟨c, .head _, by rw [e]; exact a.symm⟩
    · obtain ⟨c', hc, e⟩ := KvsRep.keys r kv h
      exact ⟨c', .tail _ hc, e⟩
  | [], _ :: _, h, _, _ => h.elim
  | _ :: _, [], h, _, _ => h.elim
def ConfInv (w : World) (ns : List Int) (c : Addr) (N : Led) (i : Nat) (n' : Led) : Prop :=
  ∃ o own kvs, n' = (c, o) :: (own ++ N) ∧ o.IsDictOf (cK w) kvs ∧ KvsRep w own kvs (cfgUpto ns i) ∧ (∀ p ∈ own ++ N, p.1 ≠ c) ∧ Off own N
theorem rest_conf {w : World} {A : Around} {E : Value → Shared → Prop} {s : Shared} {env : Env} {h₀ : Heap} {x : Str} {body : List PySem.Stmt} {Q : Flow → Shared → Prop} {I c : Addr} {o : Obj} {a : Int} {n : Nat} {m₀ : Str → Option Value} {N : Led} {ns : List Int}
   (hd : o.IsDictOf (sK w) []) (l1 : ∀ p ∈ N, @LT.lt Nat _ p.1 c) (hI : ∀ p ∈ (c, o) :: N, @LT.lt Nat _ p.1 I)
   (turn : ∀ i t h tk o own kvs, i < n → o.IsDictOf (cK w) kvs → KvsRep w own kvs (cfgUpto ns i) → (∀ p ∈ own ++ N, p.1 ≠ c) → Off own N → (∀ p ∈ (c, o) :: (own ++ N), p.1 ≠ I) → Fr h₀ env.locals h (fun y => if y = x then some (.int (a + (i : Int)) t) else m₀ y) →
      News h₀ env.locals h ((I, itR (a + ((i + 1 : Nat) : Int)) ((n : Int) - ((i + 1 : Nat) : Int))) :: (c, o) :: (own ++ N)) →
      wpAny (model PW w) A (execs body env) (UnrPost h₀ env.locals { s with heap := h, toks := tk } I (itR (a + ((i + 1 : Nat) : Int)) ((n : Int) - ((i + 1 : Nat) : Int))) (fun m' n' => ConfInv w ns c N (i + 1) n' ∧ ∀ y, y ≠ x → m' y = m₀ y) Q) E { s with heap := h, toks := tk })
   (done : ∀ h tk (u : Option Value) o own kvs, o.IsDictOf (cK w) kvs → KvsRep w own kvs (cfgUpto ns n) → (∀ p ∈ own ++ N, p.1 ≠ c) → Off own N → Fr h₀ env.locals h (fun y => if y = x then u else m₀ y) → News h₀ env.locals h ((c, o) :: (own ++ N)) → Q .next { s with heap := h, toks := tk }) :
   HoldRest (RangeRest PW w A E h₀ env x body Q s I a n n 0 m₀ ((c, o) :: N)) := by
  unfold HoldRest
  refine rest_range (ConfInv w ns c N) ⟨o, [], [], rfl, isDict_nil hd, trivial, (fun p hp => Nat.ne_of_lt (l1 p hp)), off_nil⟩ (fun p hp => Nat.ne_of_lt (hI p hp)) ?_ ?_
  · rintro i t h tk n₁ hi ⟨o, own, kvs, rfl, h1, h2, h3, h5⟩ h4 F H
    exact turn i t h tk o own kvs hi h1 h2 h3 h5 h4 F H
  · rintro h tk u n₁ ⟨o, own, kvs, rfl, h1, h2, h3, h5⟩ F H
    exact done h tk u o own kvs h1 h2 h3 h5 F H
theorem cfg_len {ns : List Int} : ∀ i : Nat, (cfgUpto ns i).length ≤ i
  | 0 => Nat.le_refl _
  | i + 1 => by
    have := cfg_len (ns := ns) i
    unfold cfgUpto
    rw [List.length_append]
    split <;> simp <;> omega
theorem cfg_stored {w : World} {N : Led} {ns : List Int} {i : Nat} {kvs : List (CKey × Value)} {v : Value} (h : KvsRep w N kvs (cfgUpto ns i)) (hi : i < 7) : stored kvs (.inl (NAMES.getD i 0)) v = kvs ++ [(.inl (NAMES.getD i 0), v)] :=
  stored_new fun kv hk e => by
    obtain ⟨c, hc, e1⟩ := h.keys kv hk
    obtain ⟨j, hj, e2⟩ := cfg_key hc
    rw [e, e2] at e1
    exact names_ne hj hi (Sum.inl.inj e1)
theorem def_stored {w : World} {N : Led} {ns : List Int} {i : Nat} {kvs : List (CKey × Value)} {v : Value} (h : KvsRep w N kvs (cfgUpto ns i)) : stored kvs kDef v = kvs ++ [(kDef, v)] :=
  stored_new fun kv hk e => by
    obtain ⟨c, hc, e1⟩ := h.keys kv hk
    obtain ⟨j, hj, e2⟩ := cfg_key hc
    rw [e, e2] at e1
    cases e1
def absI (x : Int) : Int := if x < 0 then -x else x
def cfgOf (ns : List Int) : Cfg := cfgUpto ns (ns.length - 3) ++ (if Int.fmod (absI (ns.getD 0 0)) 3 = 0 ∧ ns.getD 0 0 ≠ 0 then [(kDef, Int.fdiv (absI (ns.getD 0 0)) 3)] else [])
end Mine
namespace Mine
local macro_rules | `(tactic| walk_at "zz0") => `(tactic| fail "zz")
local macro_rules | `(tactic| walk_at "zz1") => `(tactic| fail "zz")
local macro_rules | `(tactic| walk_at "zz2") => `(tactic| fail "zz")
local macro_rules | `(tactic| walk_at "zz3") => `(tactic| fail "zz")
local macro_rules | `(tactic| walk_at "zz4") => `(tactic| fail "zz")
local macro_rules | `(tactic| walk_at "zz5") => `(tactic| fail "zz")
local macro_rules | `(tactic| walk_at "zz6") => `(tactic| fail "zz")
local macro_rules | `(tactic| walk_at "zz7") => `(tactic| fail "zz")
theorem off_FEconf : True := by
  w_top off
  trivial
local macro_rules | `(tactic| k_mem) => `(tactic| assumption)
local macro_rules | `(tactic| walk_at "compareOp In str ref") => `(tactic| (k_here; first
  | (refine c_in (k := Sum.inr _) (knd := ckKind _ _) (by k_asm) (DictL.mono (by assumption) (by kcj_all)) (ck_str _ _ _ _) (by assumption) ?_)
  | (refine c_in (b := true) (knd := strKind _ _) (by k_asm) (DictL.mono (by assumption) (by kcj_all)) (strKind_is _ _ _ _) (by rfl) ?_)
  | (refine c_in (b := false) (knd := strKind _ _) (by k_asm) (DictL.mono (by assumption) (by kcj_all)) (strKind_is _ _ _ _) (by rfl) ?_)))
local macro_rules | `(tactic| walk_at "compareOp NotIn str ref") => `(tactic| (k_here; refine c_notin (k := Sum.inr _) (knd := ckKind _ _) (by k_asm) (DictL.mono (by assumption) (by kcj_all)) (ck_str _ _ _ _) (by assumption) ?_))
local macro_rules | `(tactic| walk_at "compareOp In int ref") => `(tactic| (k_here; refine c_in (k := Sum.inl _) (knd := ckKind _ _) (by k_asm) (DictL.mono (by assumption) (by kcj_all)) (ck_int _ _ _ _) (by assumption) ?_))
local macro_rules | `(tactic| walk_at "compareOp NotIn int ref") => `(tactic| (k_here; refine c_notin (k := Sum.inl _) (knd := ckKind _ _) (by k_asm) (DictL.mono (by assumption) (by kcj_all)) (ck_int _ _ _ _) (by assumption) ?_))
local macro_rules | `(tactic| walk_at "subscriptTail") => `(tactic| (k_here; first
  | ((with_reducible show wpAny _ _ (subscriptTail _ _ (Value.ref _) (Value.int _ _)) _ _ _); (refine c_item (k := Sum.inl _) (knd := ckKind _ _) (by k_asm) (DictL.mono (by assumption) (by kcj_all)) (ck_int _ _ _ _) (by assumption) ?_))
  | ((with_reducible show wpAny _ _ (subscriptTail _ _ (Value.ref _) (Value.str _ _)) _ _ _); (refine c_item (k := Sum.inr _) (knd := ckKind _ _) (by k_asm) (DictL.mono (by assumption) (by kcj_all)) (ck_str _ _ _ _) (by assumption) ?_))
  | ((with_reducible show wpAny _ _ (subscriptTail _ _ (Value.ref _) (Value.str _ _)) _ _ _); (refine c_item (knd := strKind _ _) (by k_asm) (DictL.mono (by assumption) (by kcj_all)) (strKind_is _ _ _ _) (by rfl) ?_))))
local macro_rules | `(tactic| walk_at "call builtin:len") => `(tactic| (k_here; k_dflt (refine' len_list ?hl ?hf ?_; (case hl => exact News.isList (by k_asm) (by first | assumption | exact .tail _ (by assumption))); (case hf => (simp only [List.size_toArray]; omega)))))
local macro_rules | `(tactic| walk_at "exec For Name Call cons nil") => `(tactic| (k_here; (rename Fr _ _ _ _ => lF'); (with_unfolding_all refine' For_invVF lF' ?k1 ?k2 ?_; (case k1 => exact rfl); (case k2 => exact rfl); k_whole)))
local macro_rules | `(tactic| walk_at "pyIter ref") => `(tactic| (k_here; (with_reducible show wpAny _ _ (pyIter (Value.ref _)) (fun it s₂ => LoopAtV _ _ _ _ _ _ _ _ _ it s₂) _ _); k_dflt (refine' hold_range rfl ?hr (small_one ?s1 ?s2 ?s3 ?s4) (rangeSize_nat _ _) ?F ?N ?_; (case hr => assumption); (case s1 => omega); (case s2 => omega); (case s3 => omega); (case s4 => omega); (case F => assumption); (case N => assumption)); intro I' hI'))
local macro_rules | `(tactic| walk_at "subscriptTail") => `(tactic| (k_here; k_dflt (refine' ints_item ?hl ?hi ?h0 ?h1 ?hz ?_; (case hl => exact News.isList (by k_asm) (by first | assumption | exact .tail _ (List.mem_append_right _ (by assumption)) | exact .tail _ (.tail _ (List.mem_append_right _ (by assumption))))); (case hi => assumption); (case h0 => omega); (case h1 => omega); (case hz => omega)); intro t'))
local macro_rules | `(tactic| walk_at "subscriptTail") => `(tactic| (k_here; (with_reducible show wpAny _ _ (subscriptTail _ _ (Value.ref 183) _) _ _ _); k_dflt (refine' names_item ?X ?h0 ?h1 ?_; (case X => k_in); (case h0 => omega); (case h1 => omega)); intro t'))
local macro_rules | `(tactic| walk_at "call ref") => `(tactic| (k_here; (with_reducible show wpAny _ _ (PySem.call (Value.ref 197) _ _) _ _ _); k_dflt (refine' def_spec ?B ?F ?X ?H ?T rfl ?d ?u ?dq ?uq ?_; (case B => k_asm); (case F => k_asm); (case X => k_asm); (case H => k_asm); (case T => k_asm); (case d => (dsimp only [recursionLimit]; omega)); (case u => (dsimp only [cLine]; omega)); (case dq => (dsimp only [Around.deeper]; omega)); (case uq => (dsimp only [Around.deeper]; omega))); intro h' tk' v' own' F' H' off' rep'; (try dsimp only)))

theorem conf_spec {l : Addr} {vs : List Value} {n0 : Nat} {ns : List Int} {w : World} {mean : ExcName → Option Value} {mg mb : Str → Option Value} {N : Led}
  {dp un : Nat} {gd : Option (List Code)} {cn : Str} {cs : Scope} {a : Addr} {ccd : Value} {cl : List (Str × Addr)} {outer : List Env} {A₀ : Around} {base h₀ : Heap} {L : Addr} {m : Str → Option Value} {s : Shared} {Q E : Value → Shared → Prop}
  (B : Below A₀ base outer h₀) (F : Fr h₀ L s.heap m) (X : (hd.heap_39 w.params).In h₀) (H : News h₀ L s.heap N) (T : Top hd.view_39 LO mean mg mb h₀) (hk : cs.kind = .function)
  (hdp : dp + 5 < recursionLimit) (hun : un + 40 < cLine) (hdq : dp ≤ 400) (hunq : un ≤ 100) (hdq2 : dp ≤ 390) (hunq2 : un ≤ 90)
  (hl : (l, listOf vs.toArray n0) ∈ N) (hi : IntsAre vs ns) (g6 : 6 ≤ ns.length) (g9 : ns.length ≤ 9)
  (hret : ∀ h' tk c own o kvs, Fr h₀ L h' m → News h₀ L h' ((c, o) :: (own ++ N)) → Off ((c, o) :: own) N → o.IsDictOf (cK w) kvs → (c == sysModules) = false → KvsRep w own kvs (cfgOf ns) → Q (.ref c) { s with heap := h', toks := tk }) :
  wpAny (model PW w) (ktrTop dp un gd cn cs L a ccd cl outer) (call (.ref 211) [.ref l]) Q E s := by
  have h9 : vs.length ≤ 9 := by rw [hi.length]; exact g9
  revert X H
  unfold PW
  k_fill
  intro X H
  refine wpAny_call ?_
  k_dflt cell_enter
  k_steps
  rename_i I hI
  refine rest_conf (ns := ns) (by assumption) (by assumption) hI ?_ ?_
  · intro i t h tk o own kvs hi' hd hr off offN offI F2 N2
    have e0 : (0 + (i : Int)).toNat = i := by omega
    have e3 : (0 + (i : Int) + 3).toNat = i + 3 := by omega
    have i7 : i < 6 := by omega
    k_steps
    · rename_i t1 pos tk1 h2 tk2 v2 own2 F3 H3 off3 rep3 t3
      rw [e3] at rep3 pos
      rw [e0]
      refine set_led (o := o) (knd := cK w) (k := .inl (NAMES.getD i 0)) F3 H3 (List.mem_append_right _ (.tail _ (.head _))) ((I, itR (0 + ((i + 1 : Nat) : Int)) ((((ns.length : Int) - 3 - 0).toNat : Int) - ((i + 1 : Nat) : Int))) :: ((own2 ++ own) ++ N)) ?hR hd (ck_int _ _ _ _) ?sz ?cont
      case hR =>
        intro p hp
        rcases List.mem_cons.mp hp with e | hp
        · rw [e]; exact ⟨List.mem_append_right _ (.head _), fun z => offI _ (.head _) z.symm⟩
        rcases List.mem_append.mp hp with hp | hp
        · rcases List.mem_append.mp hp with hp | hp
          · exact ⟨List.mem_append_left _ hp, fun z => off3 p hp _ (.tail _ (.head _)) z.symm⟩
          · exact ⟨List.mem_append_right _ (.tail _ (.tail _ (List.mem_append_left _ hp))), off p (List.mem_append_left _ hp)⟩
        · exact ⟨List.mem_append_right _ (.tail _ (.tail _ (List.mem_append_right _ hp))), off p (List.mem_append_right _ hp)⟩
      case sz =>
        have := hr.length
        have := cfg_len (ns := ns) i
        rw [sizeLine_eq]; omega
      case cont =>
        intro h4 o4 F4 H4 hd4
        k_steps
        rw [cfg_stored (v := v2) hr (by omega)] at hd4
        refine ⟨_, _, _, (_, o4) :: ((own2 ++ own) ++ N), rfl, (by assumption), fun p hp => H4 p ?_, ?_, ⟨o4, own2 ++ own, _, rfl, hd4, ?_, ?_, ?_⟩, fun y hy => if_neg hy⟩
        · rcases List.mem_cons.mp hp with e | hp
          · rw [e]; exact .tail _ (.head _)
          rcases List.mem_cons.mp hp with e | hp
          · rw [e]; exact .head _
          · exact .tail _ (.tail _ hp)
        · intro p hp
          rcases List.mem_cons.mp hp with e | hp
          · rw [e]; exact offI (_, o) (.head _)
          rcases List.mem_append.mp hp with hp | hp
          · rcases List.mem_append.mp hp with hp | hp
            · exact fun z => off3 p hp _ (.head _) z.symm
            · exact offI p (.tail _ (List.mem_append_left _ hp))
          · exact offI p (.tail _ (List.mem_append_right _ hp))
        · show KvsRep w (own2 ++ own) (kvs ++ [(.inl (NAMES.getD i 0), v2)]) (cfgUpto ns (i + 1))
          unfold cfgUpto
          rw [if_pos pos]
          exact KvsRep.snoc (hr.mono fun p hp => List.mem_append_right _ hp) (rep3.mono fun p hp => List.mem_append_left _ hp)
        · intro p hp
          rcases List.mem_append.mp hp with hp | hp
          · rcases List.mem_append.mp hp with hp | hp
            · exact fun z => off3 p hp _ (.tail _ (.head _)) z.symm
            · exact off p (List.mem_append_left _ hp)
          · exact off p (List.mem_append_right _ hp)
        · intro p hp q hq
          rcases List.mem_append.mp hp with hp | hp
          · exact off3 p hp q (.tail _ (.tail _ (List.mem_append_right _ hq)))
          · exact offN p hp q hq
    · rename_i neg
      rw [e3] at neg
      exact ⟨_, _, _, _, rfl, (by assumption), N2, offI, ⟨o, own, kvs, rfl, hd, by unfold cfgUpto; rw [if_neg neg, List.append_nil]; exact hr, off, offN⟩, fun y hy => if_neg hy⟩
  · intro h tk u o own kvs hd hr off offN F2 N2
    have offc : ∀ o' : Obj, ∀ own2 : Led, Off own2 N → Off ((_, o') :: (own2 ++ own)) N := fun o' own2 h2 => off_cons (fun q hq => off q (List.mem_append_right _ hq)) (fun p hp q hq => (List.mem_append.mp hp).elim (fun hp => h2 p hp q hq) fun hp => offN p hp q hq)
    have en : ((ns.length : Int) - 3 - 0).toNat = ns.length - 3 := by omega
    rw [en] at hr
    k_steps
    · rename_i h2 tk2 v2 own2 F3 H3 off3 rep3
      refine set_led (o := o) (knd := cK w) (k := kDef) F3 H3 (List.mem_append_right _ (.head _)) ((own2 ++ own) ++ N) ?hR hd (ck_str _ _ _ _) ?sz ?cont
      case hR =>
        intro p hp
        rcases List.mem_append.mp hp with hp | hp
        · rcases List.mem_append.mp hp with hp | hp
          · exact ⟨List.mem_append_left _ hp, fun z => off3 p hp _ (.head _) z.symm⟩
          · exact ⟨List.mem_append_right _ (.tail _ (List.mem_append_left _ hp)), off p (List.mem_append_left _ hp)⟩
        · exact ⟨List.mem_append_right _ (.tail _ (List.mem_append_right _ hp)), off p (List.mem_append_right _ hp)⟩
      case sz =>
        have := hr.length
        have := cfg_len (ns := ns) (ns.length - 3)
        rw [sizeLine_eq]; omega
      case cont =>
        intro h4 o4 F4 H4 hd4
        k_steps
        rw [def_stored (v := v2) hr] at hd4
        refine hret _ _ _ (own2 ++ own) o4 _ (by assumption) (by assumption) (offc o4 own2 fun p hp q hq => off3 p hp q (.tail _ (List.mem_append_right _ hq))) hd4 (by assumption) ?_
        unfold cfgOf
        rw [if_pos ⟨by assumption, by assumption⟩]
        exact KvsRep.snoc (hr.mono fun p hp => List.mem_append_right _ hp) (rep3.mono fun p hp => List.mem_append_left _ hp)
    · refine hret _ _ _ own o kvs (by assumption) (by assumption) (offc o [] off_nil) hd (by assumption) ?_
      unfold cfgOf
      rw [if_neg (fun z => z.2 (by assumption)), List.append_nil]
      exact hr
    · refine hret _ _ _ own o kvs (by assumption) (by assumption) (offc o [] off_nil) hd (by assumption) ?_
      unfold cfgOf
      rw [if_neg (fun z => absurd z.1 (by assumption)), List.append_nil]
      exact hr
end Mine
namespace Mine
local macro_rules | `(tactic| k_mem) => `(tactic| assumption)
local macro_rules | `(tactic| walk_at "compareOp In str ref") => `(tactic| (k_here; first
  | (refine c_in (k := Sum.inr _) (knd := ckKind _ _) (by k_asm) (DictL.mono (by assumption) (by kcj_all)) (ck_str _ _ _ _) (by assumption) ?_)
  | (refine c_in (b := true) (knd := strKind _ _) (by k_asm) (DictL.mono (by assumption) (by kcj_all)) (strKind_is _ _ _ _) (by rfl) ?_)
  | (refine c_in (b := false) (knd := strKind _ _) (by k_asm) (DictL.mono (by assumption) (by kcj_all)) (strKind_is _ _ _ _) (by rfl) ?_)))
local macro_rules | `(tactic| walk_at "compareOp NotIn str ref") => `(tactic| (k_here; refine c_notin (k := Sum.inr _) (knd := ckKind _ _) (by k_asm) (DictL.mono (by assumption) (by kcj_all)) (ck_str _ _ _ _) (by assumption) ?_))
local macro_rules | `(tactic| walk_at "compareOp In int ref") => `(tactic| (k_here; refine c_in (k := Sum.inl _) (knd := ckKind _ _) (by k_asm) (DictL.mono (by assumption) (by kcj_all)) (ck_int _ _ _ _) (by assumption) ?_))
local macro_rules | `(tactic| walk_at "compareOp NotIn int ref") => `(tactic| (k_here; refine c_notin (k := Sum.inl _) (knd := ckKind _ _) (by k_asm) (DictL.mono (by assumption) (by kcj_all)) (ck_int _ _ _ _) (by assumption) ?_))
local macro_rules | `(tactic| walk_at "subscriptTail") => `(tactic| (k_here; first
  | ((with_reducible show wpAny _ _ (subscriptTail _ _ (Value.ref _) (Value.int _ _)) _ _ _); (refine c_item (k := Sum.inl _) (knd := ckKind _ _) (by k_asm) (DictL.mono (by assumption) (by kcj_all)) (ck_int _ _ _ _) (by assumption) ?_))
  | ((with_reducible show wpAny _ _ (subscriptTail _ _ (Value.ref _) (Value.str _ _)) _ _ _); (refine c_item (k := Sum.inr _) (knd := ckKind _ _) (by k_asm) (DictL.mono (by assumption) (by kcj_all)) (ck_str _ _ _ _) (by assumption) ?_))
  | ((with_reducible show wpAny _ _ (subscriptTail _ _ (Value.ref _) (Value.str _ _)) _ _ _); (refine c_item (knd := strKind _ _) (by k_asm) (DictL.mono (by assumption) (by kcj_all)) (strKind_is _ _ _ _) (by rfl) ?_))))
section
open PySem.AutoSeq1 (wpAny_loadPart')
open PySem.MeetsSeq PySem.MeetsSeq2 PySem.MeetsSeq3 PySem.SeqRoads2 PySem.SeqAt
variable {prog : Program} {w : World}
def EqP (prog : Program) (w : World) (A : Around) (s : Shared) (y x : Value) : Prop :=
  ∀ (E : Value → Shared → Prop) (Q : Bool → Shared → Prop), Q true s → wpAny (model prog w) A (eqBool y x) Q E s
theorem eq_loopP (l b : Addr) (items items2 : Array Value) (n n2 : Nat) (dd dd2 : Option Addr) (sl sl2 : Array (Option Value)) (hsz : items.size = items2.size) (k : Nat) :
    ∀ i : Nat, items.size - i = k → ∀ (A : Around) (R : Result → Shared → Prop) (s : Shared), s.heap.get? l = some { cls := .type "list", dict := dd, data := .seq items n, slots := sl } → s.heap.get? b = some { cls := .type "list", dict := dd2, data := .seq items2 n2, slots := sl2 } →
        (∀ j (h1 : j < items.size) (h2 : j < items2.size), EqP prog w A.in1 s items[j] items2[j]) →
        R (.ok (.ret (.bool true))) s →
      wpAny (model prog w) A.in1 (Builtin.«list.__eq__.loop» ⟨[.ref l, .ref b, rawInt i, rawInt 2], []⟩) (fun fin s' => match fin with | .done f => R (.ok f) s' | .again c' => c'.quiet = true ∧ codeAny (model prog w) A c' R s') (fun e s' => R (.error e) s') s := by
  induction k with
  | zero =>
    intro i hk A R s hl hb he h
    obtain ⟨hp, g, d, tk, os⟩ := s
    wp_walk using wpAny_loadPart' hl, wpAny_loadPart' hb
    have hi1 : items[((i : Nat) : Int).toNat]? = none := by simp; omega
    have hi2 : items2[((i : Nat) : Int).toNat]? = none := by simp; omega
    rw [hi1, hi2]
    wp_walk using wpAny_loadPart' hl, wpAny_loadPart' hb
    show R (.ok (.ret (.bool (items.size == items2.size)))) _
    rw [hsz]
    simpa using h
  | succ k ih =>
    intro i hk A R s hl hb he h
    obtain ⟨hp, g, d, tk, os⟩ := s
    wp_walk using wpAny_loadPart' hl, wpAny_loadPart' hb
    have hlt : i < items.size := by omega
    have hlt2 : i < items2.size := by omega
    have hi1 : items[((i : Nat) : Int).toNat]? = some items[i] := by simp [hlt]
    have hi2 : items2[((i : Nat) : Int).toNat]? = some items2[i] := by simp [hlt2]
    have hc : ((i : Int) + 1) = ((i + 1 : Nat) : Int) := by push_cast; rfl
    rw [hi1, hi2]
    refine wpAny_bind (he i hlt hlt2 _ _ ?_)
    wp_walk
    rw [hc]
    exact ⟨plainId_quiet plain_eq_loop _, codeAny_builtin entry_eq_loop (by
      rw [Around.under_plainId plain_eq_loop _]
      exact ih (i + 1) (by omega) A R _ hl hb he h)⟩
theorem list_eqP {A : Around} {s : Shared} {E : Value → Shared → Prop} {Q : Value → Shared → Prop} {l b : Addr} {items items2 : Array Value} (hl : s.heap.IsList l items) (hb : s.heap.IsList b items2) (hsz : items.size = items2.size) (hu : A.units < cLine)
    (he : ∀ j (h1 : j < items.size) (h2 : j < items2.size), EqP prog w A.in1 s items[j] items2[j]) (h : Q (.bool true) s) : wpAny (model prog w) A (richCompare .Eq (.ref l) (.ref b)) Q E s := by
  obtain ⟨⟨cls, dd, data, sl⟩, ho, hc, n, hd⟩ := id hl
  obtain ⟨⟨cls2, dd2, data2, sl2⟩, ho2, hc2, n2, hd2⟩ := id hb
  simp only at hc hd hc2 hd2
  subst hc hd hc2 hd2
  have hT : s.TypeIs (.ref l) "list" := ⟨_, ho, rfl⟩
  refine wpAny_richCompare_same_room (op := .Eq) hT ⟨_, ho2, rfl⟩ F.slot_list_eq ?_ hu
  refine wpAny_call (codeAny_call_builtin F.slot_list_eq.plain F.entry_list_eq (F.slot_list_eq.check _ _ _ _ _ _ _ _ hT (F.args_list_eq_2 _ _) ?_))
  obtain ⟨hp, g, d, tk, os⟩ := s
  have f3 := AutoSeq1.sub_list_list
  have hne : ¬ (items.size != items2.size) = true := by simp [hsz]
  wp_walk using wpAny_loadPart' ho, wpAny_loadPart' ho2
  exact ⟨plainId_quiet plain_eq_loop _, codeAny_builtin entry_eq_loop (by
    rw [Around.under_plainId plain_eq_loop _]
    exact eq_loopP l b items items2 n n2 dd dd2 sl sl2 hsz _ 0 rfl A (wants (fun v s' => v ≠ .notImplemented ∧ Q v s') E) _ ho ho2 he (show Value.bool true ≠ Value.notImplemented ∧ Q (.bool true) _ from ⟨(fun x => nomatch x), h⟩))⟩
theorem EqP.of_refs {A : Around} {s : Shared} {l b : Addr} (h : l ≠ b → ∀ (E Q : Value → Shared → Prop), Q (.bool true) s → wpAny (model prog w) A (richCompare .Eq (.ref l) (.ref b)) Q E s) : EqP prog w A s (.ref l) (.ref b) := fun E Q hq => by
  by_cases hne : l = b
  · subst hne; exact EqAt.same _ prog w E Q hq
  unfold eqBool
  refine wpAny_holding ?_
  refine wpAny_ite_split (fun hab => absurd (by have := eq_of_beq hab; injection this) hne) (fun _ => ?_)
  exact wpAny_bind (h hne E _ (wpAny_truthy_bool hq))
end
end Mine
namespace Mine
local macro_rules | `(tactic| k_mem) => `(tactic| assumption)
local macro_rules | `(tactic| walk_at "compareOp In str ref") => `(tactic| (k_here; first
  | (refine c_in (k := Sum.inr _) (knd := ckKind _ _) (by k_asm) (DictL.mono (by assumption) (by kcj_all)) (ck_str _ _ _ _) (by assumption) ?_)
  | (refine c_in (b := true) (knd := strKind _ _) (by k_asm) (DictL.mono (by assumption) (by kcj_all)) (strKind_is _ _ _ _) (by rfl) ?_)
  | (refine c_in (b := false) (knd := strKind _ _) (by k_asm) (DictL.mono (by assumption) (by kcj_all)) (strKind_is _ _ _ _) (by rfl) ?_)))
local macro_rules | `(tactic| walk_at "compareOp NotIn str ref") => `(tactic| (k_here; refine c_notin (k := Sum.inr _) (knd := ckKind _ _) (by k_asm) (DictL.mono (by assumption) (by kcj_all)) (ck_str _ _ _ _) (by assumption) ?_))
local macro_rules | `(tactic| walk_at "compareOp In int ref") => `(tactic| (k_here; refine c_in (k := Sum.inl _) (knd := ckKind _ _) (by k_asm) (DictL.mono (by assumption) (by kcj_all)) (ck_int _ _ _ _) (by assumption) ?_))
local macro_rules | `(tactic| walk_at "compareOp NotIn int ref") => `(tactic| (k_here; refine c_notin (k := Sum.inl _) (knd := ckKind _ _) (by k_asm) (DictL.mono (by assumption) (by kcj_all)) (ck_int _ _ _ _) (by assumption) ?_))
local macro_rules | `(tactic| walk_at "subscriptTail") => `(tactic| (k_here; first
  | ((with_reducible show wpAny _ _ (subscriptTail _ _ (Value.ref _) (Value.int _ _)) _ _ _); (refine c_item (k := Sum.inl _) (knd := ckKind _ _) (by k_asm) (DictL.mono (by assumption) (by kcj_all)) (ck_int _ _ _ _) (by assumption) ?_))
  | ((with_reducible show wpAny _ _ (subscriptTail _ _ (Value.ref _) (Value.str _ _)) _ _ _); (refine c_item (k := Sum.inr _) (knd := ckKind _ _) (by k_asm) (DictL.mono (by assumption) (by kcj_all)) (ck_str _ _ _ _) (by assumption) ?_))
  | ((with_reducible show wpAny _ _ (subscriptTail _ _ (Value.ref _) (Value.str _ _)) _ _ _); (refine c_item (knd := strKind _ _) (by k_asm) (DictL.mono (by assumption) (by kcj_all)) (strKind_is _ _ _ _) (by rfl) ?_))))
section
variable {prog : Program} {w : World} {K : Type} [DecidableEq K] {knd : KeyKind prog w K} {A : Around} {E : Value → Shared → Prop} {s : Shared}
def HitsP (prog : Program) (w : World) (A : Around) (s : Shared) {K : Type} [DecidableEq K] (kb : List (K × Value)) : List (K × Value) → Prop
  | [] => True
  | (k, v) :: r => (∃ y, valueAt kb k = some y ∧ EqP prog w A s v y) ∧ HitsP prog w A s kb r
theorem same_pairsP {nm : String} {a b : Addr} {ka kb : List (K × Value)} {Q : Bool → Shared → Prop} (ha : (a == sysModules) = false) (hb : (b == sysModules) = false)
    (da : s.heap.DictOf knd a ka) (db : s.heap.DictOf knd b kb) (hlen : ka.length = kb.length) (hits : HitsP prog w A s kb ka) (h : Q true s) :
    wpAny (model prog w) A (Builtin.Dict.samePairs nm a b) Q E s := by
  obtain ⟨oa, es, ep, hoa, _, hda, hka, hpa, _⟩ := da
  obtain ⟨ob, es', ep', hob, _, hdb, hkb, hpb, _⟩ := db
  have hla : ka.length = es.size := by rw [← hpa.length]; exact Array.length_toList
  have hlb : kb.length = es'.size := by rw [← hpb.length]; exact Array.length_toList
  have hfind : ∀ k, findBy knd.is es' k = valueAt kb k := fun k => by
    rw [← hpb.find k]
    clear hlb hpb hkb hdb hob
    obtain ⟨l⟩ := es'
    simp [findBy]
  have hsz : es.size = es'.size := by rw [← hla, ← hlb]; exact hlen
  unfold Builtin.Dict.samePairs Builtin.Dict.showsAll
  rw [if_neg (show ¬ (a == sysModules) = true by rw [ha]; exact Bool.false_ne_true), if_neg (show ¬ (b == sysModules) = true by rw [hb]; exact Bool.false_ne_true)]
  refine wpAny_bind (wpAny_pure (wpAny_bind (wpAny_pure ?_)))
  refine wpAny_bind (wpAny_dictEntries hoa hda ?_)
  dsimp only
  refine wpAny_bind (wpAny_dictEntries hob hdb ?_)
  rw [if_neg (by rw [hsz]; simp)]
  refine wpAny_bind (wpAny_dictEpoch hoa hda ?_)
  refine wpAny_bind ?_
  rw [Std.Legacy.Range.forIn_eq_forIn_range']
  simp only [Std.Legacy.Range.size, Nat.sub_zero, Nat.add_sub_cancel, Nat.div_one]
  refine wpAny_forIn_list _
    (fun rest q s' => s' = s ∧ q = (none, ()) ∧ ∃ i, rest = List.range' i (es.size - i) ∧ i ≤ es.size ∧ HitsP prog w A s kb (ka.drop i))
    _ ?_ ?_ _ _ ⟨rfl, rfl, 0, by simp, Nat.zero_le _, hits⟩
  · rintro x rest q s' ⟨rfl, rfl, i, hr, hi, hpre⟩
    have hlt : i < es.size := by
      rcases Nat.lt_or_ge i es.size with h | h
      · exact h
      · rw [Nat.sub_eq_zero_of_le h] at hr; simp at hr
    obtain ⟨rfl, hrest⟩ : x = i ∧ rest = List.range' (i + 1) (es.size - (i + 1)) := by
      have e : es.size - i = (es.size - (i + 1)) + 1 := by omega
      rw [e, List.range'_succ] at hr
      injection hr with h1 h2
      exact ⟨h1, h2⟩
    refine wpAny_bind (wpAny_dictEntries hoa hda ?_)
    rw [Array.getElem?_eq_getElem hlt]
    have hlt' : x < ka.length := by rw [hla]; exact hlt
    obtain ⟨k, v, hkv⟩ : ∃ k v, ka[x] = (k, v) := ⟨_, _, rfl⟩
    have hdrop : ka.drop x = (k, v) :: ka.drop (x + 1) := by rw [← hkv]; exact List.drop_eq_getElem_cons hlt'
    obtain ⟨hkey, hval⟩ := hpa.get? (i := x) (e := es[x]) (k := k) (v := v) (by rw [Array.getElem?_toList]; exact Array.getElem?_eq_getElem hlt) (by rw [List.getElem?_eq_getElem hlt', hkv])
    obtain ⟨k', hk', hh⟩ := hka es[x] (Array.getElem_mem hlt)
    have ekk : k' = k := knd.inj _ _ _ hk' hkey
    rw [ekk] at hh
    rw [hdrop] at hpre
    obtain ⟨⟨y, hy, he⟩, hrr⟩ := hpre
    show wpAny _ _ (holding [es[x].key, es[x].val] _ >>= _) _ _ _
    rw [hh]
    refine wpAny_bind (wpAny_holding (wpAny_bind (wpAny_dictFind_of hkey hob hdb hkb ?_)))
    cases hj : es'.findIdx? fun e => knd.is k e.key with
    | none =>
      have hn : valueAt kb k = none := by rw [← hfind k, findBy_of_findIdx?, hj]
      rw [hn] at hy; exact nomatch hy
    | some j =>
      obtain ⟨hjlt, _, _⟩ := Array.findIdx?_eq_some_iff_getElem.mp hj
      have hv' : valueAt kb k = some es'[j].val := by
        rw [← hfind k, findBy_of_findIdx?, hj]
        simp [Array.getElem?_eq_getElem hjlt]
      refine wpAny_bind (wpAny_dictEntries hob hdb ?_)
      rw [Array.getElem?_eq_getElem hjlt]
      have ey : es'[j].val = y := Option.some.inj (hv'.symm.trans hy)
      rw [← ey, ← hval] at he
      refine wpAny_holding (he _ _ ?_)
      show wpAny _ _ (if (!true) = true then _ else _) _ _ _
      rw [if_neg (by decide)]
      refine wpAny_bind (wpAny_dictEpoch hoa hda ?_)
      rw [if_neg (by simp)]
      exact wpAny_pure ⟨rfl, rfl, x + 1, hrest, hlt, hrr⟩
  · rintro q s' ⟨rfl, rfl, i, hr, hi, hpre⟩
    exact wpAny_pure h
theorem dict_eqP {a b : Addr} {ka kb : List (K × Value)} {Q : Value → Shared → Prop} (ha : (a == sysModules) = false) (hb : (b == sysModules) = false)
    (da : s.heap.DictOf knd a ka) (db : s.heap.DictOf knd b kb) (hu : A.units < cLine) (hlen : ka.length = kb.length) (hits : HitsP prog w A.in1 s kb ka) (h : Q (.bool true) s) :
    wpAny (model prog w) A (richCompare .Eq (.ref a) (.ref b)) Q E s := by
  refine wpAny_richCompare_same_room (op := .Eq) da.typeIs db.typeIs PySem.F.slot_dict_eq (wpAny_call_entry PySem.F.slot_dict_eq da.typeIs PySem.F.entry_dict_eq ?_ (PySem.F.args_dict_eq_2 _ _)) hu
  show wpAny _ _ (Builtin.Dict.dictSlotArgs "__eq__" ⟨[.ref a, .ref b], []⟩ >>= _) _ _ s
  refine wpAny_bind ?_
  unfold Builtin.Dict.dictSlotArgs
  refine wpAny_bind (wpAny_notOrdered_dict da.typeIs ?_)
  show wpAny _ _ (pure (Value.ref a, Value.ref b)) _ _ s
  refine wpAny_pure ?_
  refine wpAny_bind (wpAny_isInstance (T := "dict") db.typeIs PySem.F.sub_dict_dict ?_)
  simp only [Bool.not_true, Bool.false_eq_true, if_false]
  refine wpAny_bind (wpAny_pure (wpAny_bind (wpAny_pure ?_)))
  refine wpAny_bind (same_pairsP ha hb da db hlen hits ?_)
  refine wpAny_pure ⟨_, rfl, ?_⟩
  refine And.intro ?_ ?_
  · exact fun x => nomatch x
  · simpa using h
end
section
variable {w : World} {A : Around} {s : Shared} {h₀ : Heap} {L : Addr} {N : Led}
def dep : Dd → Nat
  | .list xs => 1 + depAll xs
  | _ => 3
where depAll : List Dd → Nat
  | [] => 0
  | x :: xs => max (dep x) (depAll xs)
theorem eqp_at {v y : Value} (h : SeqAt.EqAt A s v y true) : EqP PW w A s v y := fun E Q q => h PW w E Q q
end
end Mine
namespace Mine
local macro_rules | `(tactic| k_mem) => `(tactic| assumption)
local macro_rules | `(tactic| walk_at "compareOp In str ref") => `(tactic| (k_here; first
  | (refine c_in (k := Sum.inr _) (knd := ckKind _ _) (by k_asm) (DictL.mono (by assumption) (by kcj_all)) (ck_str _ _ _ _) (by assumption) ?_)
  | (refine c_in (b := true) (knd := strKind _ _) (by k_asm) (DictL.mono (by assumption) (by kcj_all)) (strKind_is _ _ _ _) (by rfl) ?_)
  | (refine c_in (b := false) (knd := strKind _ _) (by k_asm) (DictL.mono (by assumption) (by kcj_all)) (strKind_is _ _ _ _) (by rfl) ?_)))
local macro_rules | `(tactic| walk_at "compareOp NotIn str ref") => `(tactic| (k_here; refine c_notin (k := Sum.inr _) (knd := ckKind _ _) (by k_asm) (DictL.mono (by assumption) (by kcj_all)) (ck_str _ _ _ _) (by assumption) ?_))
local macro_rules | `(tactic| walk_at "compareOp In int ref") => `(tactic| (k_here; refine c_in (k := Sum.inl _) (knd := ckKind _ _) (by k_asm) (DictL.mono (by assumption) (by kcj_all)) (ck_int _ _ _ _) (by assumption) ?_))
local macro_rules | `(tactic| walk_at "compareOp NotIn int ref") => `(tactic| (k_here; refine c_notin (k := Sum.inl _) (knd := ckKind _ _) (by k_asm) (DictL.mono (by assumption) (by kcj_all)) (ck_int _ _ _ _) (by assumption) ?_))
local macro_rules | `(tactic| walk_at "subscriptTail") => `(tactic| (k_here; first
  | ((with_reducible show wpAny _ _ (subscriptTail _ _ (Value.ref _) (Value.int _ _)) _ _ _); (refine c_item (k := Sum.inl _) (knd := ckKind _ _) (by k_asm) (DictL.mono (by assumption) (by kcj_all)) (ck_int _ _ _ _) (by assumption) ?_))
  | ((with_reducible show wpAny _ _ (subscriptTail _ _ (Value.ref _) (Value.str _ _)) _ _ _); (refine c_item (k := Sum.inr _) (knd := ckKind _ _) (by k_asm) (DictL.mono (by assumption) (by kcj_all)) (ck_str _ _ _ _) (by assumption) ?_))
  | ((with_reducible show wpAny _ _ (subscriptTail _ _ (Value.ref _) (Value.str _ _)) _ _ _); (refine c_item (knd := strKind _ _) (by k_asm) (DictL.mono (by assumption) (by kcj_all)) (strKind_is _ _ _ _) (by rfl) ?_))))
section
variable {w : World} {s : Shared} {h₀ : Heap} {L : Addr} {N : Led}
theorem dictAt {knd : KeyKind PW w Str} {d : Addr} {kvs : List (Str × Value)} (H : News h₀ L s.heap N) (D : DictL knd N d kvs) : s.heap.DictOf knd d kvs := D.at H
theorem eq_mask (H : News h₀ L s.heap N) {A : Around} {a b : Addr} {i : Int} {t u : Tok} (hu : A.units + 3 < cLine) (Da : DictL (sK w) N a [(Str.ofString "mask", .int i t)]) (Db : DictL (sK w) N b [(Str.ofString "mask", .int i u)]) : EqP PW w A s (.ref a) (.ref b) :=
  EqP.of_refs fun _ E Q hq => dict_eqP Da.lo Db.lo (Da.at H) (Db.at H) (by omega) rfl ⟨⟨_, rfl, eqp_at (by have := SeqAt.EqAt.int_int (A := A.in1) (s := s) i t i u; simpa using this)⟩, trivial⟩ hq
theorem eq_cemp (H : News h₀ L s.heap N) {A : Around} {a b : Addr} {x : Str} {t u : Tok} (hu : A.units + 3 < cLine) (Da : DictL (sK w) N a [(Str.ofString "codec", .str x t)]) (Db : DictL (sK w) N b [(Str.ofString "codec", .str x u)]) : EqP PW w A s (.ref a) (.ref b) :=
  EqP.of_refs fun _ E Q hq => dict_eqP Da.lo Db.lo (Da.at H) (Db.at H) (by omega) rfl ⟨⟨_, rfl, eqp_at (by have := SeqAt.EqAt.str_str (A := A.in1) (s := s) x t x u; simpa using this)⟩, trivial⟩ hq
theorem eq_nest (H : News h₀ L s.heap N) {A : Around} {a b a2 b2 a3 b3 : Addr} {x : Str} {t u : Tok} (hu : A.units + 3 < cLine) (Da : DictL (sK w) N a [(Str.ofString "codec", .ref a2)]) (Db : DictL (sK w) N b [(Str.ofString "codec", .ref b2)])
   (Da2 : DictL (sK w) N a2 [(Str.ofString "codec", .str x t), (Str.ofString "mask", .ref a3)]) (Db2 : DictL (sK w) N b2 [(Str.ofString "codec", .str x u), (Str.ofString "mask", .ref b3)]) (Da3 : DictL (sK w) N a3 []) (Db3 : DictL (sK w) N b3 []) : EqP PW w A s (.ref a) (.ref b) :=
  EqP.of_refs fun _ E Q hq => dict_eqP Da.lo Db.lo (Da.at H) (Db.at H) (by omega) rfl ⟨⟨_, rfl,
    EqP.of_refs fun _ E Q hq => dict_eqP Da2.lo Db2.lo (Da2.at H) (Db2.at H) (by show A.units + 1 < cLine; omega) rfl ⟨⟨_, rfl, eqp_at (by have := SeqAt.EqAt.str_str (A := A.in1.in1) (s := s) x t x u; simpa using this)⟩, ⟨_, rfl,
      EqP.of_refs fun _ E Q hq => dict_eqP Da3.lo Db3.lo (Da3.at H) (Db3.at H) (by show A.units + 2 < cLine; omega) rfl trivial hq⟩, trivial⟩ hq⟩, trivial⟩ hq
mutual
theorem eq_rep (H : News h₀ L s.heap N) : ∀ {a b : Value} {D : Dd} {A : Around}, Rep w N a D → Rep w N b D → A.units + dep D < cLine → EqP PW w A s a b
  | _, _, _, A, .none, .none, _ => eqp_at (SeqAt.EqAt.same _)
  | _, _, _, A, .bool b, .bool _, _ => eqp_at (SeqAt.EqAt.same _)
  | _, _, _, A, .int i t, .int _ u, _ => eqp_at (by have := SeqAt.EqAt.int_int (A := A) (s := s) i t i u; simpa using this)
  | _, _, _, A, .str x t, .str _ u, _ => eqp_at (by have := SeqAt.EqAt.str_str (A := A) (s := s) x t x u; simpa using this)
  | _, _, _, A, .dmask D1, .dmask D2, hu => eq_mask H (by simpa [dep] using hu) D1 D2
  | _, _, _, A, .dcemp D1, .dcemp D2, hu => eq_cemp H (by simpa [dep] using hu) D1 D2
  | _, _, _, A, .dnest D1 D2 D3, .dnest E1 E2 E3, hu => eq_nest H (by simpa [dep] using hu) D1 E1 D2 E2 D3 E3
  | _, _, _, A, .list (vs := vs) m1 r1, .list (vs := ws) m2 r2, hu => EqP.of_refs fun _ E Q hq => by
      have hu' := hu
      simp only [dep] at hu'
      have z : A.in1.units = A.units + 1 := rfl
      have l1 := News.isList H m1
      have l2 := News.isList H m2
      obtain ⟨hl, he⟩ := eq_repAll H (A := A.in1) r1 r2 (by omega)
      refine list_eqP l1 l2 (by simpa using hl) (by omega) (fun j h1 h2 => ?_) hq
      have := he j (by simpa using h1) (by simpa using h2)
      simpa using this
theorem eq_repAll (H : News h₀ L s.heap N) : ∀ {vs ws : List Value} {ds : List Dd} {A : Around}, RepAll w N vs ds → RepAll w N ws ds → A.units + dep.depAll ds < cLine → vs.length = ws.length ∧ ∀ j (h1 : j < vs.length) (h2 : j < ws.length), EqP PW w A s vs[j] ws[j]
  | _, _, _, A, .nil, .nil, _ => ⟨rfl, fun j h1 _ => absurd h1 (Nat.not_lt_zero _)⟩
  | _, _, _, A, .cons r1 q1, .cons r2 q2, hu => by
      have e1 := eq_rep H (A := A) r1 r2 (by simp only [dep.depAll] at hu; omega)
      obtain ⟨hl, he⟩ := eq_repAll H (A := A) q1 q2 (by simp only [dep.depAll] at hu; omega)
      refine ⟨by simp [hl], fun j h1 h2 => ?_⟩
      cases j with
      | zero => exact e1
      | succ j => exact he j (by simpa using h1) (by simpa using h2)
end
end
end Mine
namespace Mine
local macro_rules | `(tactic| k_mem) => `(tactic| assumption)
local macro_rules | `(tactic| walk_at "compareOp In str ref") => `(tactic| (k_here; first
  | (refine c_in (k := Sum.inr _) (knd := ckKind _ _) (by k_asm) (DictL.mono (by assumption) (by kcj_all)) (ck_str _ _ _ _) (by assumption) ?_)
  | (refine c_in (b := true) (knd := strKind _ _) (by k_asm) (DictL.mono (by assumption) (by kcj_all)) (strKind_is _ _ _ _) (by rfl) ?_)
  | (refine c_in (b := false) (knd := strKind _ _) (by k_asm) (DictL.mono (by assumption) (by kcj_all)) (strKind_is _ _ _ _) (by rfl) ?_)))
local macro_rules | `(tactic| walk_at "compareOp NotIn str ref") => `(tactic| (k_here; refine c_notin (k := Sum.inr _) (knd := ckKind _ _) (by k_asm) (DictL.mono (by assumption) (by kcj_all)) (ck_str _ _ _ _) (by assumption) ?_))
local macro_rules | `(tactic| walk_at "compareOp In int ref") => `(tactic| (k_here; refine c_in (k := Sum.inl _) (knd := ckKind _ _) (by k_asm) (DictL.mono (by assumption) (by kcj_all)) (ck_int _ _ _ _) (by assumption) ?_))
local macro_rules | `(tactic| walk_at "compareOp NotIn int ref") => `(tactic| (k_here; refine c_notin (k := Sum.inl _) (knd := ckKind _ _) (by k_asm) (DictL.mono (by assumption) (by kcj_all)) (ck_int _ _ _ _) (by assumption) ?_))
local macro_rules | `(tactic| walk_at "subscriptTail") => `(tactic| (k_here; first
  | ((with_reducible show wpAny _ _ (subscriptTail _ _ (Value.ref _) (Value.int _ _)) _ _ _); (refine c_item (k := Sum.inl _) (knd := ckKind _ _) (by k_asm) (DictL.mono (by assumption) (by kcj_all)) (ck_int _ _ _ _) (by assumption) ?_))
  | ((with_reducible show wpAny _ _ (subscriptTail _ _ (Value.ref _) (Value.str _ _)) _ _ _); (refine c_item (k := Sum.inr _) (knd := ckKind _ _) (by k_asm) (DictL.mono (by assumption) (by kcj_all)) (ck_str _ _ _ _) (by assumption) ?_))
  | ((with_reducible show wpAny _ _ (subscriptTail _ _ (Value.ref _) (Value.str _ _)) _ _ _); (refine c_item (knd := strKind _ _) (by k_asm) (DictL.mono (by assumption) (by kcj_all)) (strKind_is _ _ _ _) (by rfl) ?_))))
theorem names_item' {w : World} {A : Around} {E : Value → Shared → Prop} {s : Shared} {value slice : PySem.Expr} {k : Int} {u : Tok} {Q : Value → Shared → Prop}
    (X : (hd.heap_39 w.params).In s.heap) (h0 : 0 ≤ k) (h1 : k < 7) (h : ∀ d t, d = NAMES.getD k.toNat 0 → d ∈ NAMES → Q (.int d t) s)
    (hs : subscripted slice false (.ref 183) (.int k u) = operate [.ref 183, .int k u] (getItem (.ref 183) (.int k u)) := by with_unfolding_all rfl) :
    wpAny (model PW w) A (subscriptTail value slice (.ref 183) (.int k u)) Q E s :=
  names_item X h0 h1 (fun t => h _ t rfl (by
    have hlt : k.toNat < NAMES.length := by simp only [NAMES, List.length_cons, List.length_nil]; omega
    rw [List.getD_eq_getElem?_getD, List.getElem?_eq_getElem hlt]
    exact List.getElem_mem hlt)) hs
end Mine
namespace Mine
local macro_rules | `(tactic| k_mem) => `(tactic| assumption)
local macro_rules | `(tactic| walk_at "compareOp In str ref") => `(tactic| (k_here; first
  | (refine c_in (k := Sum.inr _) (knd := ckKind _ _) (by k_asm) (DictL.mono (by assumption) (by kcj_all)) (ck_str _ _ _ _) (by assumption) ?_)
  | (refine c_in (b := true) (knd := strKind _ _) (by k_asm) (DictL.mono (by assumption) (by kcj_all)) (strKind_is _ _ _ _) (by rfl) ?_)
  | (refine c_in (b := false) (knd := strKind _ _) (by k_asm) (DictL.mono (by assumption) (by kcj_all)) (strKind_is _ _ _ _) (by rfl) ?_)))
local macro_rules | `(tactic| walk_at "compareOp NotIn str ref") => `(tactic| (k_here; refine c_notin (k := Sum.inr _) (knd := ckKind _ _) (by k_asm) (DictL.mono (by assumption) (by kcj_all)) (ck_str _ _ _ _) (by assumption) ?_))
local macro_rules | `(tactic| walk_at "compareOp In int ref") => `(tactic| (k_here; refine c_in (k := Sum.inl _) (knd := ckKind _ _) (by k_asm) (DictL.mono (by assumption) (by kcj_all)) (ck_int _ _ _ _) (by assumption) ?_))
local macro_rules | `(tactic| walk_at "compareOp NotIn int ref") => `(tactic| (k_here; refine c_notin (k := Sum.inl _) (knd := ckKind _ _) (by k_asm) (DictL.mono (by assumption) (by kcj_all)) (ck_int _ _ _ _) (by assumption) ?_))
local macro_rules | `(tactic| walk_at "subscriptTail") => `(tactic| (k_here; first
  | ((with_reducible show wpAny _ _ (subscriptTail _ _ (Value.ref _) (Value.int _ _)) _ _ _); (refine c_item (k := Sum.inl _) (knd := ckKind _ _) (by k_asm) (DictL.mono (by assumption) (by kcj_all)) (ck_int _ _ _ _) (by assumption) ?_))
  | ((with_reducible show wpAny _ _ (subscriptTail _ _ (Value.ref _) (Value.str _ _)) _ _ _); (refine c_item (k := Sum.inr _) (knd := ckKind _ _) (by k_asm) (DictL.mono (by assumption) (by kcj_all)) (ck_str _ _ _ _) (by assumption) ?_))
  | ((with_reducible show wpAny _ _ (subscriptTail _ _ (Value.ref _) (Value.str _ _)) _ _ _); (refine c_item (knd := strKind _ _) (by k_asm) (DictL.mono (by assumption) (by kcj_all)) (strKind_is _ _ _ _) (by rfl) ?_))))
theorem isDict_dictL {w : World} {c : Addr} {o : Obj} {own : Led} {kvs : List (CKey × Value)} (h : o.IsDictOf (cK w) kvs) (lo : (c == sysModules) = false) : DictL (cK w) ((c, o) :: own) c kvs := ⟨⟨o, .head _, h⟩, lo⟩
/-- _law_config, its table and what lies in it in one abstract ledger -/
theorem conf_G {w : World} {mean : ExcName → Option Value} {mg mb : Str → Option Value} {N : Led} {dp un : Nat} {gd : Option (List Code)} {cn : Str} {cs : Scope} {a : Addr} {ccd : Value} {cl : List (Str × Addr)} {outer : List Env} {A₀ : Around} {base h₀ : Heap} {L : Addr} {m : Str → Option Value} {s : Shared} {Q E : Value → Shared → Prop} {l : Addr} {vs : List Value} {n0 : Nat} {ns : List Int}
  (B : Below A₀ base outer h₀) (F : Fr h₀ L s.heap m) (X : (hd.heap_39 w.params).In h₀) (H : News h₀ L s.heap N) (T : Top hd.view_39 LO mean mg mb h₀) (hk : cs.kind = .function) (hd1 : dp ≤ 390) (hu1 : un ≤ 90)
  (hl : (l, listOf vs.toArray n0) ∈ N) (hi : IntsAre vs ns) (g6 : 6 ≤ ns.length) (g9 : ns.length ≤ 9)
  (hret : ∀ h' tk c N1 kvs, Fr h₀ L h' m → News h₀ L h' (N1 ++ N) → Off N1 N → DictL (cK w) N1 c kvs → KvsRep w N1 kvs (cfgOf ns) → Q (.ref c) { s with heap := h', toks := tk }) :
  wpAny (model PW w) (ktrTop dp un gd cn cs L a ccd cl outer) (call (.ref 211) [.ref l]) Q E s :=
  conf_spec B F X H T hk (by show dp + 5 < 1000; omega) (by show un + 40 < cLine; unfold cLine; omega) (by omega) (by omega) hd1 hu1 hl hi g6 g9 fun h' tk c own o kvs F' H' off hd' lo hr =>
    hret h' tk c ((c, o) :: own) kvs F' H' off (isDict_dictL hd' lo) (hr.mono fun p hp => .tail _ hp)
end Mine
namespace Mine
local macro_rules | `(tactic| k_mem) => `(tactic| assumption)
local macro_rules | `(tactic| walk_at "compareOp In str ref") => `(tactic| (k_here; first
  | (refine c_in (k := Sum.inr _) (knd := ckKind _ _) (by k_asm) (DictL.mono (by assumption) (by kcj_all)) (ck_str _ _ _ _) (by assumption) ?_)
  | (refine c_in (b := true) (knd := strKind _ _) (by k_asm) (DictL.mono (by assumption) (by kcj_all)) (strKind_is _ _ _ _) (by rfl) ?_)
  | (refine c_in (b := false) (knd := strKind _ _) (by k_asm) (DictL.mono (by assumption) (by kcj_all)) (strKind_is _ _ _ _) (by rfl) ?_)))
local macro_rules | `(tactic| walk_at "compareOp NotIn str ref") => `(tactic| (k_here; refine c_notin (k := Sum.inr _) (knd := ckKind _ _) (by k_asm) (DictL.mono (by assumption) (by kcj_all)) (ck_str _ _ _ _) (by assumption) ?_))
local macro_rules | `(tactic| walk_at "compareOp In int ref") => `(tactic| (k_here; refine c_in (k := Sum.inl _) (knd := ckKind _ _) (by k_asm) (DictL.mono (by assumption) (by kcj_all)) (ck_int _ _ _ _) (by assumption) ?_))
local macro_rules | `(tactic| walk_at "compareOp NotIn int ref") => `(tactic| (k_here; refine c_notin (k := Sum.inl _) (knd := ckKind _ _) (by k_asm) (DictL.mono (by assumption) (by kcj_all)) (ck_int _ _ _ _) (by assumption) ?_))
local macro_rules | `(tactic| walk_at "subscriptTail") => `(tactic| (k_here; first
  | ((with_reducible show wpAny _ _ (subscriptTail _ _ (Value.ref _) (Value.int _ _)) _ _ _); (refine c_item (k := Sum.inl _) (knd := ckKind _ _) (by k_asm) (DictL.mono (by assumption) (by kcj_all)) (ck_int _ _ _ _) (by assumption) ?_))
  | ((with_reducible show wpAny _ _ (subscriptTail _ _ (Value.ref _) (Value.str _ _)) _ _ _); (refine c_item (k := Sum.inr _) (knd := ckKind _ _) (by k_asm) (DictL.mono (by assumption) (by kcj_all)) (ck_str _ _ _ _) (by assumption) ?_))
  | ((with_reducible show wpAny _ _ (subscriptTail _ _ (Value.ref _) (Value.str _ _)) _ _ _); (refine c_item (knd := strKind _ _) (by k_asm) (DictL.mono (by assumption) (by kcj_all)) (strKind_is _ _ _ _) (by rfl) ?_))))
def lawOf : List PySem.Stmt → List PySem.Stmt × Scope
  | [] => ([], default)
  | .FunctionDef _ _ body _ _ _ scope _ _ _ :: r => match r with | [] => (body, scope) | _ => lawOf r
  | _ :: r => lawOf r
def lawB : List PySem.Stmt := (lawOf PW.main.body).1
def lawS : Scope := (lawOf PW.main.body).2
def lawF : List PySem.Stmt := match lawB.getD 7 (.Pass default) with | .For _ _ body _ _ => body | _ => []
def loopVars : List Str := [Str.ofString "k", Str.ofString "did", Str.ofString "found", Str.ofString "number", Str.ofString "twin", Str.ofString "length"]
end Mine
namespace Mine
local macro_rules | `(tactic| k_mem) => `(tactic| assumption)
local macro_rules | `(tactic| walk_at "compareOp In str ref") => `(tactic| (k_here; first
  | (refine c_in (k := Sum.inr _) (knd := ckKind _ _) (by k_asm) (DictL.mono (by assumption) (by kcj_all)) (ck_str _ _ _ _) (by assumption) ?_)
  | (refine c_in (b := true) (knd := strKind _ _) (by k_asm) (DictL.mono (by assumption) (by kcj_all)) (strKind_is _ _ _ _) (by rfl) ?_)
  | (refine c_in (b := false) (knd := strKind _ _) (by k_asm) (DictL.mono (by assumption) (by kcj_all)) (strKind_is _ _ _ _) (by rfl) ?_)))
local macro_rules | `(tactic| walk_at "compareOp NotIn str ref") => `(tactic| (k_here; refine c_notin (k := Sum.inr _) (knd := ckKind _ _) (by k_asm) (DictL.mono (by assumption) (by kcj_all)) (ck_str _ _ _ _) (by assumption) ?_))
local macro_rules | `(tactic| walk_at "compareOp In int ref") => `(tactic| (k_here; refine c_in (k := Sum.inl _) (knd := ckKind _ _) (by k_asm) (DictL.mono (by assumption) (by kcj_all)) (ck_int _ _ _ _) (by assumption) ?_))
local macro_rules | `(tactic| walk_at "compareOp NotIn int ref") => `(tactic| (k_here; refine c_notin (k := Sum.inl _) (knd := ckKind _ _) (by k_asm) (DictL.mono (by assumption) (by kcj_all)) (ck_int _ _ _ _) (by assumption) ?_))
local macro_rules | `(tactic| walk_at "subscriptTail") => `(tactic| (k_here; first
  | ((with_reducible show wpAny _ _ (subscriptTail _ _ (Value.ref _) (Value.int _ _)) _ _ _); (refine c_item (k := Sum.inl _) (knd := ckKind _ _) (by k_asm) (DictL.mono (by assumption) (by kcj_all)) (ck_int _ _ _ _) (by assumption) ?_))
  | ((with_reducible show wpAny _ _ (subscriptTail _ _ (Value.ref _) (Value.str _ _)) _ _ _); (refine c_item (k := Sum.inr _) (knd := ckKind _ _) (by k_asm) (DictL.mono (by assumption) (by kcj_all)) (ck_str _ _ _ _) (by assumption) ?_))
  | ((with_reducible show wpAny _ _ (subscriptTail _ _ (Value.ref _) (Value.str _ _)) _ _ _); (refine c_item (knd := strKind _ _) (by k_asm) (DictL.mono (by assumption) (by kcj_all)) (strKind_is _ _ _ _) (by rfl) ?_))))
structure Stop (P : Prop) : Prop where
  out : P
def Scal : Dd → Prop
  | .none => True
  | .bool _ => True
  | .int _ => True
  | .str _ => True
  | _ => False
theorem rep_scal {w : World} {N : Led} {v : Value} {d : Dd} (h : Rep w N v d) (hs : Scal d) : Rep w [] v d := by
  cases h with
  | none => exact .none
  | bool b => exact .bool b
  | int i t => exact .int i t
  | str x t => exact .str x t
  | list _ _ => exact hs.elim
  | dmask _ => exact hs.elim
  | dcemp _ => exact hs.elim
  | dnest _ _ _ => exact hs.elim
theorem repAll_scal {w : World} {N : Led} : ∀ {vs : List Value} {ds : List Dd}, RepAll w N vs ds → (∀ d ∈ ds, Scal d) → RepAll w [] vs ds
  | [], [], _, _ => .nil
  | _ :: _, _ :: _, .cons h r, hs => .cons (rep_scal h (hs _ (.head _))) (repAll_scal r fun d hd => hs d (.tail _ hd))
theorem RepAll.up {w : World} {N : Led} {vs : List Value} {ds : List Dd} (h : RepAll w [] vs ds) : RepAll w N vs ds := RepAll.mono (fun p hp => absurd hp List.not_mem_nil) h
abbrev Flat (w : World) (h₀ : Heap) (L : Addr) (m : Str → Option Value) (N : Led) (s : Shared) (Q : Value → Shared → Prop) (ds : List Dd) : Prop :=
  ∀ h' tk l vs n, Fr h₀ L h' m → News h₀ L h' ((l, listOf vs.toArray n) :: N) → RepAll w [] vs ds → Q (.ref l) { s with heap := h', toks := tk }
theorem kept_flat {w : World} {h₀ : Heap} {L : Addr} {m : Str → Option Value} {N : Led} {s : Shared} {Q : Value → Shared → Prop} {ds : List Dd} (h : Flat w h₀ L m N s Q ds) (hs : ∀ d ∈ ds, Scal d) :
    Kept h₀ L m N s Q fun N' l => Rep w N' (.ref l) (.list ds) := by
  intro h' tk l own F H R
  cases R with
  | @list _ vs n _ hm hr =>
    refine h h' tk l vs n F (fun p hp => ?_) (repAll_scal hr hs)
    rcases List.mem_cons.mp hp with e | hp
    · rw [e]; exact H _ hm
    · exact H _ (List.mem_append_right _ hp)
def wantL (kvs : List (CKey × Value)) (ds : List Int) : List Dd := match ds.find? (fun d => !hasK kvs d) with
  | none => [.str (Str.ofString "taken"), .bool true]
  | some d => [.str (Str.ofString "refused"), .int d]
theorem wantK_L (kvs : List (CKey × Value)) (ds : List Int) : wantK kvs ds = .list (wantL kvs ds) := by unfold wantK wantL; cases ds.find? (fun d => !hasK kvs d) <;> rfl
theorem wantL_scal (kvs : List (CKey × Value)) (ds : List Int) : ∀ d ∈ wantL kvs ds, Scal d := by
  unfold wantL
  intro d hd
  split at hd <;> (rcases List.mem_cons.mp hd with e | hd; (rw [e]; trivial); (rcases List.mem_cons.mp hd with e | hd; (rw [e]; trivial); exact nomatch hd))
theorem wantL_str (kvs : List (CKey × Value)) (ds : List Int) : ∃ x r, wantL kvs ds = .str x :: r := by
  unfold wantL; split <;> exact ⟨_, _, rfl⟩
/-- a flat answer is no list whose first item is an object -/
theorem flat_ne {w : World} {h₀ h : Heap} {L : Addr} {M : Led} {l tl : Addr} {vs tv : List Value} {n n2 : Nat} {ds : List Dd} (H : News h₀ L h M) (h1 : (l, listOf vs.toArray n) ∈ M) (hr : RepAll w [] vs ds) (hd : ∃ x r, ds = .str x :: r)
    (h2 : (tl, listOf tv.toArray n2) ∈ M) (ht : ∃ z r, tv = Value.ref z :: r) : @Ne Nat l tl := by
  intro e
  obtain ⟨z, r, rfl⟩ := ht
  have e1 := (H _ h1).1
  have e2 := (H _ h2).1
  have e' : l = tl := e
  rw [e'] at e1
  have := Option.some.inj (e1.symm.trans e2)
  have hv : vs = Value.ref z :: r := by have := congrArg Obj.data this; simp at this; exact this.1
  obtain ⟨x, r', rfl⟩ := hd
  subst hv
  cases hr with
  | cons a _ => cases a
def BoxIs (w : World) (N : Led) (bx : Value) (c : Addr) (kvs : List (CKey × Value)) : Prop :=
  (bx = .ref c ∧ (valueAt kvs (.inr (Str.ofString "data_identifiers"))).isSome = false) ∨ ∃ b, bx = .ref b ∧ DictL (sK w) N b [(Str.ofString "data_identifiers", .ref c)]
theorem BoxIs.mono {w : World} {N N' : Led} {bx : Value} {c : Addr} {kvs : List (CKey × Value)} (h : BoxIs w N bx c kvs) (hs : ∀ p ∈ N, p ∈ N') : BoxIs w N' bx c kvs :=
  h.imp id fun ⟨b, e, d⟩ => ⟨b, e, d.mono hs⟩
theorem chk_int_L {c : Addr} {d₀ : Int} {t₀ : Tok} {bx : Value} {kvs : List (CKey × Value)} {w : World} {mean : ExcName → Option Value} {mg mb : Str → Option Value} {N : Led}
  {un : Nat} {gd : Option (List Code)} {cn : Str} {cs : Scope} {a : Addr} {ccd : Value} {cl : List (Str × Addr)} {A₀ : Around} {base h₀ : Heap} {L : Addr} {m : Str → Option Value} {s : Shared} {Q E : Value → Shared → Prop}
  (B : Below A₀ base [] h₀) (F : Fr h₀ L s.heap m) (X : (hd.heap_39 w.params).In h₀) (H : News h₀ L s.heap N) (T : Top hd.view_39 LO mean mg mb h₀) (hk : cs.kind = .function) (XB : (hd.heap_39 w.params).In base) (TB : Top hd.view_39 LO mean mg mb base) (hun : un ≤ 100)
  (hd₀ : d₀ ∈ NAMES) (C : DictL (cK w) N c kvs) (hbx : BoxIs w N bx c kvs) (hret : Flat w h₀ L m N s Q (wantL kvs [d₀])) :
  wpAny (model PW w) (ktrTop 302 un gd cn cs L a ccd cl []) (call (.ref 225) [.int d₀ t₀, bx, .ref c]) Q E s := by
  have k := kept_flat hret (wantL_scal _ _)
  rw [← wantK_L] at k
  rcases hbx with ⟨rfl, h⟩ | ⟨b, rfl, Bx⟩
  · exact chk_int B F X H T hk XB TB hun hd₀ C h k
  · exact chk_int_box B F X H T hk XB TB hun hd₀ C Bx k
theorem chk_list_L {c l : Addr} {vs : List Value} {n0 : Nat} {ds : List Int} {bx : Value} {kvs : List (CKey × Value)} {w : World} {mean : ExcName → Option Value} {mg mb : Str → Option Value} {N : Led}
  {un : Nat} {gd : Option (List Code)} {cn : Str} {cs : Scope} {a : Addr} {ccd : Value} {cl : List (Str × Addr)} {A₀ : Around} {base h₀ : Heap} {L : Addr} {m : Str → Option Value} {s : Shared} {Q E : Value → Shared → Prop}
  (B : Below A₀ base [] h₀) (F : Fr h₀ L s.heap m) (X : (hd.heap_39 w.params).In h₀) (H : News h₀ L s.heap N) (T : Top hd.view_39 LO mean mg mb h₀) (hk : cs.kind = .function) (XB : (hd.heap_39 w.params).In base) (TB : Top hd.view_39 LO mean mg mb base) (hun : un ≤ 100)
  (hl : (l, listOf vs.toArray n0) ∈ N) (hi : IntsAre vs ds) (hds : ∀ d ∈ ds, d ∈ NAMES) (C : DictL (cK w) N c kvs) (hbx : BoxIs w N bx c kvs) (hret : Flat w h₀ L m N s Q (wantL kvs ds)) :
  wpAny (model PW w) (ktrTop 302 un gd cn cs L a ccd cl []) (call (.ref 225) [.ref l, bx, .ref c]) Q E s := by
  have k := kept_flat hret (wantL_scal _ _)
  rw [← wantK_L] at k
  rcases hbx with ⟨rfl, h⟩ | ⟨b, rfl, Bx⟩
  · exact chk_list B F X H T hk XB TB hun hl hi hds C h k
  · exact chk_list_box B F X H T hk XB TB hun hl hi hds C Bx k
theorem chk_none_L {c : Addr} {d : Int} {t : Tok} {w : World} {mean : ExcName → Option Value} {mg mb : Str → Option Value} {N : Led}
  {un : Nat} {gd : Option (List Code)} {cn : Str} {cs : Scope} {a : Addr} {ccd : Value} {cl : List (Str × Addr)} {A₀ : Around} {base h₀ : Heap} {L : Addr} {m : Str → Option Value} {s : Shared} {Q E : Value → Shared → Prop}
  (B : Below A₀ base [] h₀) (F : Fr h₀ L s.heap m) (X : (hd.heap_39 w.params).In h₀) (H : News h₀ L s.heap N) (T : Top hd.view_39 LO mean mg mb h₀) (hk : cs.kind = .function) (XB : (hd.heap_39 w.params).In base) (TB : Top hd.view_39 LO mean mg mb base) (hun : un ≤ 100)
  (hret : ∀ h' tk l x tx ty, Fr h₀ L h' m → News h₀ L h' ((l, listOf #[.str (Str.ofString "refused") tx, .str x ty] 0) :: N) → Q (.ref l) { s with heap := h', toks := tk }) :
  wpAny (model PW w) (ktrTop 302 un gd cn cs L a ccd cl []) (call (.ref 225) [.int d t, .none, .ref c]) Q E s := by
  refine chk_none B F X H T hk XB TB hun ?_
  rintro h' tk l own F' H' ⟨x, tx, ty, hm⟩
  refine hret h' tk l x tx ty F' fun p hp => ?_
  rcases List.mem_cons.mp hp with e | hp
  · rw [e]; exact H' _ hm
  · exact H' _ (List.mem_append_right _ hp)
theorem want_L {c l : Addr} {vs : List Value} {n0 : Nat} {ds : List Int} {kvs : List (CKey × Value)} {w : World} {mean : ExcName → Option Value} {mg mb : Str → Option Value} {N : Led}
  {dp un : Nat} {gd : Option (List Code)} {cn : Str} {cs : Scope} {a : Addr} {ccd : Value} {cl : List (Str × Addr)} {outer : List Env} {A₀ : Around} {base h₀ : Heap} {L : Addr} {m : Str → Option Value} {s : Shared} {Q E : Value → Shared → Prop}
  (B : Below A₀ base outer h₀) (F : Fr h₀ L s.heap m) (X : (hd.heap_39 w.params).In h₀) (H : News h₀ L s.heap N) (T : Top hd.view_39 LO mean mg mb h₀) (hk : cs.kind = .function)
  (hdp : dp + 5 < recursionLimit) (hun : un + 40 < cLine) (hdq : dp ≤ 400) (hunq : un ≤ 100)
  (hl : (l, listOf vs.toArray n0) ∈ N) (hi : IntsAre vs ds) (C : DictL (cK w) N c kvs) (hret : Flat w h₀ L m N s Q (wantL kvs ds)) :
  wpAny (model PW w) (ktrTop dp un gd cn cs L a ccd cl outer) (call (.ref 218) [.ref l, .ref c]) Q E s := by
  have k := kept_flat hret (wantL_scal _ _)
  rw [← wantK_L] at k
  exact want_spec B F X H T hk hdp hun hdq hunq hl hi C k
theorem comp_src_copy {prog : Program} {w : World} {A : Around} {h₀ : Heap} {L : Addr} {m : Str → Option Value} {env : Env} {x : Str} {pe : Pos} {scope : Scope} {cl : List (Str × Addr)} {s₁ : Shared} {ax : Addr} {vr : List Value} {k : Nat} {ds : List Int} {news : Led} {Q : Value → Shared → Prop}
    (hh : A.handled = none) (F : Fr h₀ L s₁.heap m) (N : News h₀ L s₁.heap news) (hm : (ax, listOf vr.toArray k) ∈ news) (hi : IntsAre vr ds) (hsz : ds.length ≤ 9) (hk : scope.kind = .function) (hx : scope.names.lookup x = some .local) (hd : (x == ("__debug__" : Str)) = false)
    (fin : ∀ D' h tk ys, Fr h₀ L h m → News h₀ L h ((D', listOf ys.toArray ys.length) :: news) → LCg.Off1 D' news → IntsAre ys ds → Q (.ref D') { s₁ with heap := h, toks := tk }) :
    LCg.CompSrc prog w A h₀ L m env (.Name x pe) x scope cl (fun s₂ => LCg.FinE h₀ L m s₂ Q) (.ref ax) s₁ := by
  refine LCg.CompSrc.ledger hh F N hm (by rw [List.size_toArray, hi.length, sizeLine_eq]; omega) fun g => ?_
  refine kcf_list (fun k => k) hi (fun k' t' I' oI' C' oC' D' m' ys' h' tk' E' hk' hC' hx' F' N' off' ne' hM => ?_) ?_
  · have hns : h'.Ns C' m' := hC'.ns (N' _ (.tail _ (.head _))).1
    refine wpAny_Name (wpAny_loadName_local (by simp [compEnvC, relabel, hk]) (lookup_relabel_local hx) hns hx' ?_) hd
    exact LCg.CompEnd.intro F' N' news (fun p hp => hp) off' (.inr ⟨_, hm, rfl, _, rfl⟩) ⟨rfl, _, rfl⟩
  · intro ys hys D' h tk F' N' o1
    rw [List.map_id'] at hys
    exact fin D' h tk ys F' N' o1 hys
theorem ints_id {vs : List Value} {ds : List Int} (h : IntsAre vs (ds.map fun k => k)) : IntsAre vs ds := by rw [List.map_id'] at h; exact h
theorem obtain_led {w : World} {h₀ h : Heap} {L l : Addr} {vs : List Value} {n : Nat} {M : Led} {ds : List Dd} (H : News h₀ L h ((l, listOf vs.toArray n) :: M)) (R : RepAll w [] vs ds) :
    ∃ ov : List Value, News h₀ L h ((l, listOf ov.toArray n) :: M) ∧ Stop (RepAll w [] ov ds) := ⟨vs, H, ⟨R⟩⟩
theorem dict_drop {w : World} {K : Type} [DecidableEq K] {knd : KeyKind PW w K} {M M' : Led} {d : Addr} {kvs : List (K × Value)} (hM : ∀ p ∈ M, p ∈ M' ∨ ∃ fs, p.2.data = .fields fs) (h : DictL knd M d kvs) : DictL knd M' d kvs := by
  obtain ⟨⟨o, hm, hd⟩, lo⟩ := h
  rcases hM _ hm with q | ⟨fs, q⟩
  · exact ⟨⟨o, q, hd⟩, lo⟩
  · obtain ⟨es, ep, e, e2, _⟩ := hd
    first
      | (rw [e] at q; cases q)
      | (rw [e2] at q; cases q)
mutual
theorem rep_drop {w : World} {M M' : Led} (hM : ∀ p ∈ M, p ∈ M' ∨ ∃ fs, p.2.data = .fields fs) : ∀ {v : Value} {d : Dd}, Rep w M v d → Rep w M' v d
  | _, _, .none => .none
  | _, _, .bool b => .bool b
  | _, _, .int i t => .int i t
  | _, _, .str x t => .str x t
  | _, _, .list hm hr => .list ((hM _ hm).elim id fun ⟨fs, q⟩ => by cases q) (repAll_drop hM hr)
  | _, _, .dmask h => .dmask (dict_drop hM h)
  | _, _, .dcemp h => .dcemp (dict_drop hM h)
  | _, _, .dnest h1 h2 h3 => .dnest (dict_drop hM h1) (dict_drop hM h2) (dict_drop hM h3)
theorem repAll_drop {w : World} {M M' : Led} (hM : ∀ p ∈ M, p ∈ M' ∨ ∃ fs, p.2.data = .fields fs) : ∀ {vs : List Value} {ds : List Dd}, RepAll w M vs ds → RepAll w M' vs ds
  | _, _, .nil => .nil
  | _, _, .cons h r => .cons (rep_drop hM h) (repAll_drop hM r)
end
theorem RepAll.snoc {w : World} {N : Led} {v : Value} {d : Dd} : ∀ {vs : List Value} {ds : List Dd}, RepAll w N vs ds → Rep w N v d → RepAll w N (vs ++ [v]) (ds ++ [d])
  | _, _, .nil, r => .cons r .nil
  | _, _, .cons h q, r => .cons h (RepAll.snoc q r)
end Mine
namespace Mine
local macro_rules | `(tactic| k_mem) => `(tactic| assumption)
local macro_rules | `(tactic| walk_at "compareOp In str ref") => `(tactic| (k_here; first
  | (refine c_in (k := Sum.inr _) (knd := ckKind _ _) (by k_asm) (DictL.mono (by assumption) (by kcj_all)) (ck_str _ _ _ _) (by assumption) ?_)
  | (refine c_in (b := true) (knd := strKind _ _) (by k_asm) (DictL.mono (by assumption) (by kcj_all)) (strKind_is _ _ _ _) (by rfl) ?_)
  | (refine c_in (b := false) (knd := strKind _ _) (by k_asm) (DictL.mono (by assumption) (by kcj_all)) (strKind_is _ _ _ _) (by rfl) ?_)))
local macro_rules | `(tactic| walk_at "compareOp NotIn str ref") => `(tactic| (k_here; refine c_notin (k := Sum.inr _) (knd := ckKind _ _) (by k_asm) (DictL.mono (by assumption) (by kcj_all)) (ck_str _ _ _ _) (by assumption) ?_))
local macro_rules | `(tactic| walk_at "compareOp In int ref") => `(tactic| (k_here; refine c_in (k := Sum.inl _) (knd := ckKind _ _) (by k_asm) (DictL.mono (by assumption) (by kcj_all)) (ck_int _ _ _ _) (by assumption) ?_))
local macro_rules | `(tactic| walk_at "compareOp NotIn int ref") => `(tactic| (k_here; refine c_notin (k := Sum.inl _) (knd := ckKind _ _) (by k_asm) (DictL.mono (by assumption) (by kcj_all)) (ck_int _ _ _ _) (by assumption) ?_))
local macro_rules | `(tactic| walk_at "subscriptTail") => `(tactic| (k_here; first
  | ((with_reducible show wpAny _ _ (subscriptTail _ _ (Value.ref _) (Value.int _ _)) _ _ _); (refine c_item (k := Sum.inl _) (knd := ckKind _ _) (by k_asm) (DictL.mono (by assumption) (by kcj_all)) (ck_int _ _ _ _) (by assumption) ?_))
  | ((with_reducible show wpAny _ _ (subscriptTail _ _ (Value.ref _) (Value.str _ _)) _ _ _); (refine c_item (k := Sum.inr _) (knd := ckKind _ _) (by k_asm) (DictL.mono (by assumption) (by kcj_all)) (ck_str _ _ _ _) (by assumption) ?_))
  | ((with_reducible show wpAny _ _ (subscriptTail _ _ (Value.ref _) (Value.str _ _)) _ _ _); (refine c_item (knd := strKind _ _) (by k_asm) (DictL.mono (by assumption) (by kcj_all)) (strKind_is _ _ _ _) (by rfl) ?_))))
def madeL (n : Int) : List Dd := match lenD n with
  | none => [.str (Str.ofString "no codec")]
  | some l => [.str (Str.ofString "codec"), .int l, .bool (decide (9 < kd n)), formD n]
theorem madeD_L (n : Int) : madeD n = .list (madeL n) := by unfold madeD madeL; cases lenD n <;> rfl
theorem formD_scal (n : Int) : Scal (formD n) := by unfold formD; split; trivial; split <;> trivial
theorem madeL_scal (n : Int) : ∀ d ∈ madeL n, Scal d := by
  unfold madeL
  intro d hd
  cases h : lenD n with
  | none =>
    rw [h] at hd
    rcases List.mem_cons.mp hd with e | hd
    · rw [e]; trivial
    · exact nomatch hd
  | some l =>
    rw [h] at hd
    rcases List.mem_cons.mp hd with e | hd
    · rw [e]; trivial
    rcases List.mem_cons.mp hd with e | hd
    · rw [e]; trivial
    rcases List.mem_cons.mp hd with e | hd
    · rw [e]; trivial
    rcases List.mem_cons.mp hd with e | hd
    · rw [e]; exact formD_scal n
    · exact nomatch hd
theorem madeL_str (n : Int) : ∃ x r, madeL n = .str x :: r := by unfold madeL; cases lenD n <;> exact ⟨_, _, rfl⟩
theorem kept_one {h₀ : Heap} {L : Addr} {m : Str → Option Value} {N : Led} {s : Shared} {Q : Value → Shared → Prop} {v : Value}
    (h : ∀ h' tk l, Fr h₀ L h' m → News h₀ L h' ((l, listOf #[v] 0) :: N) → Q (.ref l) { s with heap := h', toks := tk }) :
    Kept h₀ L m N s Q fun N' l => (l, listOf #[v] 0) ∈ N' := by
  intro h' tk l own F H hm
  refine h h' tk l F fun p hp => ?_
  rcases List.mem_cons.mp hp with e | hp
  · rw [e]; exact H _ hm
  · exact H _ (List.mem_append_right _ hp)
theorem found_no_L {c : Addr} {kvs : List (CKey × Value)} {d : Int} {t : Tok} {w : World} {mean : ExcName → Option Value} {mg mb : Str → Option Value} {N : Led}
  {un : Nat} {gd : Option (List Code)} {cn : Str} {cs : Scope} {a : Addr} {ccd : Value} {cl : List (Str × Addr)} {A₀ : Around} {base h₀ : Heap} {L : Addr} {m : Str → Option Value} {s : Shared} {Q E : Value → Shared → Prop}
  (B : Below A₀ base [] h₀) (F : Fr h₀ L s.heap m) (X : (hd.heap_39 w.params).In h₀) (H : News h₀ L s.heap N) (T : Top hd.view_39 LO mean mg mb h₀) (hk : cs.kind = .function) (XB : (hd.heap_39 w.params).In base) (TB : Top hd.view_39 LO mean mg mb base) (hun : un ≤ 100)
  (C : DictL (cK w) N c kvs) (hb : (valueAt kvs (.inl d)).isSome = false) (hd7 : d ∈ NAMES) (hb2 : (valueAt kvs kDef).isSome = false)
  (hret : Flat w h₀ L m N s Q [.str (Str.ofString "refused"), .int d]) :
  wpAny (model PW w) (ktrTop 302 un gd cn cs L a ccd cl []) (call (.ref 232) [.int d t, .ref c]) Q E s :=
  found_no B F X H T hk XB TB hun C hb hd7 hb2 (kept_flat hret fun d hd => by
    rcases List.mem_cons.mp hd with e | hd
    · rw [e]; trivial
    rcases List.mem_cons.mp hd with e | hd
    · rw [e]; trivial
    · exact nomatch hd)
theorem found_no_X {c : Addr} {kvs : List (CKey × Value)} {d : Int} {t : Tok} {w : World} {mean : ExcName → Option Value} {mg mb : Str → Option Value} {N : Led}
  {un : Nat} {gd : Option (List Code)} {cn : Str} {cs : Scope} {a : Addr} {ccd : Value} {cl : List (Str × Addr)} {A₀ : Around} {base h₀ : Heap} {L : Addr} {m : Str → Option Value} {s : Shared} {Q E : Value → Shared → Prop}
  (B : Below A₀ base [] h₀) (F : Fr h₀ L s.heap m) (X : (hd.heap_39 w.params).In h₀) (H : News h₀ L s.heap N) (T : Top hd.view_39 LO mean mg mb h₀) (hk : cs.kind = .function) (XB : (hd.heap_39 w.params).In base) (TB : Top hd.view_39 LO mean mg mb base) (hun : un ≤ 100)
  (C : DictL (cK w) N c kvs) (hb : (valueAt kvs (.inl d)).isSome = false) (hd7 : d ∈ NAMES) (hb2 : (valueAt kvs kDef).isSome = false)
  (hret : ∀ h' tk l n t1 t2, Fr h₀ L h' m → News h₀ L h' ((l, listOf #[.str (Str.ofString "refused") t1, .int d t2] n) :: N) → Q (.ref l) { s with heap := h', toks := tk }) :
  wpAny (model PW w) (ktrTop 302 un gd cn cs L a ccd cl []) (call (.ref 232) [.int d t, .ref c]) Q E s := by
  refine found_no_L B F X H T hk XB TB hun C hb hd7 hb2 fun h' tk l vs n F' H' R => ?_
  cases R with
  | cons r1 r =>
    cases r with
    | cons r2 r =>
      cases r
      cases r1
      cases r2
      exact hret h' tk l n _ _ F' H'
theorem found_no_E {c : Addr} {d : Int} {t : Tok} {w : World} {mean : ExcName → Option Value} {mg mb : Str → Option Value} {N : Led}
  {un : Nat} {gd : Option (List Code)} {cn : Str} {cs : Scope} {a : Addr} {ccd : Value} {cl : List (Str × Addr)} {A₀ : Around} {base h₀ : Heap} {L : Addr} {m : Str → Option Value} {s : Shared} {Q E : Value → Shared → Prop}
  (B : Below A₀ base [] h₀) (F : Fr h₀ L s.heap m) (X : (hd.heap_39 w.params).In h₀) (H : News h₀ L s.heap N) (T : Top hd.view_39 LO mean mg mb h₀) (hk : cs.kind = .function) (XB : (hd.heap_39 w.params).In base) (TB : Top hd.view_39 LO mean mg mb base) (hun : un ≤ 100)
  (C : DictL (sK w) N c []) (hd7 : d ∈ NAMES)
  (hret : ∀ h' tk l n t1 t2, Fr h₀ L h' m → News h₀ L h' ((l, listOf #[.str (Str.ofString "refused") t1, .int d t2] n) :: N) → Q (.ref l) { s with heap := h', toks := tk }) :
  wpAny (model PW w) (ktrTop 302 un gd cn cs L a ccd cl []) (call (.ref 232) [.int d t, .ref c]) Q E s :=
  found_no_X (kvs := []) B F X H T hk XB TB hun ⟨let ⟨o, a, b⟩ := C.ex; ⟨o, a, isDict_nil b⟩, C.lo⟩ rfl hd7 rfl hret
theorem found_in_L {c : Addr} {kvs : List (CKey × Value)} {d : Int} {t : Tok} {v : Value} {w : World} {mean : ExcName → Option Value} {mg mb : Str → Option Value} {N : Led}
  {un : Nat} {gd : Option (List Code)} {cn : Str} {cs : Scope} {a : Addr} {ccd : Value} {cl : List (Str × Addr)} {A₀ : Around} {base h₀ : Heap} {L : Addr} {m : Str → Option Value} {s : Shared} {Q E : Value → Shared → Prop}
  (B : Below A₀ base [] h₀) (F : Fr h₀ L s.heap m) (X : (hd.heap_39 w.params).In h₀) (H : News h₀ L s.heap N) (T : Top hd.view_39 LO mean mg mb h₀) (hk : cs.kind = .function) (XB : (hd.heap_39 w.params).In base) (TB : Top hd.view_39 LO mean mg mb base) (hun : un ≤ 100)
  (C : DictL (cK w) N c kvs) (hv : valueAt kvs (.inl d) = some v)
  (hret : ∀ h' tk l, Fr h₀ L h' m → News h₀ L h' ((l, listOf #[v] 0) :: N) → Q (.ref l) { s with heap := h', toks := tk }) :
  wpAny (model PW w) (ktrTop 302 un gd cn cs L a ccd cl []) (call (.ref 232) [.int d t, .ref c]) Q E s :=
  found_in B F X H T hk XB TB hun C hv (by rw [hv]; rfl) (kept_one hret)
theorem found_def_L {c : Addr} {kvs : List (CKey × Value)} {d : Int} {t : Tok} {v : Value} {w : World} {mean : ExcName → Option Value} {mg mb : Str → Option Value} {N : Led}
  {un : Nat} {gd : Option (List Code)} {cn : Str} {cs : Scope} {a : Addr} {ccd : Value} {cl : List (Str × Addr)} {A₀ : Around} {base h₀ : Heap} {L : Addr} {m : Str → Option Value} {s : Shared} {Q E : Value → Shared → Prop}
  (B : Below A₀ base [] h₀) (F : Fr h₀ L s.heap m) (X : (hd.heap_39 w.params).In h₀) (H : News h₀ L s.heap N) (T : Top hd.view_39 LO mean mg mb h₀) (hk : cs.kind = .function) (XB : (hd.heap_39 w.params).In base) (TB : Top hd.view_39 LO mean mg mb base) (hun : un ≤ 100)
  (C : DictL (cK w) N c kvs) (hb : (valueAt kvs (.inl d)).isSome = false) (hv : valueAt kvs kDef = some v)
  (hret : ∀ h' tk l, Fr h₀ L h' m → News h₀ L h' ((l, listOf #[v] 0) :: N) → Q (.ref l) { s with heap := h', toks := tk }) :
  wpAny (model PW w) (ktrTop 302 un gd cn cs L a ccd cl []) (call (.ref 232) [.int d t, .ref c]) Q E s :=
  found_def B F X H T hk XB TB hun C hb hv (by rw [hv]; rfl) (kept_one hret)
theorem made_L {v : Value} {n : Int} {w : World} {mean : ExcName → Option Value} {mg mb : Str → Option Value} {N : Led}
  {un : Nat} {gd : Option (List Code)} {cn : Str} {cs : Scope} {a : Addr} {ccd : Value} {cl : List (Str × Addr)} {A₀ : Around} {base h₀ : Heap} {L : Addr} {m : Str → Option Value} {s : Shared} {Q E : Value → Shared → Prop}
  (B : Below A₀ base [] h₀) (F : Fr h₀ L s.heap m) (X : (hd.heap_39 w.params).In h₀) (H : News h₀ L s.heap N) (T : Top hd.view_39 LO mean mg mb h₀) (hk : cs.kind = .function) (XB : (hd.heap_39 w.params).In base) (TB : Top hd.view_39 LO mean mg mb base) (hun : un ≤ 100) (R : RepN w N v n) (hret : Flat w h₀ L m N s Q (madeL n)) :
  wpAny (model PW w) (ktrTop 302 un gd cn cs L a ccd cl []) (call (.ref 239) [v]) Q E s := by
  have k := kept_flat hret (madeL_scal n)
  rw [← madeD_L] at k
  exact made_spec B F X H T hk XB TB hun R k
theorem plain_L {v : Value} {n : Int} {N0 : Led} {w : World} {mean : ExcName → Option Value} {mg mb : Str → Option Value} {N : Led}
  {dp un : Nat} {gd : Option (List Code)} {cn : Str} {cs : Scope} {a : Addr} {ccd : Value} {cl : List (Str × Addr)} {outer : List Env} {A₀ : Around} {base h₀ : Heap} {L : Addr} {m : Str → Option Value} {s : Shared} {Q E : Value → Shared → Prop}
  (B : Below A₀ base outer h₀) (F : Fr h₀ L s.heap m) (X : (hd.heap_39 w.params).In h₀) (H : News h₀ L s.heap N) (T : Top hd.view_39 LO mean mg mb h₀) (hk : cs.kind = .function)
  (hdp : dp + 5 < recursionLimit) (hun : un + 40 < cLine) (hdq : dp ≤ 400) (hunq : un ≤ 100) (R : RepN w N0 v n) (hs : ∀ p ∈ N0, p ∈ N)
  (hret : ∀ h' tk pv, Fr h₀ L h' m → News h₀ L h' N → Rep w N0 pv (plainD n) → Q pv { s with heap := h', toks := tk }) :
  wpAny (model PW w) (ktrTop dp un gd cn cs L a ccd cl outer) (call (.ref 246) [v]) Q E s := by
  cases R with
  | fmt x t hk5 hx => exact plain_str B F X H T hk hdp hun hdq hunq fun h' tk F' H' => hret h' tk _ F' H' (by rw [show plainD n = .str x by simp [plainD, hk5, hx]]; exact .str _ _)
  | emp t e => exact plain_str B F X H T hk hdp hun hdq hunq fun h' tk F' H' => hret h' tk _ F' H' (by rw [show plainD n = .str (Str.ofString "") by simp [plainD, e]]; exact .str _ _)
  | num t e hi => exact plain_int B F X H T hk hdp hun hdq hunq fun h' tk F' H' => hret h' tk _ F' H' (by rw [show plainD n = .int (rs n) by simp [plainD, e], hi]; exact .int _ _)
  | mask e hi r => cases r with | dmask D => exact plain_dict B F X H T hk hdp hun hdq hunq (D.mono hs) fun h' tk F' H' => hret h' tk _ F' H' (by rw [show plainD n = .dmask (rs n) by simp [plainD, e], ← hi]; exact .dmask D)
  | cemp e r => cases r with | dcemp D => exact plain_dict B F X H T hk hdp hun hdq hunq (D.mono hs) fun h' tk F' H' => hret h' tk _ F' H' (by rw [show plainD n = .dcemp by simp [plainD, e]]; exact .dcemp D)
  | nest e r => cases r with | dnest D D2 D3 => exact plain_dict B F X H T hk hdp hun hdq hunq (D.mono hs) fun h' tk F' H' => hret h' tk _ F' H' (by rw [show plainD n = .dnest by simp [plainD, e]]; exact .dnest D D2 D3)
  | quad e h1 h2 => exact plain_quad B F X H T hk hdp hun hdq hunq (hs _ h1) (hs _ h2) fun h' tk u F' H' => hret h' tk _ F' H' (by rw [show plainD n = .str (Str.ofString "a codec") by simp [plainD, e]]; exact .str _ _)
  | asc e hi h1 h2 => exact plain_asc B F X H T hk hdp hun hdq hunq (hs _ h1) (hs _ h2) fun h' tk u F' H' => hret h' tk _ F' H' (by rw [show plainD n = .str (Str.ofString "a codec") by simp [plainD, e]]; exact .str _ _)
theorem len_L {n : Int} {t : Tok} {w : World} {mean : ExcName → Option Value} {mg mb : Str → Option Value} {N : Led}
  {dp un : Nat} {gd : Option (List Code)} {cn : Str} {cs : Scope} {a : Addr} {ccd : Value} {cl : List (Str × Addr)} {outer : List Env} {A₀ : Around} {base h₀ : Heap} {L : Addr} {m : Str → Option Value} {s : Shared} {Q E : Value → Shared → Prop}
  (B : Below A₀ base outer h₀) (F : Fr h₀ L s.heap m) (X : (hd.heap_39 w.params).In h₀) (H : News h₀ L s.heap N) (T : Top hd.view_39 LO mean mg mb h₀) (hk : cs.kind = .function)
  (hdp : dp + 5 < recursionLimit) (hun : un + 40 < cLine) (hdq : dp ≤ 400) (hunq : un ≤ 100)
  (h1 : ∀ h' tk l t', Fr h₀ L h' m → News h₀ L h' N → lenD n = some l → Q (.int l t') { s with heap := h', toks := tk })
  (h2 : ∀ h' tk, Fr h₀ L h' m → News h₀ L h' N → lenD n = none → Q .none { s with heap := h', toks := tk }) :
  wpAny (model PW w) (ktrTop dp un gd cn cs L a ccd cl outer) (call (.ref 204) [.int n t]) Q E s := by
  refine len_spec B F X H T hk hdp hun hdq hunq fun h' tk v own F' H' hl => ?_
  rcases hl with ⟨l, t', rfl, hl⟩ | ⟨rfl, hl⟩
  · exact h1 h' tk l t' F' (fun p hp => H' p (List.mem_append_right _ hp)) hl
  · exact h2 h' tk F' (fun p hp => H' p (List.mem_append_right _ hp)) hl
theorem append_led {w : World} {A : Around} {E : Value → Shared → Prop} {s : Shared} {h₀ : Heap} {L D : Addr} {m : Str → Option Value} {vs : List Value} {n : Nat} {x : Value} {M : Led} {Q : Value → Shared → Prop}
    (F : Fr h₀ L s.heap m) (H : News h₀ L s.heap M) (hm : (D, listOf vs.toArray n) ∈ M) (R : Led) (hR : ∀ p ∈ R, p ∈ M ∧ @Ne Nat p.1 D) (hsz : vs.length ≤ 100)
    (h : ∀ h', Fr h₀ L h' m → News h₀ L h' ((D, listOf (vs ++ [x]).toArray (n + 1)) :: R) → Q .none { s with heap := h' }) :
    wpAny (model PW w) A (call (.builtin "list.append") [.ref D, x]) Q E s := by
  have hmem := H _ hm
  refine append_at (its := vs.toArray) (n := n) hmem.1 (fun h' hs ho' => ?_) (by rw [List.size_toArray, sizeLine_eq]; omega)
  refine h h' (F.change hs hmem.2.1 hmem.2.2) fun p hp => ?_
  rcases List.mem_cons.mp hp with e | hp
  · rw [e, ← List.push_toArray]; exact ⟨ho', hmem.2.1, hmem.2.2⟩
  · have z := H p (hR p hp).1
    exact ⟨(hs.2 _ (hR p hp).2).trans z.1, z.2⟩
theorem cls_ne {h₀ h : Heap} {L : Addr} {M : Led} {l I : Addr} {vs : List Value} {n : Nat} {oI : Obj} (H : News h₀ L h M) (h1 : (l, listOf vs.toArray n) ∈ M) (h2 : (I, oI) ∈ M) (hc : oI.cls ≠ .type "list") : @Ne Nat l I := by
  intro e
  have e1 := (H _ h1).1
  have e2 := (H _ h2).1
  have e' : l = I := e
  rw [e'] at e1
  have := Option.some.inj (e1.symm.trans e2)
  exact hc (by have z : listOf vs.toArray n = oI := this; rw [← z])
theorem forms_item {w : World} {A : Around} {E : Value → Shared → Prop} {s : Shared} {h₀ : Heap} {L l : Addr} {M : Led} {value slice : PySem.Expr} {n : Int} {u : Tok} {t0 t1 t2 t3 t4 t9 : Tok} {Q : Value → Shared → Prop}
    (H : News h₀ L s.heap M) (hm : (l, listOf (forms t0 t1 t2 t3 t4 t9).toArray 0) ∈ M) (h : ∀ v, Rep w [] v (formD n) → Q v s)
    (hs : subscripted slice false (.ref l) (.int (n.fmod 12) u) = operate [.ref l, .int (n.fmod 12) u] (getItem (.ref l) (.int (n.fmod 12) u)) := by with_unfolding_all rfl) :
    wpAny (model PW w) A (subscriptTail value slice (.ref l) (.int (n.fmod 12) u)) Q E s := by
  have f0 : 0 ≤ n.fmod 12 := fmod_lo n (by decide)
  have f1 : n.fmod 12 < 12 := fmod_hi n (by decide)
  refine item_at (News.isList H hm) f0 (by simpa [forms] using f1) (by show (12 : Nat) < 2 ^ 62; decide) (fun v hv => h v ?_) hs
  have c : n.fmod 12 = 0 ∨ n.fmod 12 = 1 ∨ n.fmod 12 = 2 ∨ n.fmod 12 = 3 ∨ n.fmod 12 = 4 ∨ n.fmod 12 = 5 ∨ n.fmod 12 = 6 ∨ n.fmod 12 = 7 ∨ n.fmod 12 = 8 ∨ n.fmod 12 = 9 ∨ n.fmod 12 = 10 ∨ n.fmod 12 = 11 := by omega
  rcases c with e | e | e | e | e | e | e | e | e | e | e | e <;> rw [e] at hv <;> cases Option.some.inj hv <;> simp [formD, kd, e, fmtOf] <;> constructor
def Off3' (tl du I : Addr) (x : Addr) : Prop := @Ne Nat x tl ∧ @Ne Nat x du ∧ @Ne Nat x I
theorem turn_end {w : World} {A : Around} {E : Value → Shared → Prop} {s : Shared} {h₀ : Heap} {L : Addr} {m : Str → Option Value} {M N : Led} {tl du I le2 lq le lm : Addr} {tv dv vq vm : List Value} {tn dn nq nm : Nat} {pv pv2 : Value} {n : Int} {Q : Value → Shared → Prop}
    (F : Fr h₀ L s.heap m) (H : News h₀ L s.heap M) (htd : @Ne Nat tl du) (hoff : ∀ p ∈ N, @Ne Nat p.1 tl ∧ @Ne Nat p.1 du)
    (mdu : (du, listOf dv.toArray dn) ∈ M) (mtl : (tl, listOf tv.toArray tn) ∈ M) (m2 : (le2, listOf [pv2, .ref lq].toArray 0) ∈ M) (mq : (lq, listOf vq.toArray nq) ∈ M) (me : (le, listOf [pv, .ref lm].toArray 0) ∈ M) (mm : (lm, listOf vm.toArray nm) ∈ M) (hN : ∀ p ∈ N, p ∈ M)
    (o2 : Off3' tl du I le2) (oq : Off3' tl du I lq) (oe : Off3' tl du I le) (om : Off3' tl du I lm)
    (Rp : Rep w N pv (plainD n)) (Rp2 : Rep w N pv2 (plainD n)) (Rm : RepAll w [] vm (madeL n)) (Rq : RepAll w [] vq (madeL n)) (hdl : dv.length ≤ 100)
    (k : ∀ h' own, Fr h₀ L h' m → News h₀ L h' ((tl, listOf tv.toArray tn) :: (du, listOf (dv ++ [Value.ref le2]).toArray (dn + 1)) :: (own ++ N)) → (∀ p ∈ own, @Ne Nat p.1 tl ∧ @Ne Nat p.1 du ∧ @Ne Nat p.1 I) →
      Rep w (own ++ N) (.ref le) (.list [plainD n, .list (madeL n)]) → Rep w (own ++ N) (.ref le2) (.list [plainD n, .list (madeL n)]) → Q .none { s with heap := h' }) :
    wpAny (model PW w) A (call (.builtin "list.append") [.ref du, .ref le2]) Q E s := by
  refine append_led F H mdu ((tl, listOf tv.toArray tn) :: ([(le2, listOf [pv2, .ref lq].toArray 0), (lq, listOf vq.toArray nq), (le, listOf [pv, .ref lm].toArray 0), (lm, listOf vm.toArray nm)] ++ N)) (fun p hp => ?_) hdl fun h' F' H' => ?_
  · rcases List.mem_cons.mp hp with e | hp
    · rw [e]; exact ⟨mtl, htd⟩
    rcases List.mem_append.mp hp with hp | hp
    · rcases List.mem_cons.mp hp with e | hp
      · rw [e]; exact ⟨m2, o2.2.1⟩
      rcases List.mem_cons.mp hp with e | hp
      · rw [e]; exact ⟨mq, oq.2.1⟩
      rcases List.mem_cons.mp hp with e | hp
      · rw [e]; exact ⟨me, oe.2.1⟩
      rcases List.mem_cons.mp hp with e | hp
      · rw [e]; exact ⟨mm, om.2.1⟩
      · exact nomatch hp
    · exact ⟨hN p hp, (hoff p hp).2⟩
  · refine k h' [(le2, listOf [pv2, .ref lq].toArray 0), (lq, listOf vq.toArray nq), (le, listOf [pv, .ref lm].toArray 0), (lm, listOf vm.toArray nm)] F' (fun p hp => ?_) (fun p hp => ?_) ?_ ?_
    · rcases List.mem_cons.mp hp with e | hp
      · rw [e]; exact H' _ (.tail _ (.head _))
      rcases List.mem_cons.mp hp with e | hp
      · rw [e]; exact H' _ (.head _)
      · exact H' _ (.tail _ (.tail _ hp))
    · rcases List.mem_cons.mp hp with e | hp
      · rw [e]; exact o2
      rcases List.mem_cons.mp hp with e | hp
      · rw [e]; exact oq
      rcases List.mem_cons.mp hp with e | hp
      · rw [e]; exact oe
      rcases List.mem_cons.mp hp with e | hp
      · rw [e]; exact om
      · exact nomatch hp
    · exact .list (List.mem_append_left _ (.tail _ (.tail _ (.head _)))) (.cons (Rp.mono fun p hp => List.mem_append_right _ hp) (.cons (.list (List.mem_append_left _ (.tail _ (.tail _ (.tail _ (.head _))))) Rm.up) .nil))
    · exact .list (List.mem_append_left _ (.head _)) (.cons (Rp2.mono fun p hp => List.mem_append_right _ hp) (.cons (.list (List.mem_append_left _ (.tail _ (.head _))) Rq.up) .nil))
theorem madeL_none {n : Int} (h : lenD n = none) : madeL n = [.str (Str.ofString "no codec")] := by unfold madeL; rw [h]
theorem madeL_some {n l : Int} (h : lenD n = some l) : madeL n = [.str (Str.ofString "codec"), .int l, .bool (decide (9 < kd n)), formD n] := by unfold madeL; rw [h]
theorem len_dictL {w : World} {A : Around} {E : Value → Shared → Prop} {s : Shared} {h₀ : Heap} {L c : Addr} {M : Led} {kvs : List (CKey × Value)} {Q : Value → Shared → Prop} (H : News h₀ L s.heap M) (C : DictL (cK w) M c kvs) (hl : kvs.length ≤ 100)
    (h : Q (.int kvs.length (s.toks + 1)) { s with toks := s.toks + 1 + 1 }) : wpAny (model PW w) A (call (.builtin "len") [.ref c]) Q E s :=
  call_len_dict C.lo (C.at H) (by omega) h
theorem ints_rep {w : World} {N : Led} : ∀ {ys : List Value} {ns : List Int}, CarriedAll ys (ns.map PyData.int) → RepAll w N ys (ns.map Dd.int)
  | [], [], _ => .nil
  | _ :: _, _ :: _, .cons h r => .cons (by cases h; exact .int _ _) (ints_rep r)
theorem dep_scal : ∀ {ds : List Dd}, (∀ d ∈ ds, Scal d) → dep.depAll ds ≤ 3
  | [], _ => by simp [dep.depAll]
  | d :: ds, h => by
    have h1 : dep d ≤ 3 := by
      have := h d (.head _)
      cases d <;> first | exact this.elim | simp [dep]
    have h2 := dep_scal (ds := ds) fun d hd => h d (.tail _ hd)
    simp only [dep.depAll]; omega
theorem dep_plain (n : Int) : dep (plainD n) ≤ 3 := by
  unfold plainD
  repeat' split
  all_goals simp [dep]
theorem dep_turn (n : Int) : dep (.list [plainD n, .list (madeL n)]) ≤ 10 := by
  have h1 := dep_plain n
  have h2 := dep_scal (madeL_scal n)
  simp only [dep, dep.depAll]; omega
theorem dep_snoc : ∀ {ds : List Dd} {d : Dd}, dep.depAll ds ≤ 10 → dep d ≤ 10 → dep.depAll (ds ++ [d]) ≤ 10
  | [], d, _, h => by simp only [List.nil_append, dep.depAll]; omega
  | x :: ds, d, h, h2 => by
    simp only [dep.depAll] at h
    have := dep_snoc (ds := ds) (d := d) (by omega) h2
    simp only [List.cons_append, dep.depAll]; omega
end Mine
namespace Mine
local macro_rules | `(tactic| walk_at "zz0") => `(tactic| fail "zz")
local macro_rules | `(tactic| walk_at "zz1") => `(tactic| fail "zz")
local macro_rules | `(tactic| walk_at "zz2") => `(tactic| fail "zz")
local macro_rules | `(tactic| walk_at "zz3") => `(tactic| fail "zz")
local macro_rules | `(tactic| walk_at "zz4") => `(tactic| fail "zz")
local macro_rules | `(tactic| walk_at "zz5") => `(tactic| fail "zz")
local macro_rules | `(tactic| walk_at "zz6") => `(tactic| fail "zz")
local macro_rules | `(tactic| walk_at "zz7") => `(tactic| fail "zz")
local macro_rules | `(tactic| walk_at "zz8") => `(tactic| fail "zz")
local macro_rules | `(tactic| walk_at "zz9") => `(tactic| fail "zz")
local macro_rules | `(tactic| walk_at "zz10") => `(tactic| fail "zz")
local macro_rules | `(tactic| walk_at "zz11") => `(tactic| fail "zz")
local macro_rules | `(tactic| walk_at "zz12") => `(tactic| fail "zz")
theorem off_FElr : True := by
  w_top off
  trivial
local macro_rules | `(tactic| k_mem) => `(tactic| assumption)
local macro_rules | `(tactic| walk_at "compareOp In str ref") => `(tactic| (k_here; first
  | (refine c_in (k := Sum.inr _) (knd := ckKind _ _) (by k_asm) (DictL.mono (by assumption) (by kcj_all)) (ck_str _ _ _ _) (by assumption) ?_)
  | (refine c_in (b := true) (knd := strKind _ _) (by k_asm) (DictL.mono (by assumption) (by kcj_all)) (strKind_is _ _ _ _) (by rfl) ?_)
  | (refine c_in (b := false) (knd := strKind _ _) (by k_asm) (DictL.mono (by assumption) (by kcj_all)) (strKind_is _ _ _ _) (by rfl) ?_)))
local macro_rules | `(tactic| walk_at "compareOp NotIn str ref") => `(tactic| (k_here; refine c_notin (k := Sum.inr _) (knd := ckKind _ _) (by k_asm) (DictL.mono (by assumption) (by kcj_all)) (ck_str _ _ _ _) (by assumption) ?_))
local macro_rules | `(tactic| walk_at "compareOp In int ref") => `(tactic| (k_here; refine c_in (k := Sum.inl _) (knd := ckKind _ _) (by k_asm) (DictL.mono (by assumption) (by kcj_all)) (ck_int _ _ _ _) (by assumption) ?_))
local macro_rules | `(tactic| walk_at "compareOp NotIn int ref") => `(tactic| (k_here; refine c_notin (k := Sum.inl _) (knd := ckKind _ _) (by k_asm) (DictL.mono (by assumption) (by kcj_all)) (ck_int _ _ _ _) (by assumption) ?_))
local macro_rules | `(tactic| walk_at "subscriptTail") => `(tactic| (k_here; first
  | ((with_reducible show wpAny _ _ (subscriptTail _ _ (Value.ref _) (Value.int _ _)) _ _ _); (refine c_item (k := Sum.inl _) (knd := ckKind _ _) (by k_asm) (DictL.mono (by assumption) (by kcj_all)) (ck_int _ _ _ _) (by assumption) ?_))
  | ((with_reducible show wpAny _ _ (subscriptTail _ _ (Value.ref _) (Value.str _ _)) _ _ _); (refine c_item (k := Sum.inr _) (knd := ckKind _ _) (by k_asm) (DictL.mono (by assumption) (by kcj_all)) (ck_str _ _ _ _) (by assumption) ?_))
  | ((with_reducible show wpAny _ _ (subscriptTail _ _ (Value.ref _) (Value.str _ _)) _ _ _); (refine c_item (knd := strKind _ _) (by k_asm) (DictL.mono (by assumption) (by kcj_all)) (strKind_is _ _ _ _) (by rfl) ?_))))
local macro_rules | `(tactic| k_mem) => `(tactic| assumption)
local macro_rules | `(tactic| walk_at "subscriptTail") => `(tactic| (k_here; (with_reducible show wpAny _ _ (subscriptTail _ _ (Value.ref 183) _) _ _ _); k_dflt (refine' names_item ?X ?h0 ?h1 ?_; (case X => k_in); (case h0 => omega); (case h1 => omega)); intro t'))
local macro_rules | `(tactic| walk_at "subscriptTail") => `(tactic| (k_here; (with_reducible show wpAny _ _ (subscriptTail _ _ (Value.ref 183) _) _ _ _); k_dflt (refine' names_item ?X ?h0 ?h1 ?_; (case X => k_in); (case h0 => exact fmod_lo _ (by decide)); (case h1 => exact fmod_hi _ (by decide))); intro t'))

theorem pow7 : ∀ n : Nat, (7 : Int) ^ n ≠ 0
  | 0 => by decide
  | n + 1 => by rw [Int.pow_succ]; exact fun h => (Int.mul_eq_zero.mp h).elim (pow7 n) (by decide)
theorem names_mem {k : Int} (h0 : 0 ≤ k) (h1 : k < 7) : NAMES.getD k.toNat 0 ∈ NAMES := by
  have hlt : k.toNat < NAMES.length := by simp only [NAMES, List.length_cons, List.length_nil]; omega
  rw [List.getD_eq_getElem?_getD, List.getElem?_eq_getElem hlt]
  exact List.getElem_mem hlt
theorem rows_stmt {w : World} {mean : ExcName → Option Value} {mg mb : Str → Option Value} {a ln c kp : Addr} {ccd : Value} {h₀ : Heap} {L : Addr} {s : Shared} {Q : Flow → Shared → Prop} {E : Value → Shared → Prop} {ws : List Value} {ns : List Int} {ok oc ot : Obj} {N : Led} {kvs kvs2 : List (CKey × Value)} {one two : Int} {t1 t2 t3 : Tok} {m0 : Str → Option Value}
  (B : Below callerA h₀ [] h₀) (X : (hd.heap_39 w.params).In h₀) (T : Top hd.view_39 LO mean mg mb h₀)
  (H : News h₀ L s.heap N) (hok : (L + 1 + 1 + 1, ok) ∈ N) (hokd : ok.data = .cell (some (.ref kp))) (hoc : (L + 1 + 1, oc) ∈ N) (hocd : oc.data = .cell (some (.ref c))) (hot : (L + 1, ot) ∈ N) (hotd : ot.data = .cell (some (.int two t3)))
  (h20 : 0 ≤ two) (hln : (ln, listOf ws.toArray 0) ∈ N) (hi : IntsAre ws ns) (g6 : 6 ≤ ns.length) (g9 : ns.length ≤ 9) (h1 : one ∈ NAMES)
  (C : DictL (cK w) N c kvs) (C2 : DictL (cK w) N kp kvs2) (R : KvsRep w N kvs (cfgOf ns)) (R2 : KvsRep w N kvs2 (cfgOf ns))
  (F : Fr h₀ L s.heap (fun y => if y = Str.ofString "one" then some (.int one t1) else if y = Str.ofString "first" then some (.int (absI (ns.getD 0 0)) t2) else if y = Str.ofString "numbers" then some (.ref ln) else m0 y))
  (hret : ∀ h' tk D vs n0 ds, Fr h₀ L h' (fun y => if y = Str.ofString "rows" then some (.ref D) else if y = Str.ofString "one" then some (.int one t1) else if y = Str.ofString "first" then some (.int (absI (ns.getD 0 0)) t2) else if y = Str.ofString "numbers" then some (.ref ln) else m0 y) → News h₀ L h' ((D, listOf vs.toArray n0) :: N) → IntsAre vs ds → (∀ d ∈ ds, d ∈ NAMES) → ds.length ≤ 9 → Q .next { s with heap := h', toks := tk }) :
  wpAny (model PW w) (callerA.deeper (envOfC (Str.ofString "law") lawS L a ccd)) (exec (lawB.getD 3 (.Pass default)) (envOfC (Str.ofString "law") lawS L a ccd)) Q E s := by
  show wpAny _ (callerA.deeper (envOfC (Str.ofString "law") ⟨_, _, _, _, _⟩ L a ccd)) (exec (.Assign [_] (.ListComp _ [⟨.Name _ _, _, _, _⟩] _ _) _) (envOfC (Str.ofString "law") ⟨_, _, _, _, _⟩ L a ccd)) _ _ _
  revert X
  unfold PW
  k_fill
  intro X
  k_steps
  · rename_i z _ _ _ _
    exact absurd z (pow7 _)
  · rename_i ys hI8 _ D' h' tk' F' N' _
    have hb10 : two.fmod 10 < 10 := fmod_hi _ (by decide)
    refine hret _ _ D' ys ys.length _ F' N' hI8 (fun d hd => ?_) (by rw [List.length_map, rangeKs_length]; omega)
    obtain ⟨k', _, rfl⟩ := List.mem_map.mp hd
    rw [if_pos (pow7 _)]
    exact names_mem (fmod_lo _ (by decide)) (fmod_hi _ (by decide))
end Mine
namespace Mine
local macro_rules | `(tactic| walk_at "zz0") => `(tactic| fail "zz")
local macro_rules | `(tactic| walk_at "zz1") => `(tactic| fail "zz")
local macro_rules | `(tactic| walk_at "zz2") => `(tactic| fail "zz")
local macro_rules | `(tactic| walk_at "zz3") => `(tactic| fail "zz")
local macro_rules | `(tactic| walk_at "zz4") => `(tactic| fail "zz")
local macro_rules | `(tactic| walk_at "zz5") => `(tactic| fail "zz")
local macro_rules | `(tactic| walk_at "zz6") => `(tactic| fail "zz")
local macro_rules | `(tactic| walk_at "zz7") => `(tactic| fail "zz")
local macro_rules | `(tactic| walk_at "zz8") => `(tactic| fail "zz")
local macro_rules | `(tactic| walk_at "zz9") => `(tactic| fail "zz")
local macro_rules | `(tactic| walk_at "zz10") => `(tactic| fail "zz")
local macro_rules | `(tactic| walk_at "zz11") => `(tactic| fail "zz")
local macro_rules | `(tactic| walk_at "zz12") => `(tactic| fail "zz")
local macro_rules | `(tactic| walk_at "zz13") => `(tactic| fail "zz")
theorem off_FElx : True := by
  w_top off
  trivial
local macro_rules | `(tactic| k_mem) => `(tactic| assumption)
local macro_rules | `(tactic| walk_at "compareOp In str ref") => `(tactic| (k_here; first
  | (refine c_in (k := Sum.inr _) (knd := ckKind _ _) (by k_asm) (DictL.mono (by assumption) (by kcj_all)) (ck_str _ _ _ _) (by assumption) ?_)
  | (refine c_in (b := true) (knd := strKind _ _) (by k_asm) (DictL.mono (by assumption) (by kcj_all)) (strKind_is _ _ _ _) (by rfl) ?_)
  | (refine c_in (b := false) (knd := strKind _ _) (by k_asm) (DictL.mono (by assumption) (by kcj_all)) (strKind_is _ _ _ _) (by rfl) ?_)))
local macro_rules | `(tactic| walk_at "compareOp NotIn str ref") => `(tactic| (k_here; refine c_notin (k := Sum.inr _) (knd := ckKind _ _) (by k_asm) (DictL.mono (by assumption) (by kcj_all)) (ck_str _ _ _ _) (by assumption) ?_))
local macro_rules | `(tactic| walk_at "compareOp In int ref") => `(tactic| (k_here; refine c_in (k := Sum.inl _) (knd := ckKind _ _) (by k_asm) (DictL.mono (by assumption) (by kcj_all)) (ck_int _ _ _ _) (by assumption) ?_))
local macro_rules | `(tactic| walk_at "compareOp NotIn int ref") => `(tactic| (k_here; refine c_notin (k := Sum.inl _) (knd := ckKind _ _) (by k_asm) (DictL.mono (by assumption) (by kcj_all)) (ck_int _ _ _ _) (by assumption) ?_))
local macro_rules | `(tactic| walk_at "subscriptTail") => `(tactic| (k_here; first
  | ((with_reducible show wpAny _ _ (subscriptTail _ _ (Value.ref _) (Value.int _ _)) _ _ _); (refine c_item (k := Sum.inl _) (knd := ckKind _ _) (by k_asm) (DictL.mono (by assumption) (by kcj_all)) (ck_int _ _ _ _) (by assumption) ?_))
  | ((with_reducible show wpAny _ _ (subscriptTail _ _ (Value.ref _) (Value.str _ _)) _ _ _); (refine c_item (k := Sum.inr _) (knd := ckKind _ _) (by k_asm) (DictL.mono (by assumption) (by kcj_all)) (ck_str _ _ _ _) (by assumption) ?_))
  | ((with_reducible show wpAny _ _ (subscriptTail _ _ (Value.ref _) (Value.str _ _)) _ _ _); (refine c_item (knd := strKind _ _) (by k_asm) (DictL.mono (by assumption) (by kcj_all)) (strKind_is _ _ _ _) (by rfl) ?_))))
local macro_rules | `(tactic| k_mem) => `(tactic| assumption)
local macro_rules | `(tactic| walk_at "subscriptTail") => `(tactic| (k_here; (with_reducible show wpAny _ _ (subscriptTail _ _ (Value.ref 183) _) _ _ _); k_dflt (refine' names_item ?X ?h0 ?h1 ?_; (case X => k_in); (case h0 => omega); (case h1 => omega)); intro t'))
local macro_rules | `(tactic| walk_at "subscriptTail") => `(tactic| (k_here; (with_reducible show wpAny _ _ (subscriptTail _ _ (Value.ref 183) _) _ _ _); k_dflt (refine' names_item ?X ?h0 ?h1 ?_; (case X => k_in); (case h0 => exact fmod_lo _ (by decide)); (case h1 => exact fmod_hi _ (by decide))); intro t'))

theorem box_stmt {w : World} {mean : ExcName → Option Value} {mg mb : Str → Option Value} {a ln c kp : Addr} {ccd : Value} {h₀ : Heap} {L : Addr} {s : Shared} {Q : Flow → Shared → Prop} {E : Value → Shared → Prop} {ws : List Value} {ns : List Int} {ok oc ot : Obj} {N : Led} {kvs kvs2 : List (CKey × Value)} {one two : Int} {t1 t2 t3 : Tok} {m0 : Str → Option Value}
  (B : Below callerA h₀ [] h₀) (X : (hd.heap_39 w.params).In h₀) (T : Top hd.view_39 LO mean mg mb h₀)
  (H : News h₀ L s.heap N) (hok : (L + 1 + 1 + 1, ok) ∈ N) (hokd : ok.data = .cell (some (.ref kp))) (hoc : (L + 1 + 1, oc) ∈ N) (hocd : oc.data = .cell (some (.ref c))) (hot : (L + 1, ot) ∈ N) (hotd : ot.data = .cell (some (.int two t3)))
  (h20 : 0 ≤ two) (hln : (ln, listOf ws.toArray 0) ∈ N) (hi : IntsAre ws ns) (g6 : 6 ≤ ns.length) (g9 : ns.length ≤ 9) (h1 : one ∈ NAMES)
  (C : DictL (cK w) N c kvs) (C2 : DictL (cK w) N kp kvs2) (R : KvsRep w N kvs (cfgOf ns)) (R2 : KvsRep w N kvs2 (cfgOf ns)) {D : Addr} {vr : List Value} {nr : Nat} {ds : List Int} (hD : (D, listOf vr.toArray nr) ∈ N) (hiD : IntsAre vr ds) (hds : ∀ d ∈ ds, d ∈ NAMES) (hdl : ds.length ≤ 9)
  (F : Fr h₀ L s.heap (fun y => if y = Str.ofString "rows" then some (.ref D) else if y = Str.ofString "one" then some (.int one t1) else if y = Str.ofString "first" then some (.int (absI (ns.getD 0 0)) t2) else if y = Str.ofString "numbers" then some (.ref ln) else m0 y))
  (hret : ∀ h' tk, Fr h₀ L h' (fun y => if y = Str.ofString "box" then some (.ref c) else if y = Str.ofString "rows" then some (.ref D) else if y = Str.ofString "one" then some (.int one t1) else if y = Str.ofString "first" then some (.int (absI (ns.getD 0 0)) t2) else if y = Str.ofString "numbers" then some (.ref ln) else m0 y) → News h₀ L h' N → Q .next { s with heap := h', toks := tk })
  (hret2 : ∀ h' tk b ob, Fr h₀ L h' (fun y => if y = Str.ofString "box" then some (.ref b) else if y = Str.ofString "rows" then some (.ref D) else if y = Str.ofString "one" then some (.int one t1) else if y = Str.ofString "first" then some (.int (absI (ns.getD 0 0)) t2) else if y = Str.ofString "numbers" then some (.ref ln) else m0 y) → News h₀ L h' ((b, ob) :: N) → DictL (sK w) ((b, ob) :: N) b [(Str.ofString "data_identifiers", .ref c)] → Q .next { s with heap := h', toks := tk }) :
  wpAny (model PW w) (callerA.deeper (envOfC (Str.ofString "law") lawS L a ccd)) (exec (lawB.getD 4 (.Pass default)) (envOfC (Str.ofString "law") lawS L a ccd)) Q E s := by
  show wpAny _ (callerA.deeper (envOfC (Str.ofString "law") ⟨_, _, _, _, _⟩ L a ccd)) (exec (.Assign [_] _ _) (envOfC (Str.ofString "law") ⟨_, _, _, _, _⟩ L a ccd)) _ _ _
  revert X
  unfold PW
  k_fill
  intro X
  iterate 11 (any_goals (first | (k_unfold; (try dsimp only)) | (k_end; wrow_close) | walk1 | (dsimp only; walk1) | (leave1; walk_say "STEP leave1"; try dsimp only)))
  · k_steps
    exact hret _ _ (by assumption) (by assumption)
  · iterate 3 (any_goals (first | (k_unfold; (try dsimp only)) | (k_end; wrow_close) | walk1 | (dsimp only; walk1) | (leave1; walk_say "STEP leave1"; try dsimp only)))
    refine nameX_C (News.grown H fun _ _ e => Heap.get?_push_of_some _ e) rfl hoc hocd ?_
    k_steps
    exact hret2 _ _ _ _ (by assumption) (by assumption) ⟨⟨_, .head _, by assumption⟩, by assumption⟩
end Mine
namespace Mine
local macro_rules | `(tactic| walk_at "zz0") => `(tactic| fail "zz")
local macro_rules | `(tactic| walk_at "zz1") => `(tactic| fail "zz")
local macro_rules | `(tactic| walk_at "zz2") => `(tactic| fail "zz")
local macro_rules | `(tactic| walk_at "zz3") => `(tactic| fail "zz")
local macro_rules | `(tactic| walk_at "zz4") => `(tactic| fail "zz")
local macro_rules | `(tactic| walk_at "zz5") => `(tactic| fail "zz")
local macro_rules | `(tactic| walk_at "zz6") => `(tactic| fail "zz")
local macro_rules | `(tactic| walk_at "zz7") => `(tactic| fail "zz")
local macro_rules | `(tactic| walk_at "zz8") => `(tactic| fail "zz")
theorem off_FElt : True := by
  w_top off
  trivial
local macro_rules | `(tactic| k_mem) => `(tactic| assumption)
local macro_rules | `(tactic| walk_at "compareOp In str ref") => `(tactic| (k_here; first
  | (refine c_in (k := Sum.inr _) (knd := ckKind _ _) (by k_asm) (DictL.mono (by assumption) (by kcj_all)) (ck_str _ _ _ _) (by assumption) ?_)
  | (refine c_in (b := true) (knd := strKind _ _) (by k_asm) (DictL.mono (by assumption) (by kcj_all)) (strKind_is _ _ _ _) (by rfl) ?_)
  | (refine c_in (b := false) (knd := strKind _ _) (by k_asm) (DictL.mono (by assumption) (by kcj_all)) (strKind_is _ _ _ _) (by rfl) ?_)))
local macro_rules | `(tactic| walk_at "compareOp NotIn str ref") => `(tactic| (k_here; refine c_notin (k := Sum.inr _) (knd := ckKind _ _) (by k_asm) (DictL.mono (by assumption) (by kcj_all)) (ck_str _ _ _ _) (by assumption) ?_))
local macro_rules | `(tactic| walk_at "compareOp In int ref") => `(tactic| (k_here; refine c_in (k := Sum.inl _) (knd := ckKind _ _) (by k_asm) (DictL.mono (by assumption) (by kcj_all)) (ck_int _ _ _ _) (by assumption) ?_))
local macro_rules | `(tactic| walk_at "compareOp NotIn int ref") => `(tactic| (k_here; refine c_notin (k := Sum.inl _) (knd := ckKind _ _) (by k_asm) (DictL.mono (by assumption) (by kcj_all)) (ck_int _ _ _ _) (by assumption) ?_))
local macro_rules | `(tactic| walk_at "subscriptTail") => `(tactic| (k_here; first
  | ((with_reducible show wpAny _ _ (subscriptTail _ _ (Value.ref _) (Value.int _ _)) _ _ _); (refine c_item (k := Sum.inl _) (knd := ckKind _ _) (by k_asm) (DictL.mono (by assumption) (by kcj_all)) (ck_int _ _ _ _) (by assumption) ?_))
  | ((with_reducible show wpAny _ _ (subscriptTail _ _ (Value.ref _) (Value.str _ _)) _ _ _); (refine c_item (k := Sum.inr _) (knd := ckKind _ _) (by k_asm) (DictL.mono (by assumption) (by kcj_all)) (ck_str _ _ _ _) (by assumption) ?_))
  | ((with_reducible show wpAny _ _ (subscriptTail _ _ (Value.ref _) (Value.str _ _)) _ _ _); (refine c_item (knd := strKind _ _) (by k_asm) (DictL.mono (by assumption) (by kcj_all)) (strKind_is _ _ _ _) (by rfl) ?_))))
local macro_rules | `(tactic| walk_at "call ref") => `(tactic| (k_here; (with_reducible show wpAny _ _ (PySem.call (Value.ref 225) _ _) _ _ _); k_dflt (refine' chk_list_L ?B ?F ?X ?H ?T rfl ?XB ?TB ?un ?hl ?hi ?hds ?C ?bx ?_; (case B => k_asm); (case F => k_asm); (case X => k_asm); (case H => k_asm); (case T => k_asm); (case XB => assumption); (case TB => assumption); (case un => decide); (case hl => k_mem); (case hi => first | assumption | exact .cons _ _ .nil | (refine' ints_id ?_; assumption)); (case hds => assumption); (case C => exact DictL.mono (by assumption) (by kcj_all)); (case bx => exact BoxIs.mono (by assumption) (by kcj_all))); intro h' tk' l' vs' n' F' H' R'; (try dsimp only)))
local macro_rules | `(tactic| walk_at "call ref") => `(tactic| (k_here; (with_reducible show wpAny _ _ (PySem.call (Value.ref 225) _ _) _ _ _); k_dflt (refine' chk_int_L ?B ?F ?X ?H ?T rfl ?XB ?TB ?un ?hd ?C ?bx ?_; (case B => k_asm); (case F => k_asm); (case X => k_asm); (case H => k_asm); (case T => k_asm); (case XB => assumption); (case TB => assumption); (case un => decide); (case hd => assumption); (case C => exact DictL.mono (by assumption) (by kcj_all)); (case bx => exact BoxIs.mono (by assumption) (by kcj_all))); intro h' tk' l' vs' n' F' H' R'; (try dsimp only)))
local macro_rules | `(tactic| walk_at "call ref") => `(tactic| (k_here; (with_reducible show wpAny _ _ (PySem.call (Value.ref 225) _ _) _ _ _); k_dflt (refine' chk_none_L ?B ?F ?X ?H ?T rfl ?XB ?TB ?un ?_; (case B => k_asm); (case F => k_asm); (case X => k_asm); (case H => k_asm); (case T => k_asm); (case XB => assumption); (case TB => assumption); (case un => decide)); intro h' tk' l' x' tx' ty' F' H'; (try dsimp only)))
local macro_rules | `(tactic| walk_at "call ref") => `(tactic| (k_here; (with_reducible show wpAny _ _ (PySem.call (Value.ref 218) _ _) _ _ _); k_dflt (refine' want_L ?B ?F ?X ?H ?T rfl ?d ?u ?dq ?uq ?hl ?hi ?C ?_; (case B => k_asm); (case F => k_asm); (case X => k_asm); (case H => k_asm); (case T => k_asm); (case d => decide); (case u => decide); (case dq => decide); (case uq => decide); (case hl => k_mem); (case hi => first | assumption | exact .cons _ _ .nil | (refine' ints_id ?_; assumption)); (case C => exact DictL.mono (by assumption) (by kcj_all))); intro h' tk' l' vs' n' F' H' R'; (try dsimp only)))
local macro_rules | `(tactic| walk_at "eval ListComp") => `(tactic| (k_here; (with_reducible show wpAny _ _ (PySem.eval (PySem.Expr.ListComp (PySem.Expr.Name _ _) [⟨_, _, [], _⟩] _ _) _) _ _ _); k_dflt (refine LCg.ListComp_U (F₀ := by k_asm) (by with_unfolding_all rfl) (by decide) (by rfl) (by decide) (by rfl) ?_)))
local macro_rules | `(tactic| walk_at "CompSrc") => `(tactic| (k_here; k_dflt (refine comp_src_copy rfl (by k_asm) (by k_asm) (by k_mem) (by assumption) (by assumption) rfl rfl (by decide) ?_); intro D' h' tk' ys' F' N' o1' hI'; (try dsimp only)))
local macro_rules | `(tactic| k_mem) => `(tactic| assumption)
local macro_rules | `(tactic| walk_at "subscriptTail") => `(tactic| (k_here; (with_reducible show wpAny _ _ (subscriptTail _ _ (Value.ref 183) _) _ _ _); k_dflt (refine' names_item ?X ?h0 ?h1 ?_; (case X => k_in); (case h0 => omega); (case h1 => omega)); intro t'))
local macro_rules | `(tactic| walk_at "subscriptTail") => `(tactic| (k_here; (with_reducible show wpAny _ _ (subscriptTail _ _ (Value.ref 183) _) _ _ _); k_dflt (refine' names_item ?X ?h0 ?h1 ?_; (case X => k_in); (case h0 => exact fmod_lo _ (by decide)); (case h1 => exact fmod_hi _ (by decide))); intro t'))

theorem told_stmt {bx : Value} {w : World} {mean : ExcName → Option Value} {mg mb : Str → Option Value} {a ln c kp : Addr} {ccd : Value} {h₀ : Heap} {L : Addr} {s : Shared} {Q : Flow → Shared → Prop} {E : Value → Shared → Prop} {ws : List Value} {ns : List Int} {ok oc ot : Obj} {N : Led} {kvs kvs2 : List (CKey × Value)} {one two : Int} {t1 t2 t3 : Tok} {m0 : Str → Option Value}
  (B : Below callerA h₀ [] h₀) (X : (hd.heap_39 w.params).In h₀) (T : Top hd.view_39 LO mean mg mb h₀)
  (H : News h₀ L s.heap N) (hok : (L + 1 + 1 + 1, ok) ∈ N) (hokd : ok.data = .cell (some (.ref kp))) (hoc : (L + 1 + 1, oc) ∈ N) (hocd : oc.data = .cell (some (.ref c))) (hot : (L + 1, ot) ∈ N) (hotd : ot.data = .cell (some (.int two t3)))
  (h20 : 0 ≤ two) (hln : (ln, listOf ws.toArray 0) ∈ N) (hi : IntsAre ws ns) (g6 : 6 ≤ ns.length) (g9 : ns.length ≤ 9) (h1 : one ∈ NAMES)
  (C : DictL (cK w) N c kvs) (C2 : DictL (cK w) N kp kvs2) (R : KvsRep w N kvs (cfgOf ns)) (R2 : KvsRep w N kvs2 (cfgOf ns)) {D : Addr} {vr : List Value} {nr : Nat} {ds : List Int} (hD : (D, listOf vr.toArray nr) ∈ N) (hiD : IntsAre vr ds) (hds : ∀ d ∈ ds, d ∈ NAMES) (hdl : ds.length ≤ 9) (hbx : BoxIs w N bx c kvs)
  (F : Fr h₀ L s.heap (fun y => if y = Str.ofString "box" then some bx else if y = Str.ofString "rows" then some (.ref D) else if y = Str.ofString "one" then some (.int one t1) else if y = Str.ofString "first" then some (.int (absI (ns.getD 0 0)) t2) else if y = Str.ofString "numbers" then some (.ref ln) else m0 y))
  (hret : ∀ h' tk tl vs n0 N2, Fr h₀ L h' (fun y => if y = Str.ofString "told" then some (.ref tl) else if y = Str.ofString "box" then some bx else if y = Str.ofString "rows" then some (.ref D) else if y = Str.ofString "one" then some (.int one t1) else if y = Str.ofString "first" then some (.int (absI (ns.getD 0 0)) t2) else if y = Str.ofString "numbers" then some (.ref ln) else m0 y) → News h₀ L h' ((tl, listOf vs.toArray n0) :: N2) → (∀ p ∈ N, p ∈ N2) → (∀ p ∈ N2, @Ne Nat p.1 tl) →
    RepAll w N2 vs [.list (wantL kvs [one]), .list (wantL kvs ds), .str (Str.ofString "refused")] → Q .next { s with heap := h', toks := tk }) :
  wpAny (model PW w) (callerA.deeper (envOfC (Str.ofString "law") lawS L a ccd)) (exec (lawB.getD 5 (.Pass default)) (envOfC (Str.ofString "law") lawS L a ccd)) Q E s := by
  show wpAny _ (callerA.deeper (envOfC (Str.ofString "law") ⟨_, _, _, _, _⟩ L a ccd)) (exec (.Assign [_] (.List [_, _, _] _) _) (envOfC (Str.ofString "law") ⟨_, _, _, _, _⟩ L a ccd)) _ _ _
  revert X
  unfold PW
  k_fill
  intro X
  k_steps
  rename_i l3 vs1 n1 R1 D' _ _ ys _ _ _ _ l2 vs2 n2 R2 _ _ l1 x tx ty tl _ lt _ F' N'
  obtain ⟨a1, a2, a3, a4, a5⟩ := lt
  refine hret _ _ tl _ 0 _ F' N' (fun p hp => .tail _ (.tail _ (.tail _ (.tail _ hp)))) (fun p hp => ?_)
    (.cons (.list (.tail _ (.tail _ (.tail _ (.head _)))) R1.up) (.cons (.list (.tail _ (.head _)) R2.up) (.cons (.str _ _) .nil)))
  rcases List.mem_cons.mp hp with e | hp
  · rw [e]; exact Nat.ne_of_lt a1
  rcases List.mem_cons.mp hp with e | hp
  · rw [e]; exact Nat.ne_of_lt a2
  rcases List.mem_cons.mp hp with e | hp
  · rw [e]; exact Nat.ne_of_lt a3
  rcases List.mem_cons.mp hp with e | hp
  · rw [e]; exact Nat.ne_of_lt a4
  · exact allLt_at a5 p hp
end Mine
namespace Mine
local macro_rules | `(tactic| walk_at "zz0") => `(tactic| fail "zz")
local macro_rules | `(tactic| walk_at "zz1") => `(tactic| fail "zz")
local macro_rules | `(tactic| walk_at "zz2") => `(tactic| fail "zz")
local macro_rules | `(tactic| walk_at "zz3") => `(tactic| fail "zz")
local macro_rules | `(tactic| walk_at "zz4") => `(tactic| fail "zz")
local macro_rules | `(tactic| walk_at "zz5") => `(tactic| fail "zz")
local macro_rules | `(tactic| walk_at "zz6") => `(tactic| fail "zz")
local macro_rules | `(tactic| walk_at "zz7") => `(tactic| fail "zz")
local macro_rules | `(tactic| walk_at "zz8") => `(tactic| fail "zz")
local macro_rules | `(tactic| walk_at "zz9") => `(tactic| fail "zz")
theorem off_FElu : True := by
  w_top off
  trivial
local macro_rules | `(tactic| k_mem) => `(tactic| assumption)
local macro_rules | `(tactic| walk_at "compareOp In str ref") => `(tactic| (k_here; first
  | (refine c_in (k := Sum.inr _) (knd := ckKind _ _) (by k_asm) (DictL.mono (by assumption) (by kcj_all)) (ck_str _ _ _ _) (by assumption) ?_)
  | (refine c_in (b := true) (knd := strKind _ _) (by k_asm) (DictL.mono (by assumption) (by kcj_all)) (strKind_is _ _ _ _) (by rfl) ?_)
  | (refine c_in (b := false) (knd := strKind _ _) (by k_asm) (DictL.mono (by assumption) (by kcj_all)) (strKind_is _ _ _ _) (by rfl) ?_)))
local macro_rules | `(tactic| walk_at "compareOp NotIn str ref") => `(tactic| (k_here; refine c_notin (k := Sum.inr _) (knd := ckKind _ _) (by k_asm) (DictL.mono (by assumption) (by kcj_all)) (ck_str _ _ _ _) (by assumption) ?_))
local macro_rules | `(tactic| walk_at "compareOp In int ref") => `(tactic| (k_here; refine c_in (k := Sum.inl _) (knd := ckKind _ _) (by k_asm) (DictL.mono (by assumption) (by kcj_all)) (ck_int _ _ _ _) (by assumption) ?_))
local macro_rules | `(tactic| walk_at "compareOp NotIn int ref") => `(tactic| (k_here; refine c_notin (k := Sum.inl _) (knd := ckKind _ _) (by k_asm) (DictL.mono (by assumption) (by kcj_all)) (ck_int _ _ _ _) (by assumption) ?_))
local macro_rules | `(tactic| walk_at "subscriptTail") => `(tactic| (k_here; first
  | ((with_reducible show wpAny _ _ (subscriptTail _ _ (Value.ref _) (Value.int _ _)) _ _ _); (refine c_item (k := Sum.inl _) (knd := ckKind _ _) (by k_asm) (DictL.mono (by assumption) (by kcj_all)) (ck_int _ _ _ _) (by assumption) ?_))
  | ((with_reducible show wpAny _ _ (subscriptTail _ _ (Value.ref _) (Value.str _ _)) _ _ _); (refine c_item (k := Sum.inr _) (knd := ckKind _ _) (by k_asm) (DictL.mono (by assumption) (by kcj_all)) (ck_str _ _ _ _) (by assumption) ?_))
  | ((with_reducible show wpAny _ _ (subscriptTail _ _ (Value.ref _) (Value.str _ _)) _ _ _); (refine c_item (knd := strKind _ _) (by k_asm) (DictL.mono (by assumption) (by kcj_all)) (strKind_is _ _ _ _) (by rfl) ?_))))
local macro_rules | `(tactic| walk_at "call ref") => `(tactic| (k_here; (with_reducible show wpAny _ _ (PySem.call (Value.ref 225) _ _) _ _ _); k_dflt (refine' chk_list_L ?B ?F ?X ?H ?T rfl ?XB ?TB ?un ?hl ?hi ?hds ?C ?bx ?_; (case B => k_asm); (case F => k_asm); (case X => k_asm); (case H => k_asm); (case T => k_asm); (case XB => assumption); (case TB => assumption); (case un => decide); (case hl => k_mem); (case hi => first | assumption | exact .cons _ _ .nil | (refine' ints_id ?_; assumption)); (case hds => assumption); (case C => exact DictL.mono (by assumption) (by kcj_all)); (case bx => exact BoxIs.mono (by assumption) (by kcj_all))); intro h' tk' l' vs' n' F' H' R'; (try dsimp only)))
local macro_rules | `(tactic| walk_at "call ref") => `(tactic| (k_here; (with_reducible show wpAny _ _ (PySem.call (Value.ref 225) _ _) _ _ _); k_dflt (refine' chk_int_L ?B ?F ?X ?H ?T rfl ?XB ?TB ?un ?hd ?C ?bx ?_; (case B => k_asm); (case F => k_asm); (case X => k_asm); (case H => k_asm); (case T => k_asm); (case XB => assumption); (case TB => assumption); (case un => decide); (case hd => assumption); (case C => exact DictL.mono (by assumption) (by kcj_all)); (case bx => exact BoxIs.mono (by assumption) (by kcj_all))); intro h' tk' l' vs' n' F' H' R'; (try dsimp only)))
local macro_rules | `(tactic| walk_at "call ref") => `(tactic| (k_here; (with_reducible show wpAny _ _ (PySem.call (Value.ref 225) _ _) _ _ _); k_dflt (refine' chk_none_L ?B ?F ?X ?H ?T rfl ?XB ?TB ?un ?_; (case B => k_asm); (case F => k_asm); (case X => k_asm); (case H => k_asm); (case T => k_asm); (case XB => assumption); (case TB => assumption); (case un => decide)); intro h' tk' l' x' tx' ty' F' H'; (try dsimp only)))
local macro_rules | `(tactic| walk_at "call ref") => `(tactic| (k_here; (with_reducible show wpAny _ _ (PySem.call (Value.ref 218) _ _) _ _ _); k_dflt (refine' want_L ?B ?F ?X ?H ?T rfl ?d ?u ?dq ?uq ?hl ?hi ?C ?_; (case B => k_asm); (case F => k_asm); (case X => k_asm); (case H => k_asm); (case T => k_asm); (case d => decide); (case u => decide); (case dq => decide); (case uq => decide); (case hl => k_mem); (case hi => first | assumption | exact .cons _ _ .nil | (refine' ints_id ?_; assumption)); (case C => exact DictL.mono (by assumption) (by kcj_all))); intro h' tk' l' vs' n' F' H' R'; (try dsimp only)))
local macro_rules | `(tactic| walk_at "eval ListComp") => `(tactic| (k_here; (with_reducible show wpAny _ _ (PySem.eval (PySem.Expr.ListComp (PySem.Expr.Name _ _) [⟨_, _, [], _⟩] _ _) _) _ _ _); k_dflt (refine LCg.ListComp_U (F₀ := by k_asm) (by with_unfolding_all rfl) (by decide) (by rfl) (by decide) (by rfl) ?_)))
local macro_rules | `(tactic| walk_at "CompSrc") => `(tactic| (k_here; k_dflt (refine comp_src_copy rfl (by k_asm) (by k_asm) (by k_mem) (by assumption) (by assumption) rfl rfl (by decide) ?_); intro D' h' tk' ys' F' N' o1' hI'; (try dsimp only)))
local macro_rules | `(tactic| k_mem) => `(tactic| assumption)
local macro_rules | `(tactic| walk_at "subscriptTail") => `(tactic| (k_here; (with_reducible show wpAny _ _ (subscriptTail _ _ (Value.ref 183) _) _ _ _); k_dflt (refine' names_item ?X ?h0 ?h1 ?_; (case X => k_in); (case h0 => omega); (case h1 => omega)); intro t'))
local macro_rules | `(tactic| walk_at "subscriptTail") => `(tactic| (k_here; (with_reducible show wpAny _ _ (subscriptTail _ _ (Value.ref 183) _) _ _ _); k_dflt (refine' names_item ?X ?h0 ?h1 ?_; (case X => k_in); (case h0 => exact fmod_lo _ (by decide)); (case h1 => exact fmod_hi _ (by decide))); intro t'))

theorem due_stmt {bx : Value} {tl : Addr} {w : World} {mean : ExcName → Option Value} {mg mb : Str → Option Value} {a ln c kp : Addr} {ccd : Value} {h₀ : Heap} {L : Addr} {s : Shared} {Q : Flow → Shared → Prop} {E : Value → Shared → Prop} {ws : List Value} {ns : List Int} {ok oc ot : Obj} {N : Led} {kvs kvs2 : List (CKey × Value)} {one two : Int} {t1 t2 t3 : Tok} {m0 : Str → Option Value}
  (B : Below callerA h₀ [] h₀) (X : (hd.heap_39 w.params).In h₀) (T : Top hd.view_39 LO mean mg mb h₀)
  (H : News h₀ L s.heap N) (hok : (L + 1 + 1 + 1, ok) ∈ N) (hokd : ok.data = .cell (some (.ref kp))) (hoc : (L + 1 + 1, oc) ∈ N) (hocd : oc.data = .cell (some (.ref c))) (hot : (L + 1, ot) ∈ N) (hotd : ot.data = .cell (some (.int two t3)))
  (h20 : 0 ≤ two) (hln : (ln, listOf ws.toArray 0) ∈ N) (hi : IntsAre ws ns) (g6 : 6 ≤ ns.length) (g9 : ns.length ≤ 9) (h1 : one ∈ NAMES)
  (C : DictL (cK w) N c kvs) (C2 : DictL (cK w) N kp kvs2) (R : KvsRep w N kvs (cfgOf ns)) (R2 : KvsRep w N kvs2 (cfgOf ns)) {D : Addr} {vr : List Value} {nr : Nat} {ds : List Int} (hD : (D, listOf vr.toArray nr) ∈ N) (hiD : IntsAre vr ds) (hds : ∀ d ∈ ds, d ∈ NAMES) (hdl : ds.length ≤ 9)
  (F : Fr h₀ L s.heap (fun y => if y = Str.ofString "told" then some (.ref tl) else if y = Str.ofString "box" then some bx else if y = Str.ofString "rows" then some (.ref D) else if y = Str.ofString "one" then some (.int one t1) else if y = Str.ofString "first" then some (.int (absI (ns.getD 0 0)) t2) else if y = Str.ofString "numbers" then some (.ref ln) else m0 y))
  (hret : ∀ h' tk du vs n0 N2, Fr h₀ L h' (fun y => if y = Str.ofString "due" then some (.ref du) else if y = Str.ofString "told" then some (.ref tl) else if y = Str.ofString "box" then some bx else if y = Str.ofString "rows" then some (.ref D) else if y = Str.ofString "one" then some (.int one t1) else if y = Str.ofString "first" then some (.int (absI (ns.getD 0 0)) t2) else if y = Str.ofString "numbers" then some (.ref ln) else m0 y) → News h₀ L h' ((du, listOf vs.toArray n0) :: N2) → (∀ p ∈ N, p ∈ N2) → (∀ p ∈ N2, @Ne Nat p.1 du) →
    RepAll w N2 vs [.list (wantL kvs2 [one]), .list (wantL kvs2 ds), .str (Str.ofString "refused")] → Q .next { s with heap := h', toks := tk }) :
  wpAny (model PW w) (callerA.deeper (envOfC (Str.ofString "law") lawS L a ccd)) (exec (lawB.getD 6 (.Pass default)) (envOfC (Str.ofString "law") lawS L a ccd)) Q E s := by
  show wpAny _ (callerA.deeper (envOfC (Str.ofString "law") ⟨_, _, _, _, _⟩ L a ccd)) (exec (.Assign [_] (.List [_, _, _] _) _) (envOfC (Str.ofString "law") ⟨_, _, _, _, _⟩ L a ccd)) _ _ _
  revert X
  unfold PW
  k_fill
  intro X
  k_steps
  rename_i l3 _ l11 _ _ l2 vs1 n1 R1 _ _ l1 vs2 n2 R2 du _ lt _ F' N'
  obtain ⟨a1, a2, a3, a5⟩ := lt
  refine hret _ _ du _ 0 _ F' N' (fun p hp => .tail _ (.tail _ (.tail _ hp))) (fun p hp => ?_)
    (.cons (.list (.tail _ (.head _)) R1.up) (.cons (.list (.head _) R2.up) (.cons (.str _ _) .nil)))
  rcases List.mem_cons.mp hp with e | hp
  · rw [e]; exact Nat.ne_of_lt a1
  rcases List.mem_cons.mp hp with e | hp
  · rw [e]; exact Nat.ne_of_lt a2
  rcases List.mem_cons.mp hp with e | hp
  · rw [e]; exact Nat.ne_of_lt a3
  · exact allLt_at a5 p hp
end Mine
namespace Mine
local macro_rules | `(tactic| walk_at "zz0") => `(tactic| fail "zz")
local macro_rules | `(tactic| walk_at "zz1") => `(tactic| fail "zz")
local macro_rules | `(tactic| walk_at "zz2") => `(tactic| fail "zz")
local macro_rules | `(tactic| walk_at "zz3") => `(tactic| fail "zz")
local macro_rules | `(tactic| walk_at "zz4") => `(tactic| fail "zz")
local macro_rules | `(tactic| walk_at "zz5") => `(tactic| fail "zz")
local macro_rules | `(tactic| walk_at "zz6") => `(tactic| fail "zz")
local macro_rules | `(tactic| walk_at "zz7") => `(tactic| fail "zz")
local macro_rules | `(tactic| walk_at "zz8") => `(tactic| fail "zz")
theorem off_FEti : True := by
  w_top off
  trivial
local macro_rules | `(tactic| k_mem) => `(tactic| assumption)
local macro_rules | `(tactic| walk_at "compareOp In str ref") => `(tactic| (k_here; first
  | (refine c_in (k := Sum.inr _) (knd := ckKind _ _) (by k_asm) (DictL.mono (by assumption) (by kcj_all)) (ck_str _ _ _ _) (by assumption) ?_)
  | (refine c_in (b := true) (knd := strKind _ _) (by k_asm) (DictL.mono (by assumption) (by kcj_all)) (strKind_is _ _ _ _) (by rfl) ?_)
  | (refine c_in (b := false) (knd := strKind _ _) (by k_asm) (DictL.mono (by assumption) (by kcj_all)) (strKind_is _ _ _ _) (by rfl) ?_)))
local macro_rules | `(tactic| walk_at "compareOp NotIn str ref") => `(tactic| (k_here; refine c_notin (k := Sum.inr _) (knd := ckKind _ _) (by k_asm) (DictL.mono (by assumption) (by kcj_all)) (ck_str _ _ _ _) (by assumption) ?_))
local macro_rules | `(tactic| walk_at "compareOp In int ref") => `(tactic| (k_here; refine c_in (k := Sum.inl _) (knd := ckKind _ _) (by k_asm) (DictL.mono (by assumption) (by kcj_all)) (ck_int _ _ _ _) (by assumption) ?_))
local macro_rules | `(tactic| walk_at "compareOp NotIn int ref") => `(tactic| (k_here; refine c_notin (k := Sum.inl _) (knd := ckKind _ _) (by k_asm) (DictL.mono (by assumption) (by kcj_all)) (ck_int _ _ _ _) (by assumption) ?_))
local macro_rules | `(tactic| walk_at "subscriptTail") => `(tactic| (k_here; first
  | ((with_reducible show wpAny _ _ (subscriptTail _ _ (Value.ref _) (Value.int _ _)) _ _ _); (refine c_item (k := Sum.inl _) (knd := ckKind _ _) (by k_asm) (DictL.mono (by assumption) (by kcj_all)) (ck_int _ _ _ _) (by assumption) ?_))
  | ((with_reducible show wpAny _ _ (subscriptTail _ _ (Value.ref _) (Value.str _ _)) _ _ _); (refine c_item (k := Sum.inr _) (knd := ckKind _ _) (by k_asm) (DictL.mono (by assumption) (by kcj_all)) (ck_str _ _ _ _) (by assumption) ?_))
  | ((with_reducible show wpAny _ _ (subscriptTail _ _ (Value.ref _) (Value.str _ _)) _ _ _); (refine c_item (knd := strKind _ _) (by k_asm) (DictL.mono (by assumption) (by kcj_all)) (strKind_is _ _ _ _) (by rfl) ?_))))
local macro_rules | `(tactic| walk_at "call ref") => `(tactic| (k_here; (with_reducible show wpAny _ _ (PySem.call (Value.ref 232) _ _) _ _ _); k_dflt (refine' found_no_X ?B ?F ?X ?H ?T rfl ?XB ?TB ?un ?C ?hb ?hd ?hb2 ?_; (case B => k_asm); (case F => k_asm); (case X => k_asm); (case H => k_asm); (case T => k_asm); (case XB => assumption); (case TB => assumption); (case un => decide); (case C => exact DictL.mono (by assumption) (by kcj_all)); (case hb => assumption); (case hd => assumption); (case hb2 => assumption)); intro h' tk' l' n' t1' t2' F' H'; (try dsimp only)))
local macro_rules | `(tactic| walk_at "call ref") => `(tactic| (k_here; (with_reducible show wpAny _ _ (PySem.call (Value.ref 232) _ _) _ _ _); k_dflt (refine' found_def_L ?B ?F ?X ?H ?T rfl ?XB ?TB ?un ?C ?hb ?hv ?_; (case B => k_asm); (case F => k_asm); (case X => k_asm); (case H => k_asm); (case T => k_asm); (case XB => assumption); (case TB => assumption); (case un => decide); (case C => exact DictL.mono (by assumption) (by kcj_all)); (case hb => assumption); (case hv => assumption)); intro h' tk' l' F' H'; (try dsimp only)))
local macro_rules | `(tactic| walk_at "call ref") => `(tactic| (k_here; (with_reducible show wpAny _ _ (PySem.call (Value.ref 232) _ _) _ _ _); k_dflt (refine' found_in_L ?B ?F ?X ?H ?T rfl ?XB ?TB ?un ?C ?hv ?_; (case B => k_asm); (case F => k_asm); (case X => k_asm); (case H => k_asm); (case T => k_asm); (case XB => assumption); (case TB => assumption); (case un => decide); (case C => exact DictL.mono (by assumption) (by kcj_all)); (case hv => assumption)); intro h' tk' l' F' H'; (try dsimp only)))
local macro_rules | `(tactic| walk_at "call ref") => `(tactic| (k_here; (with_reducible show wpAny _ _ (PySem.call (Value.ref 239) _ _) _ _ _); k_dflt (refine' made_L ?B ?F ?X ?H ?T rfl ?XB ?TB ?un ?R ?_; (case B => k_asm); (case F => k_asm); (case X => k_asm); (case H => k_asm); (case T => k_asm); (case XB => assumption); (case TB => assumption); (case un => decide); (case R => (refine RepN.mono ?_ (by assumption); kcj_all))); intro h' tk' l' vs' n' F' H' R'; (try dsimp only)))
local macro_rules | `(tactic| walk_at "call ref") => `(tactic| (k_here; (with_reducible show wpAny _ _ (PySem.call (Value.ref 246) _ _) _ _ _); k_dflt (refine' plain_L ?B ?F ?X ?H ?T rfl ?d ?u ?dq ?uq ?R ?hs ?_; (case B => k_asm); (case F => k_asm); (case X => k_asm); (case H => k_asm); (case T => k_asm); (case d => decide); (case u => decide); (case dq => decide); (case uq => decide); (case R => assumption); (case hs => kcj_all)); intro h' tk' pv' F' H' R'; (try dsimp only)))
local macro_rules | `(tactic| walk_at "call ref") => `(tactic| (k_here; (with_reducible show wpAny _ _ (PySem.call (Value.ref 204) _ _) _ _ _); k_dflt (refine' len_L ?B ?F ?X ?H ?T rfl ?d ?u ?dq ?uq ?_ ?_; (case B => k_asm); (case F => k_asm); (case X => k_asm); (case H => k_asm); (case T => k_asm); (case d => decide); (case u => decide); (case dq => decide); (case uq => decide)); (try dsimp only)))
local macro_rules | `(tactic| walk_at "call ref") => `(tactic| (k_here; (with_reducible show wpAny _ _ (PySem.call (Value.ref 190) _ _) _ _ _); k_dflt (refine' form_spec ?B ?F ?X ?H ?T rfl ?d ?u ?_; (case B => k_asm); (case F => k_asm); (case X => k_asm); (case H => k_asm); (case T => k_asm); (case d => decide); (case u => decide)); intro h' tk' l' t0 t1 t2 t3 t4 t9 F' H'; (try dsimp only)))
local macro_rules | `(tactic| walk_at "subscriptTail") => `(tactic| (k_here; (with_reducible show wpAny _ _ (subscriptTail _ _ (Value.ref _) (Value.int (Int.fmod _ _) _)) _ _ _); k_dflt (refine' forms_item ?H ?hm ?_; (case H => k_asm); (case hm => exact .head _)); intro fv' fr'; (refine Stop.out ?_)))
local macro_rules | `(tactic| k_mem) => `(tactic| assumption)
local macro_rules | `(tactic| walk_at "subscriptTail") => `(tactic| (k_here; (with_reducible show wpAny _ _ (subscriptTail _ _ (Value.ref 183) _) _ _ _); k_dflt (refine' names_item ?X ?h0 ?h1 ?_; (case X => k_in); (case h0 => omega); (case h1 => omega)); intro t'))
local macro_rules | `(tactic| walk_at "subscriptTail") => `(tactic| (k_here; (with_reducible show wpAny _ _ (subscriptTail _ _ (Value.ref 183) _) _ _ _); k_dflt (refine' names_item ?X ?h0 ?h1 ?_; (case X => k_in); (case h0 => exact fmod_lo _ (by decide)); (case h1 => exact fmod_hi _ (by decide))); intro t'))

theorem turn_in {v v2 : Value} {w : World} {bx : Value} {D tl du I : Addr} {tv dv : List Value} {tn dn : Nat} {oI : Obj} {u1 u2 u3 u4 u5 : Option Value} {ki : Int} {tk0 : Tok} {mean : ExcName → Option Value} {mg mb : Str → Option Value} {a ln c kp : Addr} {ccd : Value} {h₀ : Heap} {L : Addr} {s : Shared} {Q : Flow → Shared → Prop} {E : Value → Shared → Prop} {ws : List Value} {ns : List Int} {ok oc ot : Obj} {N : Led} {kvs kvs2 : List (CKey × Value)} {one two : Int} {t1 t2 t3 : Tok} {m0 : Str → Option Value}
  (B : Below callerA h₀ [] h₀) (X : (hd.heap_39 w.params).In h₀) (T : Top hd.view_39 LO mean mg mb h₀)
  (H : News h₀ L s.heap ((tl, listOf tv.toArray tn) :: (du, listOf dv.toArray dn) :: N)) (hok : (L + 1 + 1 + 1, ok) ∈ N) (hokd : ok.data = .cell (some (.ref kp))) (hoc : (L + 1 + 1, oc) ∈ N) (hocd : oc.data = .cell (some (.ref c))) (hot : (L + 1, ot) ∈ N) (hotd : ot.data = .cell (some (.int two t3)))
  (h20 : 0 ≤ two) (hln : (ln, listOf ws.toArray 0) ∈ N) (hi : IntsAre ws ns) (g6 : 6 ≤ ns.length) (g9 : ns.length ≤ 9) (h1 : one ∈ NAMES)
  (C : DictL (cK w) N c kvs) (C2 : DictL (cK w) N kp kvs2) (R : KvsRep w N kvs (cfgOf ns)) (R2 : KvsRep w N kvs2 (cfgOf ns)) (htv : ∃ z r, tv = .ref z :: r) (hdv : ∃ z r, dv = .ref z :: r) (htd : @Ne Nat tl du) (hoff : ∀ p ∈ N, @Ne Nat p.1 tl ∧ @Ne Nat p.1 du) (hI : (I, oI) ∈ N) (hIc : oI.cls ≠ .type "list") (htl : tv.length ≤ 100) (hdl : dv.length ≤ 100) (k0 : 0 ≤ ki) (k7 : ki < 7)
  (hv : valueAt kvs (.inl (NAMES.getD ki.toNat 0)) = some v) (hv2 : valueAt kvs2 (.inl (NAMES.getD ki.toNat 0)) = some v2) (hb : (valueAt kvs2 (.inl (NAMES.getD ki.toNat 0))).isSome = true)
  (rv : RepN w N v (ns.getD (ki + 3).toNat 0)) (rv2 : RepN w N v2 (ns.getD (ki + 3).toNat 0)) (kn : ki + 3 < (ns.length : Int))
  (F : Fr h₀ L s.heap (fun y => if y = Str.ofString "k" then some (.int ki tk0) else if y = Str.ofString "did" then u1 else if y = Str.ofString "found" then u2 else if y = Str.ofString "number" then u3 else if y = Str.ofString "twin" then u4 else if y = Str.ofString "length" then u5 else if y = Str.ofString "due" then some (.ref du) else if y = Str.ofString "told" then some (.ref tl) else if y = Str.ofString "box" then some bx else if y = Str.ofString "rows" then some (.ref D) else if y = Str.ofString "one" then some (.int one t1) else if y = Str.ofString "first" then some (.int (absI (ns.getD 0 0)) t2) else if y = Str.ofString "numbers" then some (.ref ln) else m0 y))
  (hret : ∀ h' tk m' tn' dn' own Dx xv yv, Fr h₀ L h' m' → (∀ y, y ∉ loopVars → m' y = if y = Str.ofString "due" then some (.ref du) else if y = Str.ofString "told" then some (.ref tl) else if y = Str.ofString "box" then some bx else if y = Str.ofString "rows" then some (.ref D) else if y = Str.ofString "one" then some (.int one t1) else if y = Str.ofString "first" then some (.int (absI (ns.getD 0 0)) t2) else if y = Str.ofString "numbers" then some (.ref ln) else m0 y) → News h₀ L h' ((tl, listOf (tv ++ [xv]).toArray tn') :: (du, listOf (dv ++ [yv]).toArray dn') :: (own ++ N)) → (∀ p ∈ own, @Ne Nat p.1 tl ∧ @Ne Nat p.1 du ∧ @Ne Nat p.1 I) →
    Rep w (own ++ N) xv Dx → Rep w (own ++ N) yv Dx → dep Dx ≤ 10 → Q .next { s with heap := h', toks := tk }) :
  wpAny (model PW w) (callerA.deeper (envOfC (Str.ofString "law") lawS L a ccd)) (execs lawF (envOfC (Str.ofString "law") lawS L a ccd)) Q E s := by
  show wpAny _ (callerA.deeper (envOfC (Str.ofString "law") ⟨_, _, _, _, _⟩ L a ccd)) (execs [_, _, _, _] (envOfC (Str.ofString "law") ⟨_, _, _, _, _⟩ L a ccd)) _ _ _
  revert X
  unfold PW
  k_fill
  intro X
  k_steps
  rename_i _ _ _ _ lf _ _ _ pv Rp _ _ lm vm nm Rm le _ F1 N1 lt1
  obtain ⟨b1, _, b2, b3, b4⟩ := lt1
  have hm1 := flat_ne N1 (.tail _ (.head _)) Rm (madeL_str _) (.tail _ (.tail _ (.tail _ (.head _)))) htv
  have hm2 := flat_ne N1 (.tail _ (.head _)) Rm (madeL_str _) (.tail _ (.tail _ (.tail _ (.tail _ (.head _))))) hdv
  have hm3 := cls_ne N1 (.tail _ (.head _)) (.tail _ (.tail _ (.tail _ (.tail _ (.tail _ hI))))) hIc
  refine append_led F1 N1 (.tail _ (.tail _ (.tail _ (.head _)))) ((le, listOf [pv, .ref lm].toArray 0) :: (lm, listOf vm.toArray nm) :: (du, listOf dv.toArray dn) :: N) ?hR1 htl ?go1
  case hR1 =>
    intro p hp
    rcases List.mem_cons.mp hp with e | hp
    · rw [e]; exact ⟨.head _, Nat.ne_of_gt b2⟩
    rcases List.mem_cons.mp hp with e | hp
    · rw [e]; exact ⟨.tail _ (.head _), hm1⟩
    rcases List.mem_cons.mp hp with e | hp
    · rw [e]; exact ⟨.tail _ (.tail _ (.tail _ (.tail _ (.head _)))), Ne.symm htd⟩
    · exact ⟨.tail _ (.tail _ (.tail _ (.tail _ (.tail _ hp)))), (hoff p hp).1⟩
  intro hh2 F2 N2
  clear F1 N1
  k_steps
  · rename_i fv fr
    refine Stop.mk ?_
    have frS : Stop (Rep w [] fv (formD (ns.getD (ki + 3).toNat 0))) := ⟨fr⟩
    clear fr
    k_steps
    rename_i l3 _ lt3 _ _ _ _ _ _ ln lnt hlen _ _ _ pv2 Rp2 _ _ l2 f0 f1 f2 f3 f4 f9 lq _ lt2 le2 _ F5 N5 lt5
    obtain ⟨c1, c2, c3, c4, c5, c6, c7, c8⟩ := lt5
    obtain ⟨e1, e2, e3, e4, e5, e6, e7⟩ := lt2
    refine turn_end (M := (le2, listOf [pv2, .ref lq].toArray 0) :: (lq, _) :: (l2, _) :: (l3, _) :: (tl, _) :: (le, _) :: (lm, _) :: (du, _) :: N) F5 N5 htd hoff (I := I) (.tail _ (.tail _ (.tail _ (.tail _ (.tail _ (.tail _ (.tail _ (.head _)))))))) (.tail _ (.tail _ (.tail _ (.tail _ (.head _))))) (.head _) (.tail _ (.head _)) (.tail _ (.tail _ (.tail _ (.tail _ (.tail _ (.head _)))))) (.tail _ (.tail _ (.tail _ (.tail _ (.tail _ (.tail _ (.head _))))))) (fun p hp => .tail _ (.tail _ (.tail _ (.tail _ (.tail _ (.tail _ (.tail _ (.tail _ (hp))))))))) ?a6 ?a7 ?a8 ?a9 Rp Rp2 Rm ?a10 hdl ?a11
    case a6 => exact ⟨Nat.ne_of_gt c4, Nat.ne_of_gt c7, Ne.symm (allLt_at c8 _ hI)⟩
    case a7 => exact ⟨Nat.ne_of_gt e3, Nat.ne_of_gt e6, Ne.symm (allLt_at e7 _ hI)⟩
    case a8 => exact ⟨Nat.ne_of_gt b2, Nat.ne_of_gt b3, Ne.symm (allLt_at b4 _ hI)⟩
    case a9 => exact ⟨hm1, hm2, hm3⟩
    case a10 => rw [madeL_some hlen]; exact .cons (.str _ _) (.cons (.int _ _) (.cons (.bool _) (.cons frS.out .nil)))
    case a11 =>
      intro h6 own F6 N6 off6 r1 r2
      k_steps
      exact hret _ _ _ _ _ own _ _ _ F6 (fun y hy => by simp only [loopVars, List.mem_cons, List.not_mem_nil, or_false, not_or] at hy; obtain ⟨n1, n2, n3, n4, n5, n6⟩ := hy; simp only [n1, n2, n3, n4, n5, n6, if_false]) N6 off6 r1 r2 (dep_turn _)
  · rename_i l3 _ lt3 _ _ _ _ _ _ hlen _ _ _ pv2 Rp2 lq _ lt2 le2 _ F5 N5 lt5
    obtain ⟨c1, c3, c4, c5, c6, c7, c8⟩ := lt5
    obtain ⟨e2, e3, e4, e5, e6, e7⟩ := lt2
    refine turn_end (M := (le2, listOf [pv2, .ref lq].toArray 0) :: (lq, _) :: (l3, _) :: (tl, _) :: (le, _) :: (lm, _) :: (du, _) :: N) F5 N5 htd hoff (I := I) (.tail _ (.tail _ (.tail _ (.tail _ (.tail _ (.tail _ (.head _))))))) (.tail _ (.tail _ (.tail _ (.head _)))) (.head _) (.tail _ (.head _)) (.tail _ (.tail _ (.tail _ (.tail _ (.head _))))) (.tail _ (.tail _ (.tail _ (.tail _ (.tail _ (.head _)))))) (fun p hp => .tail _ (.tail _ (.tail _ (.tail _ (.tail _ (.tail _ (.tail _ (hp)))))))) ?q6 ?q7 ?q8 ?q9 Rp Rp2 Rm ?q10 hdl ?q11
    case q6 => exact ⟨Nat.ne_of_gt c4, Nat.ne_of_gt c7, Ne.symm (allLt_at c8 _ hI)⟩
    case q7 => exact ⟨Nat.ne_of_gt e3, Nat.ne_of_gt e6, Ne.symm (allLt_at e7 _ hI)⟩
    case q8 => exact ⟨Nat.ne_of_gt b2, Nat.ne_of_gt b3, Ne.symm (allLt_at b4 _ hI)⟩
    case q9 => exact ⟨hm1, hm2, hm3⟩
    case q10 => rw [madeL_none hlen]; exact .cons (.str _ _) .nil
    case q11 =>
      intro h6 own F6 N6 off6 r1 r2
      k_steps
      exact hret _ _ _ _ _ own _ _ _ F6 (fun y hy => by simp only [loopVars, List.mem_cons, List.not_mem_nil, or_false, not_or] at hy; obtain ⟨n1, n2, n3, n4, n5, n6⟩ := hy; simp only [n1, n2, n3, n4, n5, n6, if_false]) N6 off6 r1 r2 (dep_turn _)
end Mine
namespace Mine
local macro_rules | `(tactic| walk_at "zz0") => `(tactic| fail "zz")
local macro_rules | `(tactic| walk_at "zz1") => `(tactic| fail "zz")
local macro_rules | `(tactic| walk_at "zz2") => `(tactic| fail "zz")
local macro_rules | `(tactic| walk_at "zz3") => `(tactic| fail "zz")
local macro_rules | `(tactic| walk_at "zz4") => `(tactic| fail "zz")
local macro_rules | `(tactic| walk_at "zz5") => `(tactic| fail "zz")
local macro_rules | `(tactic| walk_at "zz6") => `(tactic| fail "zz")
local macro_rules | `(tactic| walk_at "zz7") => `(tactic| fail "zz")
local macro_rules | `(tactic| walk_at "zz8") => `(tactic| fail "zz")
local macro_rules | `(tactic| walk_at "zz9") => `(tactic| fail "zz")
theorem off_FEtd : True := by
  w_top off
  trivial
local macro_rules | `(tactic| k_mem) => `(tactic| assumption)
local macro_rules | `(tactic| walk_at "compareOp In str ref") => `(tactic| (k_here; first
  | (refine c_in (k := Sum.inr _) (knd := ckKind _ _) (by k_asm) (DictL.mono (by assumption) (by kcj_all)) (ck_str _ _ _ _) (by assumption) ?_)
  | (refine c_in (b := true) (knd := strKind _ _) (by k_asm) (DictL.mono (by assumption) (by kcj_all)) (strKind_is _ _ _ _) (by rfl) ?_)
  | (refine c_in (b := false) (knd := strKind _ _) (by k_asm) (DictL.mono (by assumption) (by kcj_all)) (strKind_is _ _ _ _) (by rfl) ?_)))
local macro_rules | `(tactic| walk_at "compareOp NotIn str ref") => `(tactic| (k_here; refine c_notin (k := Sum.inr _) (knd := ckKind _ _) (by k_asm) (DictL.mono (by assumption) (by kcj_all)) (ck_str _ _ _ _) (by assumption) ?_))
local macro_rules | `(tactic| walk_at "compareOp In int ref") => `(tactic| (k_here; refine c_in (k := Sum.inl _) (knd := ckKind _ _) (by k_asm) (DictL.mono (by assumption) (by kcj_all)) (ck_int _ _ _ _) (by assumption) ?_))
local macro_rules | `(tactic| walk_at "compareOp NotIn int ref") => `(tactic| (k_here; refine c_notin (k := Sum.inl _) (knd := ckKind _ _) (by k_asm) (DictL.mono (by assumption) (by kcj_all)) (ck_int _ _ _ _) (by assumption) ?_))
local macro_rules | `(tactic| walk_at "subscriptTail") => `(tactic| (k_here; first
  | ((with_reducible show wpAny _ _ (subscriptTail _ _ (Value.ref _) (Value.int _ _)) _ _ _); (refine c_item (k := Sum.inl _) (knd := ckKind _ _) (by k_asm) (DictL.mono (by assumption) (by kcj_all)) (ck_int _ _ _ _) (by assumption) ?_))
  | ((with_reducible show wpAny _ _ (subscriptTail _ _ (Value.ref _) (Value.str _ _)) _ _ _); (refine c_item (k := Sum.inr _) (knd := ckKind _ _) (by k_asm) (DictL.mono (by assumption) (by kcj_all)) (ck_str _ _ _ _) (by assumption) ?_))
  | ((with_reducible show wpAny _ _ (subscriptTail _ _ (Value.ref _) (Value.str _ _)) _ _ _); (refine c_item (knd := strKind _ _) (by k_asm) (DictL.mono (by assumption) (by kcj_all)) (strKind_is _ _ _ _) (by rfl) ?_))))
local macro_rules | `(tactic| walk_at "call ref") => `(tactic| (k_here; (with_reducible show wpAny _ _ (PySem.call (Value.ref 232) _ _) _ _ _); k_dflt (refine' found_no_X ?B ?F ?X ?H ?T rfl ?XB ?TB ?un ?C ?hb ?hd ?hb2 ?_; (case B => k_asm); (case F => k_asm); (case X => k_asm); (case H => k_asm); (case T => k_asm); (case XB => assumption); (case TB => assumption); (case un => decide); (case C => exact DictL.mono (by assumption) (by kcj_all)); (case hb => assumption); (case hd => assumption); (case hb2 => assumption)); intro h' tk' l' n' t1' t2' F' H'; (try dsimp only)))
local macro_rules | `(tactic| walk_at "call ref") => `(tactic| (k_here; (with_reducible show wpAny _ _ (PySem.call (Value.ref 232) _ _) _ _ _); k_dflt (refine' found_def_L ?B ?F ?X ?H ?T rfl ?XB ?TB ?un ?C ?hb ?hv ?_; (case B => k_asm); (case F => k_asm); (case X => k_asm); (case H => k_asm); (case T => k_asm); (case XB => assumption); (case TB => assumption); (case un => decide); (case C => exact DictL.mono (by assumption) (by kcj_all)); (case hb => assumption); (case hv => assumption)); intro h' tk' l' F' H'; (try dsimp only)))
local macro_rules | `(tactic| walk_at "call ref") => `(tactic| (k_here; (with_reducible show wpAny _ _ (PySem.call (Value.ref 232) _ _) _ _ _); k_dflt (refine' found_in_L ?B ?F ?X ?H ?T rfl ?XB ?TB ?un ?C ?hv ?_; (case B => k_asm); (case F => k_asm); (case X => k_asm); (case H => k_asm); (case T => k_asm); (case XB => assumption); (case TB => assumption); (case un => decide); (case C => exact DictL.mono (by assumption) (by kcj_all)); (case hv => assumption)); intro h' tk' l' F' H'; (try dsimp only)))
local macro_rules | `(tactic| walk_at "call ref") => `(tactic| (k_here; (with_reducible show wpAny _ _ (PySem.call (Value.ref 239) _ _) _ _ _); k_dflt (refine' made_L ?B ?F ?X ?H ?T rfl ?XB ?TB ?un ?R ?_; (case B => k_asm); (case F => k_asm); (case X => k_asm); (case H => k_asm); (case T => k_asm); (case XB => assumption); (case TB => assumption); (case un => decide); (case R => (refine RepN.mono ?_ (by assumption); kcj_all))); intro h' tk' l' vs' n' F' H' R'; (try dsimp only)))
local macro_rules | `(tactic| walk_at "call ref") => `(tactic| (k_here; (with_reducible show wpAny _ _ (PySem.call (Value.ref 246) _ _) _ _ _); k_dflt (refine' plain_L ?B ?F ?X ?H ?T rfl ?d ?u ?dq ?uq ?R ?hs ?_; (case B => k_asm); (case F => k_asm); (case X => k_asm); (case H => k_asm); (case T => k_asm); (case d => decide); (case u => decide); (case dq => decide); (case uq => decide); (case R => assumption); (case hs => kcj_all)); intro h' tk' pv' F' H' R'; (try dsimp only)))
local macro_rules | `(tactic| walk_at "call ref") => `(tactic| (k_here; (with_reducible show wpAny _ _ (PySem.call (Value.ref 204) _ _) _ _ _); k_dflt (refine' len_L ?B ?F ?X ?H ?T rfl ?d ?u ?dq ?uq ?_ ?_; (case B => k_asm); (case F => k_asm); (case X => k_asm); (case H => k_asm); (case T => k_asm); (case d => decide); (case u => decide); (case dq => decide); (case uq => decide)); (try dsimp only)))
local macro_rules | `(tactic| walk_at "call ref") => `(tactic| (k_here; (with_reducible show wpAny _ _ (PySem.call (Value.ref 190) _ _) _ _ _); k_dflt (refine' form_spec ?B ?F ?X ?H ?T rfl ?d ?u ?_; (case B => k_asm); (case F => k_asm); (case X => k_asm); (case H => k_asm); (case T => k_asm); (case d => decide); (case u => decide)); intro h' tk' l' t0 t1 t2 t3 t4 t9 F' H'; (try dsimp only)))
local macro_rules | `(tactic| walk_at "subscriptTail") => `(tactic| (k_here; (with_reducible show wpAny _ _ (subscriptTail _ _ (Value.ref _) (Value.int (Int.fmod _ _) _)) _ _ _); k_dflt (refine' forms_item ?H ?hm ?_; (case H => k_asm); (case hm => exact .head _)); intro fv' fr'; (refine Stop.out ?_)))
local macro_rules | `(tactic| k_mem) => `(tactic| assumption)
local macro_rules | `(tactic| walk_at "subscriptTail") => `(tactic| (k_here; (with_reducible show wpAny _ _ (subscriptTail _ _ (Value.ref 183) _) _ _ _); k_dflt (refine' names_item ?X ?h0 ?h1 ?_; (case X => k_in); (case h0 => omega); (case h1 => omega)); intro t'))
local macro_rules | `(tactic| walk_at "subscriptTail") => `(tactic| (k_here; (with_reducible show wpAny _ _ (subscriptTail _ _ (Value.ref 183) _) _ _ _); k_dflt (refine' names_item ?X ?h0 ?h1 ?_; (case X => k_in); (case h0 => exact fmod_lo _ (by decide)); (case h1 => exact fmod_hi _ (by decide))); intro t'))

theorem turn_def {v v2 : Value} {w : World} {bx : Value} {D tl du I : Addr} {tv dv : List Value} {tn dn : Nat} {oI : Obj} {u1 u2 u3 u4 u5 : Option Value} {ki : Int} {tk0 : Tok} {mean : ExcName → Option Value} {mg mb : Str → Option Value} {a ln c kp : Addr} {ccd : Value} {h₀ : Heap} {L : Addr} {s : Shared} {Q : Flow → Shared → Prop} {E : Value → Shared → Prop} {ws : List Value} {ns : List Int} {ok oc ot : Obj} {N : Led} {kvs kvs2 : List (CKey × Value)} {one two : Int} {t1 t2 t3 : Tok} {m0 : Str → Option Value}
  (B : Below callerA h₀ [] h₀) (X : (hd.heap_39 w.params).In h₀) (T : Top hd.view_39 LO mean mg mb h₀)
  (H : News h₀ L s.heap ((tl, listOf tv.toArray tn) :: (du, listOf dv.toArray dn) :: N)) (hok : (L + 1 + 1 + 1, ok) ∈ N) (hokd : ok.data = .cell (some (.ref kp))) (hoc : (L + 1 + 1, oc) ∈ N) (hocd : oc.data = .cell (some (.ref c))) (hot : (L + 1, ot) ∈ N) (hotd : ot.data = .cell (some (.int two t3)))
  (h20 : 0 ≤ two) (hln : (ln, listOf ws.toArray 0) ∈ N) (hi : IntsAre ws ns) (g6 : 6 ≤ ns.length) (g9 : ns.length ≤ 9) (h1 : one ∈ NAMES)
  (C : DictL (cK w) N c kvs) (C2 : DictL (cK w) N kp kvs2) (R : KvsRep w N kvs (cfgOf ns)) (R2 : KvsRep w N kvs2 (cfgOf ns)) (htv : ∃ z r, tv = .ref z :: r) (hdv : ∃ z r, dv = .ref z :: r) (htd : @Ne Nat tl du) (hoff : ∀ p ∈ N, @Ne Nat p.1 tl ∧ @Ne Nat p.1 du) (hI : (I, oI) ∈ N) (hIc : oI.cls ≠ .type "list") (htl : tv.length ≤ 100) (hdl : dv.length ≤ 100) (k0 : 0 ≤ ki) (k7 : ki < 7)
  (hb : (valueAt kvs (.inl (NAMES.getD ki.toNat 0))).isSome = false) (hv : valueAt kvs kDef = some v) (hb2 : (valueAt kvs2 (.inl (NAMES.getD ki.toNat 0))).isSome = false) (hv2 : valueAt kvs2 kDef = some v2) (hb3 : (valueAt kvs2 kDef).isSome = true)
  (rv : RepN w N v ((absI (ns.getD 0 0)).fdiv 3)) (rv2 : RepN w N v2 ((absI (ns.getD 0 0)).fdiv 3))
  (F : Fr h₀ L s.heap (fun y => if y = Str.ofString "k" then some (.int ki tk0) else if y = Str.ofString "did" then u1 else if y = Str.ofString "found" then u2 else if y = Str.ofString "number" then u3 else if y = Str.ofString "twin" then u4 else if y = Str.ofString "length" then u5 else if y = Str.ofString "due" then some (.ref du) else if y = Str.ofString "told" then some (.ref tl) else if y = Str.ofString "box" then some bx else if y = Str.ofString "rows" then some (.ref D) else if y = Str.ofString "one" then some (.int one t1) else if y = Str.ofString "first" then some (.int (absI (ns.getD 0 0)) t2) else if y = Str.ofString "numbers" then some (.ref ln) else m0 y))
  (hret : ∀ h' tk m' tn' dn' own Dx xv yv, Fr h₀ L h' m' → (∀ y, y ∉ loopVars → m' y = if y = Str.ofString "due" then some (.ref du) else if y = Str.ofString "told" then some (.ref tl) else if y = Str.ofString "box" then some bx else if y = Str.ofString "rows" then some (.ref D) else if y = Str.ofString "one" then some (.int one t1) else if y = Str.ofString "first" then some (.int (absI (ns.getD 0 0)) t2) else if y = Str.ofString "numbers" then some (.ref ln) else m0 y) → News h₀ L h' ((tl, listOf (tv ++ [xv]).toArray tn') :: (du, listOf (dv ++ [yv]).toArray dn') :: (own ++ N)) → (∀ p ∈ own, @Ne Nat p.1 tl ∧ @Ne Nat p.1 du ∧ @Ne Nat p.1 I) →
    Rep w (own ++ N) xv Dx → Rep w (own ++ N) yv Dx → dep Dx ≤ 10 → Q .next { s with heap := h', toks := tk }) :
  wpAny (model PW w) (callerA.deeper (envOfC (Str.ofString "law") lawS L a ccd)) (execs lawF (envOfC (Str.ofString "law") lawS L a ccd)) Q E s := by
  show wpAny _ (callerA.deeper (envOfC (Str.ofString "law") ⟨_, _, _, _, _⟩ L a ccd)) (execs [_, _, _, _] (envOfC (Str.ofString "law") ⟨_, _, _, _, _⟩ L a ccd)) _ _ _
  revert X
  unfold PW
  k_fill
  intro X
  k_steps
  rename_i _ _ _ _ lf _ _ _ pv Rp _ _ lm vm nm Rm le _ F1 N1 lt1
  obtain ⟨b1, _, b2, b3, b4⟩ := lt1
  have hm1 := flat_ne N1 (.tail _ (.head _)) Rm (madeL_str _) (.tail _ (.tail _ (.tail _ (.head _)))) htv
  have hm2 := flat_ne N1 (.tail _ (.head _)) Rm (madeL_str _) (.tail _ (.tail _ (.tail _ (.tail _ (.head _))))) hdv
  have hm3 := cls_ne N1 (.tail _ (.head _)) (.tail _ (.tail _ (.tail _ (.tail _ (.tail _ hI))))) hIc
  refine append_led F1 N1 (.tail _ (.tail _ (.tail _ (.head _)))) ((le, listOf [pv, .ref lm].toArray 0) :: (lm, listOf vm.toArray nm) :: (du, listOf dv.toArray dn) :: N) ?hR1 htl ?go1
  case hR1 =>
    intro p hp
    rcases List.mem_cons.mp hp with e | hp
    · rw [e]; exact ⟨.head _, Nat.ne_of_gt b2⟩
    rcases List.mem_cons.mp hp with e | hp
    · rw [e]; exact ⟨.tail _ (.head _), hm1⟩
    rcases List.mem_cons.mp hp with e | hp
    · rw [e]; exact ⟨.tail _ (.tail _ (.tail _ (.tail _ (.head _)))), Ne.symm htd⟩
    · exact ⟨.tail _ (.tail _ (.tail _ (.tail _ (.tail _ hp)))), (hoff p hp).1⟩
  intro hh2 F2 N2
  clear F1 N1
  k_steps
  · rename_i fv fr
    refine Stop.mk ?_
    have frS : Stop (Rep w [] fv (formD ((absI (ns.getD 0 0)).fdiv 3))) := ⟨fr⟩
    clear fr
    k_steps
    rename_i l3 _ lt3 _ _ _ _ _ _ ln lnt hlen _ _ _ pv2 Rp2 _ _ l2 f0 f1 f2 f3 f4 f9 lq _ lt2 le2 _ F5 N5 lt5
    obtain ⟨c1, c2, c3, c4, c5, c6, c7, c8⟩ := lt5
    obtain ⟨e1, e2, e3, e4, e5, e6, e7⟩ := lt2
    refine turn_end (M := (le2, listOf [pv2, .ref lq].toArray 0) :: (lq, _) :: (l2, _) :: (l3, _) :: (tl, _) :: (le, _) :: (lm, _) :: (du, _) :: N) F5 N5 htd hoff (I := I) (.tail _ (.tail _ (.tail _ (.tail _ (.tail _ (.tail _ (.tail _ (.head _)))))))) (.tail _ (.tail _ (.tail _ (.tail _ (.head _))))) (.head _) (.tail _ (.head _)) (.tail _ (.tail _ (.tail _ (.tail _ (.tail _ (.head _)))))) (.tail _ (.tail _ (.tail _ (.tail _ (.tail _ (.tail _ (.head _))))))) (fun p hp => .tail _ (.tail _ (.tail _ (.tail _ (.tail _ (.tail _ (.tail _ (.tail _ (hp))))))))) ?a6 ?a7 ?a8 ?a9 Rp Rp2 Rm ?a10 hdl ?a11
    case a6 => exact ⟨Nat.ne_of_gt c4, Nat.ne_of_gt c7, Ne.symm (allLt_at c8 _ hI)⟩
    case a7 => exact ⟨Nat.ne_of_gt e3, Nat.ne_of_gt e6, Ne.symm (allLt_at e7 _ hI)⟩
    case a8 => exact ⟨Nat.ne_of_gt b2, Nat.ne_of_gt b3, Ne.symm (allLt_at b4 _ hI)⟩
    case a9 => exact ⟨hm1, hm2, hm3⟩
    case a10 => rw [madeL_some hlen]; exact .cons (.str _ _) (.cons (.int _ _) (.cons (.bool _) (.cons frS.out .nil)))
    case a11 =>
      intro h6 own F6 N6 off6 r1 r2
      k_steps
      exact hret _ _ _ _ _ own _ _ _ F6 (fun y hy => by simp only [loopVars, List.mem_cons, List.not_mem_nil, or_false, not_or] at hy; obtain ⟨n1, n2, n3, n4, n5, n6⟩ := hy; simp only [n1, n2, n3, n4, n5, n6, if_false]) N6 off6 r1 r2 (dep_turn _)
  · rename_i l3 _ lt3 _ _ _ _ _ _ hlen _ _ _ pv2 Rp2 lq _ lt2 le2 _ F5 N5 lt5
    obtain ⟨c1, c3, c4, c5, c6, c7, c8⟩ := lt5
    obtain ⟨e2, e3, e4, e5, e6, e7⟩ := lt2
    refine turn_end (M := (le2, listOf [pv2, .ref lq].toArray 0) :: (lq, _) :: (l3, _) :: (tl, _) :: (le, _) :: (lm, _) :: (du, _) :: N) F5 N5 htd hoff (I := I) (.tail _ (.tail _ (.tail _ (.tail _ (.tail _ (.tail _ (.head _))))))) (.tail _ (.tail _ (.tail _ (.head _)))) (.head _) (.tail _ (.head _)) (.tail _ (.tail _ (.tail _ (.tail _ (.head _))))) (.tail _ (.tail _ (.tail _ (.tail _ (.tail _ (.head _)))))) (fun p hp => .tail _ (.tail _ (.tail _ (.tail _ (.tail _ (.tail _ (.tail _ (hp)))))))) ?q6 ?q7 ?q8 ?q9 Rp Rp2 Rm ?q10 hdl ?q11
    case q6 => exact ⟨Nat.ne_of_gt c4, Nat.ne_of_gt c7, Ne.symm (allLt_at c8 _ hI)⟩
    case q7 => exact ⟨Nat.ne_of_gt e3, Nat.ne_of_gt e6, Ne.symm (allLt_at e7 _ hI)⟩
    case q8 => exact ⟨Nat.ne_of_gt b2, Nat.ne_of_gt b3, Ne.symm (allLt_at b4 _ hI)⟩
    case q9 => exact ⟨hm1, hm2, hm3⟩
    case q10 => rw [madeL_none hlen]; exact .cons (.str _ _) .nil
    case q11 =>
      intro h6 own F6 N6 off6 r1 r2
      k_steps
      exact hret _ _ _ _ _ own _ _ _ F6 (fun y hy => by simp only [loopVars, List.mem_cons, List.not_mem_nil, or_false, not_or] at hy; obtain ⟨n1, n2, n3, n4, n5, n6⟩ := hy; simp only [n1, n2, n3, n4, n5, n6, if_false]) N6 off6 r1 r2 (dep_turn _)
end Mine
namespace Mine
local macro_rules | `(tactic| walk_at "zz0") => `(tactic| fail "zz")
local macro_rules | `(tactic| walk_at "zz1") => `(tactic| fail "zz")
local macro_rules | `(tactic| walk_at "zz2") => `(tactic| fail "zz")
local macro_rules | `(tactic| walk_at "zz3") => `(tactic| fail "zz")
local macro_rules | `(tactic| walk_at "zz4") => `(tactic| fail "zz")
local macro_rules | `(tactic| walk_at "zz5") => `(tactic| fail "zz")
local macro_rules | `(tactic| walk_at "zz6") => `(tactic| fail "zz")
local macro_rules | `(tactic| walk_at "zz7") => `(tactic| fail "zz")
local macro_rules | `(tactic| walk_at "zz8") => `(tactic| fail "zz")
local macro_rules | `(tactic| walk_at "zz9") => `(tactic| fail "zz")
local macro_rules | `(tactic| walk_at "zz10") => `(tactic| fail "zz")
theorem off_FEtn : True := by
  w_top off
  trivial
local macro_rules | `(tactic| k_mem) => `(tactic| assumption)
local macro_rules | `(tactic| walk_at "compareOp In str ref") => `(tactic| (k_here; first
  | (refine c_in (k := Sum.inr _) (knd := ckKind _ _) (by k_asm) (DictL.mono (by assumption) (by kcj_all)) (ck_str _ _ _ _) (by assumption) ?_)
  | (refine c_in (b := true) (knd := strKind _ _) (by k_asm) (DictL.mono (by assumption) (by kcj_all)) (strKind_is _ _ _ _) (by rfl) ?_)
  | (refine c_in (b := false) (knd := strKind _ _) (by k_asm) (DictL.mono (by assumption) (by kcj_all)) (strKind_is _ _ _ _) (by rfl) ?_)))
local macro_rules | `(tactic| walk_at "compareOp NotIn str ref") => `(tactic| (k_here; refine c_notin (k := Sum.inr _) (knd := ckKind _ _) (by k_asm) (DictL.mono (by assumption) (by kcj_all)) (ck_str _ _ _ _) (by assumption) ?_))
local macro_rules | `(tactic| walk_at "compareOp In int ref") => `(tactic| (k_here; refine c_in (k := Sum.inl _) (knd := ckKind _ _) (by k_asm) (DictL.mono (by assumption) (by kcj_all)) (ck_int _ _ _ _) (by assumption) ?_))
local macro_rules | `(tactic| walk_at "compareOp NotIn int ref") => `(tactic| (k_here; refine c_notin (k := Sum.inl _) (knd := ckKind _ _) (by k_asm) (DictL.mono (by assumption) (by kcj_all)) (ck_int _ _ _ _) (by assumption) ?_))
local macro_rules | `(tactic| walk_at "subscriptTail") => `(tactic| (k_here; first
  | ((with_reducible show wpAny _ _ (subscriptTail _ _ (Value.ref _) (Value.int _ _)) _ _ _); (refine c_item (k := Sum.inl _) (knd := ckKind _ _) (by k_asm) (DictL.mono (by assumption) (by kcj_all)) (ck_int _ _ _ _) (by assumption) ?_))
  | ((with_reducible show wpAny _ _ (subscriptTail _ _ (Value.ref _) (Value.str _ _)) _ _ _); (refine c_item (k := Sum.inr _) (knd := ckKind _ _) (by k_asm) (DictL.mono (by assumption) (by kcj_all)) (ck_str _ _ _ _) (by assumption) ?_))
  | ((with_reducible show wpAny _ _ (subscriptTail _ _ (Value.ref _) (Value.str _ _)) _ _ _); (refine c_item (knd := strKind _ _) (by k_asm) (DictL.mono (by assumption) (by kcj_all)) (strKind_is _ _ _ _) (by rfl) ?_))))
local macro_rules | `(tactic| walk_at "call ref") => `(tactic| (k_here; (with_reducible show wpAny _ _ (PySem.call (Value.ref 232) _ _) _ _ _); k_dflt (refine' found_no_X ?B ?F ?X ?H ?T rfl ?XB ?TB ?un ?C ?hb ?hd ?hb2 ?_; (case B => k_asm); (case F => k_asm); (case X => k_asm); (case H => k_asm); (case T => k_asm); (case XB => assumption); (case TB => assumption); (case un => decide); (case C => exact DictL.mono (by assumption) (by kcj_all)); (case hb => assumption); (case hd => assumption); (case hb2 => assumption)); intro h' tk' l' n' t1' t2' F' H'; (try dsimp only)))
local macro_rules | `(tactic| walk_at "call ref") => `(tactic| (k_here; (with_reducible show wpAny _ _ (PySem.call (Value.ref 232) _ _) _ _ _); k_dflt (refine' found_def_L ?B ?F ?X ?H ?T rfl ?XB ?TB ?un ?C ?hb ?hv ?_; (case B => k_asm); (case F => k_asm); (case X => k_asm); (case H => k_asm); (case T => k_asm); (case XB => assumption); (case TB => assumption); (case un => decide); (case C => exact DictL.mono (by assumption) (by kcj_all)); (case hb => assumption); (case hv => assumption)); intro h' tk' l' F' H'; (try dsimp only)))
local macro_rules | `(tactic| walk_at "call ref") => `(tactic| (k_here; (with_reducible show wpAny _ _ (PySem.call (Value.ref 232) _ _) _ _ _); k_dflt (refine' found_in_L ?B ?F ?X ?H ?T rfl ?XB ?TB ?un ?C ?hv ?_; (case B => k_asm); (case F => k_asm); (case X => k_asm); (case H => k_asm); (case T => k_asm); (case XB => assumption); (case TB => assumption); (case un => decide); (case C => exact DictL.mono (by assumption) (by kcj_all)); (case hv => assumption)); intro h' tk' l' F' H'; (try dsimp only)))
local macro_rules | `(tactic| walk_at "call ref") => `(tactic| (k_here; (with_reducible show wpAny _ _ (PySem.call (Value.ref 239) _ _) _ _ _); k_dflt (refine' made_L ?B ?F ?X ?H ?T rfl ?XB ?TB ?un ?R ?_; (case B => k_asm); (case F => k_asm); (case X => k_asm); (case H => k_asm); (case T => k_asm); (case XB => assumption); (case TB => assumption); (case un => decide); (case R => (refine RepN.mono ?_ (by assumption); kcj_all))); intro h' tk' l' vs' n' F' H' R'; (try dsimp only)))
local macro_rules | `(tactic| walk_at "call ref") => `(tactic| (k_here; (with_reducible show wpAny _ _ (PySem.call (Value.ref 246) _ _) _ _ _); k_dflt (refine' plain_L ?B ?F ?X ?H ?T rfl ?d ?u ?dq ?uq ?R ?hs ?_; (case B => k_asm); (case F => k_asm); (case X => k_asm); (case H => k_asm); (case T => k_asm); (case d => decide); (case u => decide); (case dq => decide); (case uq => decide); (case R => assumption); (case hs => kcj_all)); intro h' tk' pv' F' H' R'; (try dsimp only)))
local macro_rules | `(tactic| walk_at "call ref") => `(tactic| (k_here; (with_reducible show wpAny _ _ (PySem.call (Value.ref 204) _ _) _ _ _); k_dflt (refine' len_L ?B ?F ?X ?H ?T rfl ?d ?u ?dq ?uq ?_ ?_; (case B => k_asm); (case F => k_asm); (case X => k_asm); (case H => k_asm); (case T => k_asm); (case d => decide); (case u => decide); (case dq => decide); (case uq => decide)); (try dsimp only)))
local macro_rules | `(tactic| walk_at "call ref") => `(tactic| (k_here; (with_reducible show wpAny _ _ (PySem.call (Value.ref 190) _ _) _ _ _); k_dflt (refine' form_spec ?B ?F ?X ?H ?T rfl ?d ?u ?_; (case B => k_asm); (case F => k_asm); (case X => k_asm); (case H => k_asm); (case T => k_asm); (case d => decide); (case u => decide)); intro h' tk' l' t0 t1 t2 t3 t4 t9 F' H'; (try dsimp only)))
local macro_rules | `(tactic| walk_at "subscriptTail") => `(tactic| (k_here; (with_reducible show wpAny _ _ (subscriptTail _ _ (Value.ref _) (Value.int (Int.fmod _ _) _)) _ _ _); k_dflt (refine' forms_item ?H ?hm ?_; (case H => k_asm); (case hm => exact .head _)); intro fv' fr'; (refine Stop.out ?_)))
local macro_rules | `(tactic| k_mem) => `(tactic| assumption)
local macro_rules | `(tactic| walk_at "subscriptTail") => `(tactic| (k_here; (with_reducible show wpAny _ _ (subscriptTail _ _ (Value.ref 183) _) _ _ _); k_dflt (refine' names_item ?X ?h0 ?h1 ?_; (case X => k_in); (case h0 => omega); (case h1 => omega)); intro t'))
local macro_rules | `(tactic| walk_at "subscriptTail") => `(tactic| (k_here; (with_reducible show wpAny _ _ (subscriptTail _ _ (Value.ref 183) _) _ _ _); k_dflt (refine' names_item ?X ?h0 ?h1 ?_; (case X => k_in); (case h0 => exact fmod_lo _ (by decide)); (case h1 => exact fmod_hi _ (by decide))); intro t'))

theorem turn_no {w : World} {bx : Value} {D tl du I : Addr} {tv dv : List Value} {tn dn : Nat} {oI : Obj} {u1 u2 u3 u4 u5 : Option Value} {ki : Int} {tk0 : Tok} {mean : ExcName → Option Value} {mg mb : Str → Option Value} {a ln c kp : Addr} {ccd : Value} {h₀ : Heap} {L : Addr} {s : Shared} {Q : Flow → Shared → Prop} {E : Value → Shared → Prop} {ws : List Value} {ns : List Int} {ok oc ot : Obj} {N : Led} {kvs kvs2 : List (CKey × Value)} {one two : Int} {t1 t2 t3 : Tok} {m0 : Str → Option Value}
  (B : Below callerA h₀ [] h₀) (X : (hd.heap_39 w.params).In h₀) (T : Top hd.view_39 LO mean mg mb h₀)
  (H : News h₀ L s.heap ((tl, listOf tv.toArray tn) :: (du, listOf dv.toArray dn) :: N)) (hok : (L + 1 + 1 + 1, ok) ∈ N) (hokd : ok.data = .cell (some (.ref kp))) (hoc : (L + 1 + 1, oc) ∈ N) (hocd : oc.data = .cell (some (.ref c))) (hot : (L + 1, ot) ∈ N) (hotd : ot.data = .cell (some (.int two t3)))
  (h20 : 0 ≤ two) (hln : (ln, listOf ws.toArray 0) ∈ N) (hi : IntsAre ws ns) (g6 : 6 ≤ ns.length) (g9 : ns.length ≤ 9) (h1 : one ∈ NAMES)
  (C : DictL (cK w) N c kvs) (C2 : DictL (cK w) N kp kvs2) (R : KvsRep w N kvs (cfgOf ns)) (R2 : KvsRep w N kvs2 (cfgOf ns)) (htv : ∃ z r, tv = .ref z :: r) (hdv : ∃ z r, dv = .ref z :: r) (htd : @Ne Nat tl du) (hoff : ∀ p ∈ N, @Ne Nat p.1 tl ∧ @Ne Nat p.1 du) (hI : (I, oI) ∈ N) (hIc : oI.cls ≠ .type "list") (htl : tv.length ≤ 100) (hdl : dv.length ≤ 100) (k0 : 0 ≤ ki) (k7 : ki < 7)
  (hb : (valueAt kvs (.inl (NAMES.getD ki.toNat 0))).isSome = false) (hb2 : (valueAt kvs kDef).isSome = false) (hd7 : NAMES.getD ki.toNat 0 ∈ NAMES) (hc : (valueAt kvs2 (.inl (NAMES.getD ki.toNat 0))).isSome = false) (hc2 : (valueAt kvs2 kDef).isSome = false)
  (F : Fr h₀ L s.heap (fun y => if y = Str.ofString "k" then some (.int ki tk0) else if y = Str.ofString "did" then u1 else if y = Str.ofString "found" then u2 else if y = Str.ofString "number" then u3 else if y = Str.ofString "twin" then u4 else if y = Str.ofString "length" then u5 else if y = Str.ofString "due" then some (.ref du) else if y = Str.ofString "told" then some (.ref tl) else if y = Str.ofString "box" then some bx else if y = Str.ofString "rows" then some (.ref D) else if y = Str.ofString "one" then some (.int one t1) else if y = Str.ofString "first" then some (.int (absI (ns.getD 0 0)) t2) else if y = Str.ofString "numbers" then some (.ref ln) else m0 y))
  (hret : ∀ h' tk m' tn' dn' own Dx xv yv, Fr h₀ L h' m' → (∀ y, y ∉ loopVars → m' y = if y = Str.ofString "due" then some (.ref du) else if y = Str.ofString "told" then some (.ref tl) else if y = Str.ofString "box" then some bx else if y = Str.ofString "rows" then some (.ref D) else if y = Str.ofString "one" then some (.int one t1) else if y = Str.ofString "first" then some (.int (absI (ns.getD 0 0)) t2) else if y = Str.ofString "numbers" then some (.ref ln) else m0 y) → News h₀ L h' ((tl, listOf (tv ++ [xv]).toArray tn') :: (du, listOf (dv ++ [yv]).toArray dn') :: (own ++ N)) → (∀ p ∈ own, @Ne Nat p.1 tl ∧ @Ne Nat p.1 du ∧ @Ne Nat p.1 I) →
    Rep w (own ++ N) xv Dx → Rep w (own ++ N) yv Dx → dep Dx ≤ 10 → Q .next { s with heap := h', toks := tk }) :
  wpAny (model PW w) (callerA.deeper (envOfC (Str.ofString "law") lawS L a ccd)) (execs lawF (envOfC (Str.ofString "law") lawS L a ccd)) Q E s := by
  show wpAny _ (callerA.deeper (envOfC (Str.ofString "law") ⟨_, _, _, _, _⟩ L a ccd)) (execs [_, _, _, _] (envOfC (Str.ofString "law") ⟨_, _, _, _, _⟩ L a ccd)) _ _ _
  revert X
  unfold PW
  k_fill
  intro X
  k_steps
  rename_i tt _ _ _ lf n' t1' t2' _ F1 N1
  have hR : RepAll w [] [Value.str (Str.ofString "refused") t1', Value.int (NAMES.getD ki.toNat 0) t2'] [.str (Str.ofString "refused"), .int (NAMES.getD ki.toNat 0)] := .cons (.str _ _) (.cons (.int _ _) .nil)
  have hm1 := flat_ne N1 (.head _) hR ⟨_, _, rfl⟩ (.tail _ (.head _)) htv
  have hm2 := flat_ne N1 (.head _) hR ⟨_, _, rfl⟩ (.tail _ (.tail _ (.head _))) hdv
  have hm3 := cls_ne N1 (.head _) (.tail _ (.tail _ (.tail _ hI))) hIc
  refine append_led F1 N1 (.tail _ (.head _)) ((lf, listOf [Value.str (Str.ofString "refused") t1', Value.int (NAMES.getD ki.toNat 0) t2'].toArray n') :: (du, listOf dv.toArray dn) :: N) ?hR1 htl ?go1
  case hR1 =>
    intro p hp
    rcases List.mem_cons.mp hp with e | hp
    · rw [e]; exact ⟨.head _, hm1⟩
    rcases List.mem_cons.mp hp with e | hp
    · rw [e]; exact ⟨.tail _ (.tail _ (.head _)), Ne.symm htd⟩
    · exact ⟨.tail _ (.tail _ (.tail _ hp)), (hoff p hp).1⟩
  intro hh2 F2 N2
  have hRS : Stop (RepAll w [] [Value.str (Str.ofString "refused") t1', Value.int (NAMES.getD ki.toNat 0) t2'] [.str (Str.ofString "refused"), .int (NAMES.getD ki.toNat 0)]) := ⟨hR⟩
  clear F1 N1 hR
  k_steps
  rename_i le2 _ F5 N5 lt5
  obtain ⟨c1, c2, c3, c4⟩ := lt5
  obtain ⟨ov, N5', hovS⟩ := obtain_led (w := w) (vs := [_, _]) (ds := [.str (Str.ofString "refused"), .int (NAMES.getD ki.toNat 0)]) N5 (.cons (.str _ _) (.cons (.int _ _) .nil))
  clear N5
  refine append_led F5 N5' (.tail _ (.tail _ (.tail _ (.head _)))) ((tl, listOf (tv ++ [Value.ref lf]).toArray (tn + 1)) :: (le2, listOf ov.toArray 0) :: (lf, listOf [Value.str (Str.ofString "refused") t1', Value.int (NAMES.getD ki.toNat 0) t2'].toArray n') :: N) ?hR2 hdl ?go2
  case hR2 =>
    intro p hp
    rcases List.mem_cons.mp hp with e | hp
    · rw [e]; exact ⟨.tail _ (.head _), htd⟩
    rcases List.mem_cons.mp hp with e | hp
    · rw [e]; exact ⟨.head _, Nat.ne_of_gt c3⟩
    rcases List.mem_cons.mp hp with e | hp
    · rw [e]; exact ⟨.tail _ (.tail _ (.head _)), hm2⟩
    · exact ⟨.tail _ (.tail _ (.tail _ (.tail _ hp))), (hoff p hp).2⟩
  intro h6 F6 N6
  clear F5 N5'
  k_steps
  refine hret _ _ _ (tn + 1) (dn + 1) [(le2, listOf ov.toArray 0), (lf, listOf [Value.str (Str.ofString "refused") t1', Value.int (NAMES.getD ki.toNat 0) t2'].toArray n')] (.list [.str (Str.ofString "refused"), .int (NAMES.getD ki.toNat 0)]) (.ref lf) (.ref le2) F6 (fun y hy => by simp only [loopVars, List.mem_cons, List.not_mem_nil, or_false, not_or] at hy; obtain ⟨n1, n2, n3, n4, n5, n6⟩ := hy; simp only [n1, n2, n3, n4, n5, n6, if_false]) (fun p hp => ?_) (fun p hp => ?_) (.list (.tail _ (.head _)) hRS.out.up) (.list (.head _) hovS.out.up) (by simp [dep, dep.depAll])
  · rcases List.mem_cons.mp hp with e | hp
    · rw [e]; exact N6 _ (.tail _ (.head _))
    rcases List.mem_cons.mp hp with e | hp
    · rw [e]; exact N6 _ (.head _)
    · exact N6 _ (.tail _ (.tail _ hp))
  · rcases List.mem_cons.mp hp with e | hp
    · rw [e]; exact ⟨Nat.ne_of_gt c1, Nat.ne_of_gt c3, Ne.symm (allLt_at c4 _ hI)⟩
    rcases List.mem_cons.mp hp with e | hp
    · rw [e]; exact ⟨hm1, hm2, hm3⟩
    · exact nomatch hp
end Mine
namespace Mine
local macro_rules | `(tactic| k_mem) => `(tactic| assumption)
local macro_rules | `(tactic| walk_at "compareOp In str ref") => `(tactic| (k_here; first
  | (refine c_in (k := Sum.inr _) (knd := ckKind _ _) (by k_asm) (DictL.mono (by assumption) (by kcj_all)) (ck_str _ _ _ _) (by assumption) ?_)
  | (refine c_in (b := true) (knd := strKind _ _) (by k_asm) (DictL.mono (by assumption) (by kcj_all)) (strKind_is _ _ _ _) (by rfl) ?_)
  | (refine c_in (b := false) (knd := strKind _ _) (by k_asm) (DictL.mono (by assumption) (by kcj_all)) (strKind_is _ _ _ _) (by rfl) ?_)))
local macro_rules | `(tactic| walk_at "compareOp NotIn str ref") => `(tactic| (k_here; refine c_notin (k := Sum.inr _) (knd := ckKind _ _) (by k_asm) (DictL.mono (by assumption) (by kcj_all)) (ck_str _ _ _ _) (by assumption) ?_))
local macro_rules | `(tactic| walk_at "compareOp In int ref") => `(tactic| (k_here; refine c_in (k := Sum.inl _) (knd := ckKind _ _) (by k_asm) (DictL.mono (by assumption) (by kcj_all)) (ck_int _ _ _ _) (by assumption) ?_))
local macro_rules | `(tactic| walk_at "compareOp NotIn int ref") => `(tactic| (k_here; refine c_notin (k := Sum.inl _) (knd := ckKind _ _) (by k_asm) (DictL.mono (by assumption) (by kcj_all)) (ck_int _ _ _ _) (by assumption) ?_))
local macro_rules | `(tactic| walk_at "subscriptTail") => `(tactic| (k_here; first
  | ((with_reducible show wpAny _ _ (subscriptTail _ _ (Value.ref _) (Value.int _ _)) _ _ _); (refine c_item (k := Sum.inl _) (knd := ckKind _ _) (by k_asm) (DictL.mono (by assumption) (by kcj_all)) (ck_int _ _ _ _) (by assumption) ?_))
  | ((with_reducible show wpAny _ _ (subscriptTail _ _ (Value.ref _) (Value.str _ _)) _ _ _); (refine c_item (k := Sum.inr _) (knd := ckKind _ _) (by k_asm) (DictL.mono (by assumption) (by kcj_all)) (ck_str _ _ _ _) (by assumption) ?_))
  | ((with_reducible show wpAny _ _ (subscriptTail _ _ (Value.ref _) (Value.str _ _)) _ _ _); (refine c_item (knd := strKind _ _) (by k_asm) (DictL.mono (by assumption) (by kcj_all)) (strKind_is _ _ _ _) (by rfl) ?_))))
theorem cfg_mem {ns : List Int} : ∀ {i : Nat} {c : CKey × Int}, c ∈ cfgUpto ns i → ∃ j, j < i ∧ c = (.inl (NAMES.getD j 0), ns.getD (j + 3) 0)
  | 0, c, h => nomatch h
  | i + 1, c, h => by
    unfold cfgUpto at h
    rcases List.mem_append.mp h with h | h
    · obtain ⟨j, hj, e⟩ := cfg_mem h
      exact ⟨j, by omega, e⟩
    · split at h
      · rw [List.mem_singleton.mp h]; exact ⟨i, by omega, rfl⟩
      · exact nomatch h
theorem look_mem {cs : Cfg} {k : CKey} {n : Int} (h : look cs k = some n) : (k, n) ∈ cs := by
  unfold look at h
  cases hf : cs.find? fun c => decide (c.1 = k) with
  | none => rw [hf] at h; cases h
  | some c =>
    rw [hf] at h
    have h1 := List.find?_some hf
    have h2 := List.mem_of_find?_eq_some hf
    simp at h1
    have h3 : c.2 = n := by simpa using h
    rw [← h1, ← h3]; exact h2
theorem look_in {ns : List Int} {i : Nat} {n : Int} (g9 : ns.length ≤ 9) (i7 : i < 7) (h : look (cfgOf ns) (.inl (NAMES.getD i 0)) = some n) : i + 3 < ns.length ∧ n = ns.getD (i + 3) 0 := by
  have hm := look_mem h
  unfold cfgOf at hm
  rcases List.mem_append.mp hm with hm | hm
  · obtain ⟨j, hj, e⟩ := cfg_mem hm
    have e1 := congrArg Prod.fst e
    have e2 := congrArg Prod.snd e
    have e3 : NAMES.getD i 0 = NAMES.getD j 0 := Sum.inl.inj e1
    have : i = j := by
      rcases Nat.lt_trichotomy i j with q | q | q
      · exact absurd e3 (names_ne q (by omega))
      · exact q
      · exact absurd e3.symm (names_ne q i7)
    subst this
    exact ⟨by omega, e2⟩
  · split at hm
    · have := congrArg Prod.fst (List.mem_singleton.mp hm)
      cases this
    · exact nomatch hm
theorem look_def {ns : List Int} {n : Int} (h : look (cfgOf ns) kDef = some n) : n = (absI (ns.getD 0 0)).fdiv 3 := by
  have hm := look_mem h
  unfold cfgOf at hm
  rcases List.mem_append.mp hm with hm | hm
  · obtain ⟨j, hj, e⟩ := cfg_mem hm
    have := congrArg Prod.fst e
    cases this
  · split at hm
    · exact congrArg Prod.snd (List.mem_singleton.mp hm)
    · exact nomatch hm
section
variable {prog : Program} {w : World} {A : Around} {E : Value → Shared → Prop} {s : Shared} {env : Env} {h₀ : Heap} {x : Str} {body : List PySem.Stmt} {Q : Flow → Shared → Prop}
theorem rest_rangeF {I : Addr} {a : Int} {n : Nat} {m₀ : Str → Option Value} {news : Led} (Inv : Nat → (Str → Option Value) → Led → Prop) (h0 : Inv 0 m₀ news) (offI : ∀ p ∈ news, p.1 ≠ I)
   (turn : ∀ i t h tk m₁ n₁, i < n → Inv i m₁ n₁ → (∀ p ∈ n₁, p.1 ≠ I) → Fr h₀ env.locals h (fun y => if y = x then some (.int (a + (i : Int)) t) else m₁ y) →
      News h₀ env.locals h ((I, itR (a + ((i + 1 : Nat) : Int)) ((n : Int) - ((i + 1 : Nat) : Int))) :: n₁) →
      wpAny (model prog w) A (execs body env) (UnrPost h₀ env.locals { s with heap := h, toks := tk } I (itR (a + ((i + 1 : Nat) : Int)) ((n : Int) - ((i + 1 : Nat) : Int))) (fun m' n' => Inv (i + 1) m' n') Q) E { s with heap := h, toks := tk })
   (done : ∀ h tk m₁ n₁, Inv n m₁ n₁ → Fr h₀ env.locals h m₁ → News h₀ env.locals h n₁ → Q .next { s with heap := h, toks := tk }) :
   RangeRest prog w A E h₀ env x body Q s I a n n 0 m₀ news := by
  have main : ∀ (k i : Nat) (m₁ : Str → Option Value) (n₁ : Led), i + k = n → Inv i m₁ n₁ → (∀ p ∈ n₁, p.1 ≠ I) → RangeRest prog w A E h₀ env x body Q s I a n k i m₁ n₁ := by
    intro k
    induction k with
    | zero =>
      intro i m₁ n₁ hk hi hoff h tk F N
      have : i = n := by omega
      subst this
      exact done h tk m₁ n₁ hi F N
    | succ k ih =>
      intro i m₁ n₁ hk hi hoff t h tk F N
      refine wpAny_mono (turn i t h tk m₁ n₁ (by omega) hi hoff F N) (fun f s₂ p => ?_) fun _ _ z => z
      have fin : ∀ {s₁ : Shared} {it : Obj}, UnrEnd h₀ env.locals s₁ I it (fun m' n' => Inv (i + 1) m' n') s₂ → UnrEnd h₀ env.locals s₁ I it (RangeRest prog w A E h₀ env x body Q s I a n k (i + 1)) s₂ := by
        rintro s₁ it ⟨h', tk', m', news', q, F', N', off, hI'⟩
        exact ⟨h', tk', m', news', q, F', N', off, ih (i + 1) m' news' (by omega) hI' off⟩
      cases f with
      | ret v => exact p
      | brk => exact p
      | next => exact fin p
      | cont => exact fin p
  exact main n 0 m₀ news (by omega) h0 offI
end
theorem frame_eq {m₁ g : Str → Option Value} {v : Option Value} (hm : ∀ y, y ∉ loopVars → m₁ y = g y) : (fun y => if y = Str.ofString "k" then v else m₁ y) = fun y => if y = Str.ofString "k" then v else if y = Str.ofString "did" then m₁ (Str.ofString "did") else if y = Str.ofString "found" then m₁ (Str.ofString "found") else if y = Str.ofString "number" then m₁ (Str.ofString "number") else if y = Str.ofString "twin" then m₁ (Str.ofString "twin") else if y = Str.ofString "length" then m₁ (Str.ofString "length") else g y := by
  funext y
  by_cases n1 : y = Str.ofString "k"
  · simp only [n1, if_true]
  by_cases n2 : y = Str.ofString "did"
  · subst n2; simp only [n1, if_true, if_false]
  by_cases n3 : y = Str.ofString "found"
  · subst n3; simp only [n1, n2, if_true, if_false]
  by_cases n4 : y = Str.ofString "number"
  · subst n4; simp only [n1, n2, n3, if_true, if_false]
  by_cases n5 : y = Str.ofString "twin"
  · subst n5; simp only [n1, n2, n3, n4, if_true, if_false]
  by_cases n6 : y = Str.ofString "length"
  · subst n6; simp only [n1, n2, n3, n4, n5, if_true, if_false]
  simp only [n1, n2, n3, n4, n5, n6, if_false]
  exact hm y (by simp only [loopVars, List.mem_cons, List.not_mem_nil, or_false, not_or]; exact ⟨n1, n2, n3, n4, n5, n6⟩)
theorem turn_all {w : World} {bx : Value} {D tl du I : Addr} {tv dv : List Value} {tn dn : Nat} {oI : Obj} {u1 u2 u3 u4 u5 : Option Value} {ki : Int} {tk0 : Tok} {mean : ExcName → Option Value} {mg mb : Str → Option Value} {a ln c kp : Addr} {ccd : Value} {h₀ : Heap} {L : Addr} {s : Shared} {Q : Flow → Shared → Prop} {E : Value → Shared → Prop} {ws : List Value} {ns : List Int} {ok oc ot : Obj} {N : Led} {kvs kvs2 : List (CKey × Value)} {one two : Int} {t1 t2 t3 : Tok} {m0 : Str → Option Value}
  (B : Below callerA h₀ [] h₀) (X : (hd.heap_39 w.params).In h₀) (T : Top hd.view_39 LO mean mg mb h₀)
  (H : News h₀ L s.heap ((tl, listOf tv.toArray tn) :: (du, listOf dv.toArray dn) :: N)) (hok : (L + 1 + 1 + 1, ok) ∈ N) (hokd : ok.data = .cell (some (.ref kp))) (hoc : (L + 1 + 1, oc) ∈ N) (hocd : oc.data = .cell (some (.ref c))) (hot : (L + 1, ot) ∈ N) (hotd : ot.data = .cell (some (.int two t3)))
  (h20 : 0 ≤ two) (hln : (ln, listOf ws.toArray 0) ∈ N) (hi : IntsAre ws ns) (g6 : 6 ≤ ns.length) (g9 : ns.length ≤ 9) (h1 : one ∈ NAMES)
  (C : DictL (cK w) N c kvs) (C2 : DictL (cK w) N kp kvs2) (R : KvsRep w N kvs (cfgOf ns)) (R2 : KvsRep w N kvs2 (cfgOf ns)) (htv : ∃ z r, tv = .ref z :: r) (hdv : ∃ z r, dv = .ref z :: r) (htd : @Ne Nat tl du) (hoff : ∀ p ∈ N, @Ne Nat p.1 tl ∧ @Ne Nat p.1 du) (hI : (I, oI) ∈ N) (hIc : oI.cls ≠ .type "list") (htl : tv.length ≤ 100) (hdl : dv.length ≤ 100) (k0 : 0 ≤ ki) (k7 : ki < 7)
  (F : Fr h₀ L s.heap (fun y => if y = Str.ofString "k" then some (.int ki tk0) else if y = Str.ofString "did" then u1 else if y = Str.ofString "found" then u2 else if y = Str.ofString "number" then u3 else if y = Str.ofString "twin" then u4 else if y = Str.ofString "length" then u5 else if y = Str.ofString "due" then some (.ref du) else if y = Str.ofString "told" then some (.ref tl) else if y = Str.ofString "box" then some bx else if y = Str.ofString "rows" then some (.ref D) else if y = Str.ofString "one" then some (.int one t1) else if y = Str.ofString "first" then some (.int (absI (ns.getD 0 0)) t2) else if y = Str.ofString "numbers" then some (.ref ln) else m0 y))
  (hret : ∀ h' tk m' tn' dn' own Dx xv yv, Fr h₀ L h' m' → (∀ y, y ∉ loopVars → m' y = if y = Str.ofString "due" then some (.ref du) else if y = Str.ofString "told" then some (.ref tl) else if y = Str.ofString "box" then some bx else if y = Str.ofString "rows" then some (.ref D) else if y = Str.ofString "one" then some (.int one t1) else if y = Str.ofString "first" then some (.int (absI (ns.getD 0 0)) t2) else if y = Str.ofString "numbers" then some (.ref ln) else m0 y) → News h₀ L h' ((tl, listOf (tv ++ [xv]).toArray tn') :: (du, listOf (dv ++ [yv]).toArray dn') :: (own ++ N)) → (∀ p ∈ own, @Ne Nat p.1 tl ∧ @Ne Nat p.1 du ∧ @Ne Nat p.1 I) →
    Rep w (own ++ N) xv Dx → Rep w (own ++ N) yv Dx → dep Dx ≤ 10 → Q .next { s with heap := h', toks := tk }) :
  wpAny (model PW w) (callerA.deeper (envOfC (Str.ofString "law") lawS L a ccd)) (execs lawF (envOfC (Str.ofString "law") lawS L a ccd)) Q E s := by
  have hd7 := names_mem k0 k7
  have i7 : ki.toNat < 7 := by omega
  have ek : (ki + 3).toNat = ki.toNat + 3 := by omega
  rcases R.look (k := .inl (NAMES.getD ki.toNat 0)) with ⟨e1, f1⟩ | ⟨v, n, e1, f1, r1⟩
  · rcases R2.look (k := .inl (NAMES.getD ki.toNat 0)) with ⟨e2, _⟩ | ⟨v2, n2, _, f2, _⟩
    · rcases R.look (k := kDef) with ⟨e3, f3⟩ | ⟨v, n, e3, f3, r1⟩
      · rcases R2.look (k := kDef) with ⟨e4, _⟩ | ⟨v2, n2, _, f4, _⟩
        · exact turn_no B X T H hok hokd hoc hocd hot hotd h20 hln hi g6 g9 h1 C C2 R R2 htv hdv htd hoff hI hIc htl hdl k0 k7 (by rw [e1]; rfl) (by rw [e3]; rfl) hd7 (by rw [e2]; rfl) (by rw [e4]; rfl) F hret
        · rw [f3] at f4; cases f4
      · rcases R2.look (k := kDef) with ⟨_, f4⟩ | ⟨v2, n2, e4, f4, r2⟩
        · rw [f3] at f4; cases f4
        · rw [f3] at f4; cases f4
          have q := look_def f3
          subst q
          exact turn_def B X T H hok hokd hoc hocd hot hotd h20 hln hi g6 g9 h1 C C2 R R2 htv hdv htd hoff hI hIc htl hdl k0 k7 (by rw [e1]; rfl) e3 (by rw [e2]; rfl) e4 (by rw [e4]; rfl) r1 r2 F hret
    · rw [f1] at f2; cases f2
  · rcases R2.look (k := .inl (NAMES.getD ki.toNat 0)) with ⟨_, f2⟩ | ⟨v2, n2, e2, f2, r2⟩
    · rw [f1] at f2; cases f2
    · rw [f1] at f2; cases f2
      obtain ⟨q1, q2⟩ := look_in g9 i7 f1
      subst q2
      rw [← ek] at r1 r2
      exact turn_in B X T H hok hokd hoc hocd hot hotd h20 hln hi g6 g9 h1 C C2 R R2 htv hdv htd hoff hI hIc htl hdl k0 k7 e1 e2 (by rw [e2]; rfl) r1 r2 (by omega) F hret
end Mine
namespace Mine
local macro_rules | `(tactic| walk_at "zz0") => `(tactic| fail "zz")
local macro_rules | `(tactic| walk_at "zz1") => `(tactic| fail "zz")
local macro_rules | `(tactic| walk_at "zz2") => `(tactic| fail "zz")
local macro_rules | `(tactic| walk_at "zz3") => `(tactic| fail "zz")
local macro_rules | `(tactic| walk_at "zz4") => `(tactic| fail "zz")
local macro_rules | `(tactic| walk_at "zz5") => `(tactic| fail "zz")
local macro_rules | `(tactic| walk_at "zz6") => `(tactic| fail "zz")
local macro_rules | `(tactic| walk_at "zz7") => `(tactic| fail "zz")
local macro_rules | `(tactic| walk_at "zz8") => `(tactic| fail "zz")
local macro_rules | `(tactic| walk_at "zz9") => `(tactic| fail "zz")
local macro_rules | `(tactic| walk_at "zz10") => `(tactic| fail "zz")
local macro_rules | `(tactic| walk_at "zz11") => `(tactic| fail "zz")
local macro_rules | `(tactic| walk_at "zz12") => `(tactic| fail "zz")
local macro_rules | `(tactic| walk_at "zz13") => `(tactic| fail "zz")
local macro_rules | `(tactic| walk_at "zz14") => `(tactic| fail "zz")
local macro_rules | `(tactic| walk_at "zz15") => `(tactic| fail "zz")
local macro_rules | `(tactic| walk_at "zz16") => `(tactic| fail "zz")
local macro_rules | `(tactic| walk_at "zz17") => `(tactic| fail "zz")
theorem off_FEfr : True := by
  w_top off
  trivial
local macro_rules | `(tactic| k_mem) => `(tactic| assumption)
local macro_rules | `(tactic| walk_at "compareOp In str ref") => `(tactic| (k_here; first
  | (refine c_in (k := Sum.inr _) (knd := ckKind _ _) (by k_asm) (DictL.mono (by assumption) (by kcj_all)) (ck_str _ _ _ _) (by assumption) ?_)
  | (refine c_in (b := true) (knd := strKind _ _) (by k_asm) (DictL.mono (by assumption) (by kcj_all)) (strKind_is _ _ _ _) (by rfl) ?_)
  | (refine c_in (b := false) (knd := strKind _ _) (by k_asm) (DictL.mono (by assumption) (by kcj_all)) (strKind_is _ _ _ _) (by rfl) ?_)))
local macro_rules | `(tactic| walk_at "compareOp NotIn str ref") => `(tactic| (k_here; refine c_notin (k := Sum.inr _) (knd := ckKind _ _) (by k_asm) (DictL.mono (by assumption) (by kcj_all)) (ck_str _ _ _ _) (by assumption) ?_))
local macro_rules | `(tactic| walk_at "compareOp In int ref") => `(tactic| (k_here; refine c_in (k := Sum.inl _) (knd := ckKind _ _) (by k_asm) (DictL.mono (by assumption) (by kcj_all)) (ck_int _ _ _ _) (by assumption) ?_))
local macro_rules | `(tactic| walk_at "compareOp NotIn int ref") => `(tactic| (k_here; refine c_notin (k := Sum.inl _) (knd := ckKind _ _) (by k_asm) (DictL.mono (by assumption) (by kcj_all)) (ck_int _ _ _ _) (by assumption) ?_))
local macro_rules | `(tactic| walk_at "subscriptTail") => `(tactic| (k_here; first
  | ((with_reducible show wpAny _ _ (subscriptTail _ _ (Value.ref _) (Value.int _ _)) _ _ _); (refine c_item (k := Sum.inl _) (knd := ckKind _ _) (by k_asm) (DictL.mono (by assumption) (by kcj_all)) (ck_int _ _ _ _) (by assumption) ?_))
  | ((with_reducible show wpAny _ _ (subscriptTail _ _ (Value.ref _) (Value.str _ _)) _ _ _); (refine c_item (k := Sum.inr _) (knd := ckKind _ _) (by k_asm) (DictL.mono (by assumption) (by kcj_all)) (ck_str _ _ _ _) (by assumption) ?_))
  | ((with_reducible show wpAny _ _ (subscriptTail _ _ (Value.ref _) (Value.str _ _)) _ _ _); (refine c_item (knd := strKind _ _) (by k_asm) (DictL.mono (by assumption) (by kcj_all)) (strKind_is _ _ _ _) (by rfl) ?_))))
local macro_rules | `(tactic| walk_at "exec For Name Call cons nil") => `(tactic| (k_here; (rename Fr _ _ _ _ => lF'); (with_unfolding_all refine' For_invVF lF' ?k1 ?k2 ?_; (case k1 => exact rfl); (case k2 => exact rfl); k_whole)))
local macro_rules | `(tactic| walk_at "pyIter ref") => `(tactic| (k_here; (with_reducible show wpAny _ _ (pyIter (Value.ref _)) (fun it s₂ => LoopAtV _ _ _ _ _ _ _ _ _ it s₂) _ _); k_dflt (refine' hold_range rfl ?hr (small_one ?s1 ?s2 ?s3 ?s4) (rangeSize_nat _ _) ?F ?N ?_; (case hr => assumption); (case s1 => omega); (case s2 => omega); (case s3 => omega); (case s4 => omega); (case F => assumption); (case N => assumption)); intro I' hI'))
local macro_rules | `(tactic| k_mem) => `(tactic| assumption)
local macro_rules | `(tactic| walk_at "subscriptTail") => `(tactic| (k_here; (with_reducible show wpAny _ _ (subscriptTail _ _ (Value.ref 183) _) _ _ _); k_dflt (refine' names_item ?X ?h0 ?h1 ?_; (case X => k_in); (case h0 => omega); (case h1 => omega)); intro t'))
local macro_rules | `(tactic| walk_at "subscriptTail") => `(tactic| (k_here; (with_reducible show wpAny _ _ (subscriptTail _ _ (Value.ref 183) _) _ _ _); k_dflt (refine' names_item ?X ?h0 ?h1 ?_; (case X => k_in); (case h0 => exact fmod_lo _ (by decide)); (case h1 => exact fmod_hi _ (by decide))); intro t'))

theorem for_stmt {w : World} {bx : Value} {D tl du : Addr} {tv dv : List Value} {tn dn : Nat} {Ds : List Dd} {mean : ExcName → Option Value} {mg mb : Str → Option Value} {a ln c kp : Addr} {ccd : Value} {h₀ : Heap} {L : Addr} {s : Shared} {Q : Flow → Shared → Prop} {E : Value → Shared → Prop} {ws : List Value} {ns : List Int} {ok oc ot : Obj} {N : Led} {kvs kvs2 : List (CKey × Value)} {one two : Int} {t1 t2 t3 : Tok} {m0 : Str → Option Value}
  (B : Below callerA h₀ [] h₀) (X : (hd.heap_39 w.params).In h₀) (T : Top hd.view_39 LO mean mg mb h₀)
  (H : News h₀ L s.heap ((tl, listOf tv.toArray tn) :: (du, listOf dv.toArray dn) :: N)) (hok : (L + 1 + 1 + 1, ok) ∈ N) (hokd : ok.data = .cell (some (.ref kp))) (hoc : (L + 1 + 1, oc) ∈ N) (hocd : oc.data = .cell (some (.ref c))) (hot : (L + 1, ot) ∈ N) (hotd : ot.data = .cell (some (.int two t3)))
  (h20 : 0 ≤ two) (hln : (ln, listOf ws.toArray 0) ∈ N) (hi : IntsAre ws ns) (g6 : 6 ≤ ns.length) (g9 : ns.length ≤ 9) (h1 : one ∈ NAMES)
  (C : DictL (cK w) N c kvs) (C2 : DictL (cK w) N kp kvs2) (R : KvsRep w N kvs (cfgOf ns)) (R2 : KvsRep w N kvs2 (cfgOf ns)) (htv : ∃ z r, tv = .ref z :: r) (hdv : ∃ z r, dv = .ref z :: r) (htd : @Ne Nat tl du) (hoff : ∀ p ∈ N, @Ne Nat p.1 tl ∧ @Ne Nat p.1 du) (htR : RepAll w N tv Ds) (hdR : RepAll w N dv Ds)
  (hE : PassesOwn (model PW w) (callerA.deeper (envOfC (Str.ofString "law") lawS L a ccd)) (envOfC (Str.ofString "law") lawS L a ccd) E)
  (hdD : dep.depAll Ds ≤ 10) (hl3 : tv.length = 3) (hl4 : dv.length = 3)
  (F : Fr h₀ L s.heap (fun y => if y = Str.ofString "due" then some (.ref du) else if y = Str.ofString "told" then some (.ref tl) else if y = Str.ofString "box" then some bx else if y = Str.ofString "rows" then some (.ref D) else if y = Str.ofString "one" then some (.int one t1) else if y = Str.ofString "first" then some (.int (absI (ns.getD 0 0)) t2) else if y = Str.ofString "numbers" then some (.ref ln) else m0 y))
  (hret : ∀ h' tk m' tv' dv' tn' dn' N2 Ds', Fr h₀ L h' m' → (∀ y, y ∉ loopVars → m' y = if y = Str.ofString "due" then some (.ref du) else if y = Str.ofString "told" then some (.ref tl) else if y = Str.ofString "box" then some bx else if y = Str.ofString "rows" then some (.ref D) else if y = Str.ofString "one" then some (.int one t1) else if y = Str.ofString "first" then some (.int (absI (ns.getD 0 0)) t2) else if y = Str.ofString "numbers" then some (.ref ln) else m0 y) → News h₀ L h' ((tl, listOf tv'.toArray tn') :: (du, listOf dv'.toArray dn') :: N2) → (∀ p ∈ N, p ∈ N2) → (∀ p ∈ N2, @Ne Nat p.1 tl ∧ @Ne Nat p.1 du) →
    RepAll w N2 tv' Ds' → RepAll w N2 dv' Ds' → (∃ z r, tv' = .ref z :: r) → (∃ z r, dv' = .ref z :: r) → tv'.length = 10 → dv'.length = 10 → dep.depAll Ds' ≤ 10 → Q .next { s with heap := h', toks := tk }) :
  wpAny (model PW w) (callerA.deeper (envOfC (Str.ofString "law") lawS L a ccd)) (exec (lawB.getD 7 (.Pass default)) (envOfC (Str.ofString "law") lawS L a ccd)) Q E s := by
  show wpAny _ (callerA.deeper (envOfC (Str.ofString "law") ⟨_, _, _, _, _⟩ L a ccd)) (exec (.For _ _ [_, _, _, _] _ _) (envOfC (Str.ofString "law") ⟨_, _, _, _, _⟩ L a ccd)) _ _ _
  revert X
  unfold PW
  k_fill
  intro X
  with_unfolding_all refine For_invVF F (by rfl) (by rfl) ?_ (by intro _; rfl) hE
  k_steps
  rename_i I hI
  refine rest_rangeF (fun i m₁ n₁ => (∀ y, y ∉ loopVars → m₁ y = (fun y => if y = Str.ofString "due" then some (.ref du) else if y = Str.ofString "told" then some (.ref tl) else if y = Str.ofString "box" then some bx else if y = Str.ofString "rows" then some (.ref D) else if y = Str.ofString "one" then some (.int one t1) else if y = Str.ofString "first" then some (.int (absI (ns.getD 0 0)) t2) else if y = Str.ofString "numbers" then some (.ref ln) else m0 y) y) ∧ ∃ tv1 dv1 tn1 dn1 N2 Ds1, n₁ = (tl, listOf tv1.toArray tn1) :: (du, listOf dv1.toArray dn1) :: N2 ∧ (∀ p ∈ N, p ∈ N2) ∧ (∀ p ∈ N2, @Ne Nat p.1 tl ∧ @Ne Nat p.1 du) ∧ RepAll w N2 tv1 Ds1 ∧ RepAll w N2 dv1 Ds1 ∧ (∃ z r, tv1 = .ref z :: r) ∧ (∃ z r, dv1 = .ref z :: r) ∧ tv1.length = 3 + i ∧ dv1.length = 3 + i ∧ dep.depAll Ds1 ≤ 10)
    ⟨fun _ _ => rfl, tv, dv, tn, dn, N, Ds, rfl, fun _ h => h, hoff, htR, hdR, htv, hdv, hl3, hl4, hdD⟩ (fun p hp => Nat.ne_of_lt (hI p hp)) ?turn ?done
  case done =>
    rintro h tk m₁ n₁ ⟨hm, tv1, dv1, tn1, dn1, N2, Ds1, rfl, hs, ho, r1, r2, z1, z2, q1, q2, q3⟩ F2 H2
    exact hret _ _ _ _ _ _ _ _ _ F2 hm H2 hs ho r1 r2 z1 z2 q1 q2 q3
  case turn =>
    rintro i t h tk m₁ n₁ hi7 ⟨hm, tv1, dv1, tn1, dn1, N2, Ds1, rfl, hs, ho, r1, r2, z1, z2, q1, q2, q3⟩ offI F2 H2
    have i7 : i < 7 := hi7
    rw [frame_eq hm] at F2
    have up : ∀ p ∈ N, p ∈ (I, itR (0 + ((i + 1 : Nat) : Int)) (((7 - 0 : Int).toNat : Int) - ((i + 1 : Nat) : Int))) :: N2 := fun p hp => .tail _ (hs p hp)
    refine turn_all (tv := tv1) (dv := dv1) (tn := tn1) (dn := dn1) (N := (I, itR (0 + ((i + 1 : Nat) : Int)) (((7 - 0 : Int).toNat : Int) - ((i + 1 : Nat) : Int))) :: N2) B X T (fun p hp => H2 p ?perm) (up _ hok) hokd (up _ hoc) hocd (up _ hot) hotd h20 (up _ hln) hi g6 g9 h1 (C.mono up) (C2.mono up) (R.mono up) (R2.mono up) z1 z2 htd ?off (.head _) ?cls (by omega) (by omega) (by omega) (by omega) F2 ?ret
    case perm =>
      rcases List.mem_cons.mp hp with e | hp
      · rw [e]; exact .tail _ (.head _)
      rcases List.mem_cons.mp hp with e | hp
      · rw [e]; exact .tail _ (.tail _ (.head _))
      rcases List.mem_cons.mp hp with e | hp
      · rw [e]; exact .head _
      · exact .tail _ (.tail _ (.tail _ hp))
    case off =>
      intro p hp
      rcases List.mem_cons.mp hp with e | hp
      · rw [e]; exact ⟨Ne.symm (offI _ (.head _)), Ne.symm (offI _ (.tail _ (.head _)))⟩
      · exact ho p hp
    case cls => simp [itR]
    case ret =>
      intro h' tk' m' tn' dn' own Dx xv yv F3 hm3 H3 off3 rx ry dx
      have drop : ∀ p ∈ own ++ ((I, itR (0 + ((i + 1 : Nat) : Int)) (((7 - 0 : Int).toNat : Int) - ((i + 1 : Nat) : Int))) :: N2), p ∈ own ++ N2 ∨ ∃ fs, p.2.data = .fields fs := by
        intro p hp
        rcases List.mem_append.mp hp with hp | hp
        · exact .inl (List.mem_append_left _ hp)
        rcases List.mem_cons.mp hp with e | hp
        · rw [e]; exact .inr ⟨_, rfl⟩
        · exact .inl (List.mem_append_right _ hp)
      refine ⟨h', tk', m', (tl, listOf (tv1 ++ [xv]).toArray tn') :: (du, listOf (dv1 ++ [yv]).toArray dn') :: (own ++ N2), rfl, F3, fun p hp => H3 p ?_, ?_, hm3, tv1 ++ [xv], dv1 ++ [yv], tn', dn', own ++ N2, Ds1 ++ [Dx], rfl, fun p hp => List.mem_append_right _ (hs p hp), ?_, ?_, ?_, ?_, ?_, ?_, ?_, dep_snoc q3 dx⟩
      · rcases List.mem_cons.mp hp with e | hp
        · rw [e]; exact .tail _ (.tail _ (List.mem_append_right _ (.head _)))
        rcases List.mem_cons.mp hp with e | hp
        · rw [e]; exact .head _
        rcases List.mem_cons.mp hp with e | hp
        · rw [e]; exact .tail _ (.head _)
        rcases List.mem_append.mp hp with hp | hp
        · exact .tail _ (.tail _ (List.mem_append_left _ hp))
        · exact .tail _ (.tail _ (List.mem_append_right _ (.tail _ hp)))
      · intro p hp
        rcases List.mem_cons.mp hp with e | hp
        · rw [e]; exact offI (tl, listOf tv1.toArray tn1) (.head _)
        rcases List.mem_cons.mp hp with e | hp
        · rw [e]; exact offI (du, listOf dv1.toArray dn1) (.tail _ (.head _))
        rcases List.mem_append.mp hp with hp | hp
        · exact (off3 p hp).2.2
        · exact offI p (.tail _ (.tail _ hp))
      · intro p hp
        rcases List.mem_append.mp hp with hp | hp
        · exact ⟨(off3 p hp).1, (off3 p hp).2.1⟩
        · exact ho p hp
      · exact RepAll.snoc (r1.mono fun p hp => List.mem_append_right _ hp) (rep_drop drop rx)
      · exact RepAll.snoc (r2.mono fun p hp => List.mem_append_right _ hp) (rep_drop drop ry)
      · obtain ⟨z, r, e⟩ := z1; rw [e]; exact ⟨z, r ++ [xv], rfl⟩
      · obtain ⟨z, r, e⟩ := z2; rw [e]; exact ⟨z, r ++ [yv], rfl⟩
      · rw [List.length_append, q1]; simp; omega
      · rw [List.length_append, q2]; simp; omega
end Mine
namespace Mine
local macro_rules | `(tactic| walk_at "zz0") => `(tactic| fail "zz")
local macro_rules | `(tactic| walk_at "zz1") => `(tactic| fail "zz")
local macro_rules | `(tactic| walk_at "zz2") => `(tactic| fail "zz")
local macro_rules | `(tactic| walk_at "zz3") => `(tactic| fail "zz")
local macro_rules | `(tactic| walk_at "zz4") => `(tactic| fail "zz")
local macro_rules | `(tactic| walk_at "zz5") => `(tactic| fail "zz")
local macro_rules | `(tactic| walk_at "zz6") => `(tactic| fail "zz")
local macro_rules | `(tactic| walk_at "zz7") => `(tactic| fail "zz")
local macro_rules | `(tactic| walk_at "zz8") => `(tactic| fail "zz")
local macro_rules | `(tactic| walk_at "zz9") => `(tactic| fail "zz")
local macro_rules | `(tactic| walk_at "zz10") => `(tactic| fail "zz")
local macro_rules | `(tactic| walk_at "zz11") => `(tactic| fail "zz")
local macro_rules | `(tactic| walk_at "zz12") => `(tactic| fail "zz")
local macro_rules | `(tactic| walk_at "zz13") => `(tactic| fail "zz")
local macro_rules | `(tactic| walk_at "zz14") => `(tactic| fail "zz")
local macro_rules | `(tactic| walk_at "zz15") => `(tactic| fail "zz")
local macro_rules | `(tactic| walk_at "zz16") => `(tactic| fail "zz")
local macro_rules | `(tactic| walk_at "zz17") => `(tactic| fail "zz")
theorem off_FEt8 : True := by
  w_top off
  trivial
local macro_rules | `(tactic| k_mem) => `(tactic| assumption)
local macro_rules | `(tactic| walk_at "compareOp In str ref") => `(tactic| (k_here; first
  | (refine c_in (k := Sum.inr _) (knd := ckKind _ _) (by k_asm) (DictL.mono (by assumption) (by kcj_all)) (ck_str _ _ _ _) (by assumption) ?_)
  | (refine c_in (b := true) (knd := strKind _ _) (by k_asm) (DictL.mono (by assumption) (by kcj_all)) (strKind_is _ _ _ _) (by rfl) ?_)
  | (refine c_in (b := false) (knd := strKind _ _) (by k_asm) (DictL.mono (by assumption) (by kcj_all)) (strKind_is _ _ _ _) (by rfl) ?_)))
local macro_rules | `(tactic| walk_at "compareOp NotIn str ref") => `(tactic| (k_here; refine c_notin (k := Sum.inr _) (knd := ckKind _ _) (by k_asm) (DictL.mono (by assumption) (by kcj_all)) (ck_str _ _ _ _) (by assumption) ?_))
local macro_rules | `(tactic| walk_at "compareOp In int ref") => `(tactic| (k_here; refine c_in (k := Sum.inl _) (knd := ckKind _ _) (by k_asm) (DictL.mono (by assumption) (by kcj_all)) (ck_int _ _ _ _) (by assumption) ?_))
local macro_rules | `(tactic| walk_at "compareOp NotIn int ref") => `(tactic| (k_here; refine c_notin (k := Sum.inl _) (knd := ckKind _ _) (by k_asm) (DictL.mono (by assumption) (by kcj_all)) (ck_int _ _ _ _) (by assumption) ?_))
local macro_rules | `(tactic| walk_at "subscriptTail") => `(tactic| (k_here; first
  | ((with_reducible show wpAny _ _ (subscriptTail _ _ (Value.ref _) (Value.int _ _)) _ _ _); (refine c_item (k := Sum.inl _) (knd := ckKind _ _) (by k_asm) (DictL.mono (by assumption) (by kcj_all)) (ck_int _ _ _ _) (by assumption) ?_))
  | ((with_reducible show wpAny _ _ (subscriptTail _ _ (Value.ref _) (Value.str _ _)) _ _ _); (refine c_item (k := Sum.inr _) (knd := ckKind _ _) (by k_asm) (DictL.mono (by assumption) (by kcj_all)) (ck_str _ _ _ _) (by assumption) ?_))
  | ((with_reducible show wpAny _ _ (subscriptTail _ _ (Value.ref _) (Value.str _ _)) _ _ _); (refine c_item (knd := strKind _ _) (by k_asm) (DictL.mono (by assumption) (by kcj_all)) (strKind_is _ _ _ _) (by rfl) ?_))))
local macro_rules | `(tactic| walk_at "call ref") => `(tactic| (k_here; (with_reducible show wpAny _ _ (PySem.call (Value.ref 232) _ _) _ _ _); k_dflt (refine' found_no_E ?B ?F ?X ?H ?T rfl ?XB ?TB ?un ?C ?hd ?_; (case B => k_asm); (case F => k_asm); (case X => k_asm); (case H => k_asm); (case T => k_asm); (case XB => assumption); (case TB => assumption); (case un => decide); (case C => exact ⟨⟨_, .head _, by assumption⟩, by assumption⟩); (case hd => assumption)); intro h' tk' l' n' t1' t2' F' H'; (try dsimp only)))
local macro_rules | `(tactic| walk_at "eval ListComp") => `(tactic| (k_here; (refine Stop.out ?_)))
local macro_rules | `(tactic| walk_at "call builtin:len") => `(tactic| (k_here; k_dflt (refine len_dictL (by k_asm) (DictL.mono (by assumption) (by kcj_all)) (by assumption) ?_)))
local macro_rules | `(tactic| k_mem) => `(tactic| assumption)
local macro_rules | `(tactic| walk_at "subscriptTail") => `(tactic| (k_here; (with_reducible show wpAny _ _ (subscriptTail _ _ (Value.ref 183) _) _ _ _); k_dflt (refine' names_item ?X ?h0 ?h1 ?_; (case X => k_in); (case h0 => omega); (case h1 => omega)); intro t'))
local macro_rules | `(tactic| walk_at "subscriptTail") => `(tactic| (k_here; (with_reducible show wpAny _ _ (subscriptTail _ _ (Value.ref 183) _) _ _ _); k_dflt (refine' names_item ?X ?h0 ?h1 ?_; (case X => k_in); (case h0 => exact fmod_lo _ (by decide)); (case h1 => exact fmod_hi _ (by decide))); intro t'))

theorem t8_stmt {w : World} {bx : Value} {D tl du : Addr} {tv dv : List Value} {tn dn : Nat} {u0 u1 u2 u3 u4 u5 : Option Value} {mean : ExcName → Option Value} {mg mb : Str → Option Value} {a ln c kp : Addr} {ccd : Value} {h₀ : Heap} {L : Addr} {s : Shared} {Q : Flow → Shared → Prop} {E : Value → Shared → Prop} {ws : List Value} {ns : List Int} {ok oc ot : Obj} {N : Led} {kvs kvs2 : List (CKey × Value)} {one two : Int} {t1 t2 t3 : Tok} {m0 : Str → Option Value}
  (B : Below callerA h₀ [] h₀) (X : (hd.heap_39 w.params).In h₀) (T : Top hd.view_39 LO mean mg mb h₀)
  (H : News h₀ L s.heap ((tl, listOf tv.toArray tn) :: (du, listOf dv.toArray dn) :: N)) (hok : (L + 1 + 1 + 1, ok) ∈ N) (hokd : ok.data = .cell (some (.ref kp))) (hoc : (L + 1 + 1, oc) ∈ N) (hocd : oc.data = .cell (some (.ref c))) (hot : (L + 1, ot) ∈ N) (hotd : ot.data = .cell (some (.int two t3)))
  (h20 : 0 ≤ two) (hln : (ln, listOf ws.toArray 0) ∈ N) (hi : IntsAre ws ns) (g6 : 6 ≤ ns.length) (g9 : ns.length ≤ 9) (h1 : one ∈ NAMES)
  (C : DictL (cK w) N c kvs) (C2 : DictL (cK w) N kp kvs2) (R : KvsRep w N kvs (cfgOf ns)) (R2 : KvsRep w N kvs2 (cfgOf ns)) (htv : ∃ z r, tv = .ref z :: r) (hdv : ∃ z r, dv = .ref z :: r) (htd : @Ne Nat tl du) (hoff : ∀ p ∈ N, @Ne Nat p.1 tl ∧ @Ne Nat p.1 du) (htl : tv.length ≤ 100) (hdl : dv.length ≤ 100)
  (F : Fr h₀ L s.heap (fun y => if y = Str.ofString "k" then u0 else if y = Str.ofString "did" then u1 else if y = Str.ofString "found" then u2 else if y = Str.ofString "number" then u3 else if y = Str.ofString "twin" then u4 else if y = Str.ofString "length" then u5 else if y = Str.ofString "due" then some (.ref du) else if y = Str.ofString "told" then some (.ref tl) else if y = Str.ofString "box" then some bx else if y = Str.ofString "rows" then some (.ref D) else if y = Str.ofString "one" then some (.int one t1) else if y = Str.ofString "first" then some (.int (absI (ns.getD 0 0)) t2) else if y = Str.ofString "numbers" then some (.ref ln) else m0 y))
  (hret : ∀ h' tk tn' own xv, Fr h₀ L h' (fun y => if y = Str.ofString "k" then u0 else if y = Str.ofString "did" then u1 else if y = Str.ofString "found" then u2 else if y = Str.ofString "number" then u3 else if y = Str.ofString "twin" then u4 else if y = Str.ofString "length" then u5 else if y = Str.ofString "due" then some (.ref du) else if y = Str.ofString "told" then some (.ref tl) else if y = Str.ofString "box" then some bx else if y = Str.ofString "rows" then some (.ref D) else if y = Str.ofString "one" then some (.int one t1) else if y = Str.ofString "first" then some (.int (absI (ns.getD 0 0)) t2) else if y = Str.ofString "numbers" then some (.ref ln) else m0 y) → News h₀ L h' ((tl, listOf (tv ++ [xv]).toArray tn') :: (du, listOf dv.toArray dn) :: (own ++ N)) → (∀ p ∈ own, @Ne Nat p.1 tl ∧ @Ne Nat p.1 du) →
    Rep w (own ++ N) xv (.list [.str (Str.ofString "refused"), .int one]) → Q .next { s with heap := h', toks := tk }) :
  wpAny (model PW w) (callerA.deeper (envOfC (Str.ofString "law") lawS L a ccd)) (exec (lawB.getD 8 (.Pass default)) (envOfC (Str.ofString "law") lawS L a ccd)) Q E s := by
  show wpAny _ (callerA.deeper (envOfC (Str.ofString "law") ⟨_, _, _, _, _⟩ L a ccd)) (exec (.Expr _ _) (envOfC (Str.ofString "law") ⟨_, _, _, _, _⟩ L a ccd)) _ _ _
  revert X
  unfold PW
  k_fill
  intro X
  k_steps
  rename_i d0 _ _ _ _ _ _ _ _ _ lt _ _ lf n' t1' t2' F5 N5
  have hR : RepAll w [] [Value.str (Str.ofString "refused") t1', Value.int one t2'] [.str (Str.ofString "refused"), .int one] := .cons (.str _ _) (.cons (.int _ _) .nil)
  have hm1 := flat_ne N5 (.head _) hR ⟨_, _, rfl⟩ (.tail _ (.tail _ (.head _))) htv
  have hm2 := flat_ne N5 (.head _) hR ⟨_, _, rfl⟩ (.tail _ (.tail _ (.tail _ (.head _)))) hdv
  refine append_led F5 N5 (.tail _ (.tail _ (.head _))) ((lf, listOf [Value.str (Str.ofString "refused") t1', Value.int one t2'].toArray n') :: (du, listOf dv.toArray dn) :: N) ?hR1 htl ?go1
  case hR1 =>
    intro p hp
    rcases List.mem_cons.mp hp with e | hp
    · rw [e]; exact ⟨.head _, hm1⟩
    rcases List.mem_cons.mp hp with e | hp
    · rw [e]; exact ⟨.tail _ (.tail _ (.tail _ (.head _))), Ne.symm htd⟩
    · exact ⟨.tail _ (.tail _ (.tail _ (.tail _ hp))), (hoff p hp).1⟩
  intro h6 F6 N6
  refine hret _ _ (tn + 1) [(lf, listOf [Value.str (Str.ofString "refused") t1', Value.int one t2'].toArray n')] (.ref lf) F6 (fun p hp => ?_) (fun p hp => ?_) (.list (.head _) hR.up)
  · rcases List.mem_cons.mp hp with e | hp
    · rw [e]; exact N6 _ (.head _)
    rcases List.mem_cons.mp hp with e | hp
    · rw [e]; exact N6 _ (.tail _ (.tail _ (.head _)))
    rcases List.mem_cons.mp hp with e | hp
    · rw [e]; exact N6 _ (.tail _ (.head _))
    · exact N6 _ (.tail _ (.tail _ (.tail _ hp)))
  · rw [List.mem_singleton.mp hp]; exact ⟨hm1, hm2⟩
theorem t9_stmt {w : World} {bx : Value} {D tl du : Addr} {tv dv : List Value} {tn dn : Nat} {u0 u1 u2 u3 u4 u5 : Option Value} {mean : ExcName → Option Value} {mg mb : Str → Option Value} {a ln c kp : Addr} {ccd : Value} {h₀ : Heap} {L : Addr} {s : Shared} {Q : Flow → Shared → Prop} {E : Value → Shared → Prop} {ws : List Value} {ns : List Int} {ok oc ot : Obj} {N : Led} {kvs kvs2 : List (CKey × Value)} {one two : Int} {t1 t2 t3 : Tok} {m0 : Str → Option Value}
  (B : Below callerA h₀ [] h₀) (X : (hd.heap_39 w.params).In h₀) (T : Top hd.view_39 LO mean mg mb h₀)
  (H : News h₀ L s.heap ((tl, listOf tv.toArray tn) :: (du, listOf dv.toArray dn) :: N)) (hok : (L + 1 + 1 + 1, ok) ∈ N) (hokd : ok.data = .cell (some (.ref kp))) (hoc : (L + 1 + 1, oc) ∈ N) (hocd : oc.data = .cell (some (.ref c))) (hot : (L + 1, ot) ∈ N) (hotd : ot.data = .cell (some (.int two t3)))
  (h20 : 0 ≤ two) (hln : (ln, listOf ws.toArray 0) ∈ N) (hi : IntsAre ws ns) (g6 : 6 ≤ ns.length) (g9 : ns.length ≤ 9) (h1 : one ∈ NAMES)
  (C : DictL (cK w) N c kvs) (C2 : DictL (cK w) N kp kvs2) (R : KvsRep w N kvs (cfgOf ns)) (R2 : KvsRep w N kvs2 (cfgOf ns)) (htv : ∃ z r, tv = .ref z :: r) (hdv : ∃ z r, dv = .ref z :: r) (htd : @Ne Nat tl du) (hoff : ∀ p ∈ N, @Ne Nat p.1 tl ∧ @Ne Nat p.1 du) (htl : tv.length ≤ 100) (hdl : dv.length ≤ 100)
  (F : Fr h₀ L s.heap (fun y => if y = Str.ofString "k" then u0 else if y = Str.ofString "did" then u1 else if y = Str.ofString "found" then u2 else if y = Str.ofString "number" then u3 else if y = Str.ofString "twin" then u4 else if y = Str.ofString "length" then u5 else if y = Str.ofString "due" then some (.ref du) else if y = Str.ofString "told" then some (.ref tl) else if y = Str.ofString "box" then some bx else if y = Str.ofString "rows" then some (.ref D) else if y = Str.ofString "one" then some (.int one t1) else if y = Str.ofString "first" then some (.int (absI (ns.getD 0 0)) t2) else if y = Str.ofString "numbers" then some (.ref ln) else m0 y))
  (hret : ∀ h' tk dn' own xv, Fr h₀ L h' (fun y => if y = Str.ofString "k" then u0 else if y = Str.ofString "did" then u1 else if y = Str.ofString "found" then u2 else if y = Str.ofString "number" then u3 else if y = Str.ofString "twin" then u4 else if y = Str.ofString "length" then u5 else if y = Str.ofString "due" then some (.ref du) else if y = Str.ofString "told" then some (.ref tl) else if y = Str.ofString "box" then some bx else if y = Str.ofString "rows" then some (.ref D) else if y = Str.ofString "one" then some (.int one t1) else if y = Str.ofString "first" then some (.int (absI (ns.getD 0 0)) t2) else if y = Str.ofString "numbers" then some (.ref ln) else m0 y) → News h₀ L h' ((tl, listOf tv.toArray tn) :: (du, listOf (dv ++ [xv]).toArray dn') :: (own ++ N)) → (∀ p ∈ own, @Ne Nat p.1 tl ∧ @Ne Nat p.1 du) →
    Rep w (own ++ N) xv (.list [.str (Str.ofString "refused"), .int one]) → Q .next { s with heap := h', toks := tk }) :
  wpAny (model PW w) (callerA.deeper (envOfC (Str.ofString "law") lawS L a ccd)) (exec (lawB.getD 9 (.Pass default)) (envOfC (Str.ofString "law") lawS L a ccd)) Q E s := by
  show wpAny _ (callerA.deeper (envOfC (Str.ofString "law") ⟨_, _, _, _, _⟩ L a ccd)) (exec (.Expr _ _) (envOfC (Str.ofString "law") ⟨_, _, _, _, _⟩ L a ccd)) _ _ _
  revert X
  unfold PW
  k_fill
  intro X
  k_steps
  rename_i lf _ F5 N5 lt
  obtain ⟨c1, c2, c3⟩ := lt
  obtain ⟨ov, N5', hS⟩ := obtain_led (w := w) (vs := [_, _]) (ds := [.str (Str.ofString "refused"), .int one]) N5 (.cons (.str _ _) (.cons (.int _ _) .nil))
  clear N5
  refine append_led F5 N5' (.tail _ (.tail _ (.head _))) ((lf, listOf ov.toArray 0) :: (tl, listOf tv.toArray tn) :: N) (fun p hp => ?hR2) hdl ?go2
  case hR2 =>
    rcases List.mem_cons.mp hp with e | hp
    · rw [e]; exact ⟨.head _, Nat.ne_of_gt c2⟩
    rcases List.mem_cons.mp hp with e | hp
    · rw [e]; exact ⟨.tail _ (.head _), htd⟩
    · exact ⟨.tail _ (.tail _ (.tail _ hp)), (hoff p hp).2⟩
  intro h6 F6 N6
  refine hret _ _ (dn + 1) [(lf, listOf ov.toArray 0)] (.ref lf) F6 (fun p hp => ?_) (fun p hp => ?_) (.list (.head _) hS.out.up)
  · rcases List.mem_cons.mp hp with e | hp
    · rw [e]; exact N6 _ (.tail _ (.tail _ (.head _)))
    rcases List.mem_cons.mp hp with e | hp
    · rw [e]; exact N6 _ (.head _)
    rcases List.mem_cons.mp hp with e | hp
    · rw [e]; exact N6 _ (.tail _ (.head _))
    · exact N6 _ (.tail _ (.tail _ (.tail _ hp)))
  · rw [List.mem_singleton.mp hp]; exact ⟨Nat.ne_of_gt c1, Nat.ne_of_gt c2⟩
end Mine
namespace Mine
local macro_rules | `(tactic| walk_at "zz0") => `(tactic| fail "zz")
local macro_rules | `(tactic| walk_at "zz1") => `(tactic| fail "zz")
local macro_rules | `(tactic| walk_at "zz2") => `(tactic| fail "zz")
local macro_rules | `(tactic| walk_at "zz3") => `(tactic| fail "zz")
local macro_rules | `(tactic| walk_at "zz4") => `(tactic| fail "zz")
local macro_rules | `(tactic| walk_at "zz5") => `(tactic| fail "zz")
local macro_rules | `(tactic| walk_at "zz6") => `(tactic| fail "zz")
local macro_rules | `(tactic| walk_at "zz7") => `(tactic| fail "zz")
local macro_rules | `(tactic| walk_at "zz8") => `(tactic| fail "zz")
local macro_rules | `(tactic| walk_at "zz9") => `(tactic| fail "zz")
local macro_rules | `(tactic| walk_at "zz10") => `(tactic| fail "zz")
local macro_rules | `(tactic| walk_at "zz11") => `(tactic| fail "zz")
local macro_rules | `(tactic| walk_at "zz12") => `(tactic| fail "zz")
local macro_rules | `(tactic| walk_at "zz13") => `(tactic| fail "zz")
local macro_rules | `(tactic| walk_at "zz14") => `(tactic| fail "zz")
local macro_rules | `(tactic| walk_at "zz15") => `(tactic| fail "zz")
local macro_rules | `(tactic| walk_at "zz16") => `(tactic| fail "zz")
local macro_rules | `(tactic| walk_at "zz17") => `(tactic| fail "zz")
local macro_rules | `(tactic| walk_at "zz18") => `(tactic| fail "zz")
theorem off_FEt10 : True := by
  w_top off
  trivial
local macro_rules | `(tactic| k_mem) => `(tactic| assumption)
local macro_rules | `(tactic| walk_at "compareOp In str ref") => `(tactic| (k_here; first
  | (refine c_in (k := Sum.inr _) (knd := ckKind _ _) (by k_asm) (DictL.mono (by assumption) (by kcj_all)) (ck_str _ _ _ _) (by assumption) ?_)
  | (refine c_in (b := true) (knd := strKind _ _) (by k_asm) (DictL.mono (by assumption) (by kcj_all)) (strKind_is _ _ _ _) (by rfl) ?_)
  | (refine c_in (b := false) (knd := strKind _ _) (by k_asm) (DictL.mono (by assumption) (by kcj_all)) (strKind_is _ _ _ _) (by rfl) ?_)))
local macro_rules | `(tactic| walk_at "compareOp NotIn str ref") => `(tactic| (k_here; refine c_notin (k := Sum.inr _) (knd := ckKind _ _) (by k_asm) (DictL.mono (by assumption) (by kcj_all)) (ck_str _ _ _ _) (by assumption) ?_))
local macro_rules | `(tactic| walk_at "compareOp In int ref") => `(tactic| (k_here; refine c_in (k := Sum.inl _) (knd := ckKind _ _) (by k_asm) (DictL.mono (by assumption) (by kcj_all)) (ck_int _ _ _ _) (by assumption) ?_))
local macro_rules | `(tactic| walk_at "compareOp NotIn int ref") => `(tactic| (k_here; refine c_notin (k := Sum.inl _) (knd := ckKind _ _) (by k_asm) (DictL.mono (by assumption) (by kcj_all)) (ck_int _ _ _ _) (by assumption) ?_))
local macro_rules | `(tactic| walk_at "subscriptTail") => `(tactic| (k_here; first
  | ((with_reducible show wpAny _ _ (subscriptTail _ _ (Value.ref _) (Value.int _ _)) _ _ _); (refine c_item (k := Sum.inl _) (knd := ckKind _ _) (by k_asm) (DictL.mono (by assumption) (by kcj_all)) (ck_int _ _ _ _) (by assumption) ?_))
  | ((with_reducible show wpAny _ _ (subscriptTail _ _ (Value.ref _) (Value.str _ _)) _ _ _); (refine c_item (k := Sum.inr _) (knd := ckKind _ _) (by k_asm) (DictL.mono (by assumption) (by kcj_all)) (ck_str _ _ _ _) (by assumption) ?_))
  | ((with_reducible show wpAny _ _ (subscriptTail _ _ (Value.ref _) (Value.str _ _)) _ _ _); (refine c_item (knd := strKind _ _) (by k_asm) (DictL.mono (by assumption) (by kcj_all)) (strKind_is _ _ _ _) (by rfl) ?_))))
local macro_rules | `(tactic| walk_at "call ref") => `(tactic| (k_here; (with_reducible show wpAny _ _ (PySem.call (Value.ref 232) _ _) _ _ _); k_dflt (refine' found_no_E ?B ?F ?X ?H ?T rfl ?XB ?TB ?un ?C ?hd ?_; (case B => k_asm); (case F => k_asm); (case X => k_asm); (case H => k_asm); (case T => k_asm); (case XB => assumption); (case TB => assumption); (case un => decide); (case C => exact ⟨⟨_, .head _, by assumption⟩, by assumption⟩); (case hd => assumption)); intro h' tk' l' n' t1' t2' F' H'; (try dsimp only)))
local macro_rules | `(tactic| walk_at "eval ListComp") => `(tactic| (k_here; (refine Stop.out ?_)))
local macro_rules | `(tactic| walk_at "call builtin:len") => `(tactic| (k_here; k_dflt (refine len_dictL (by k_asm) (DictL.mono (by assumption) (by kcj_all)) (by assumption) ?_)))
local macro_rules | `(tactic| k_mem) => `(tactic| assumption)
local macro_rules | `(tactic| walk_at "subscriptTail") => `(tactic| (k_here; (with_reducible show wpAny _ _ (subscriptTail _ _ (Value.ref 183) _) _ _ _); k_dflt (refine' names_item ?X ?h0 ?h1 ?_; (case X => k_in); (case h0 => omega); (case h1 => omega)); intro t'))
local macro_rules | `(tactic| walk_at "subscriptTail") => `(tactic| (k_here; (with_reducible show wpAny _ _ (subscriptTail _ _ (Value.ref 183) _) _ _ _); k_dflt (refine' names_item ?X ?h0 ?h1 ?_; (case X => k_in); (case h0 => exact fmod_lo _ (by decide)); (case h1 => exact fmod_hi _ (by decide))); intro t'))

theorem t10_stmt {bd : Bool} {w : World} {bx : Value} {D tl du : Addr} {tv dv : List Value} {tn dn : Nat} {u0 u1 u2 u3 u4 u5 : Option Value} {mean : ExcName → Option Value} {mg mb : Str → Option Value} {a ln c kp : Addr} {ccd : Value} {h₀ : Heap} {L : Addr} {s : Shared} {Q : Flow → Shared → Prop} {E : Value → Shared → Prop} {ws : List Value} {ns : List Int} {ok oc ot : Obj} {N : Led} {kvs kvs2 : List (CKey × Value)} {one two : Int} {t1 t2 t3 : Tok} {m0 : Str → Option Value}
  (B : Below callerA h₀ [] h₀) (X : (hd.heap_39 w.params).In h₀) (T : Top hd.view_39 LO mean mg mb h₀)
  (H : News h₀ L s.heap ((tl, listOf tv.toArray tn) :: (du, listOf dv.toArray dn) :: N)) (hok : (L + 1 + 1 + 1, ok) ∈ N) (hokd : ok.data = .cell (some (.ref kp))) (hoc : (L + 1 + 1, oc) ∈ N) (hocd : oc.data = .cell (some (.ref c))) (hot : (L + 1, ot) ∈ N) (hotd : ot.data = .cell (some (.int two t3)))
  (h20 : 0 ≤ two) (hln : (ln, listOf ws.toArray 0) ∈ N) (hi : IntsAre ws ns) (g6 : 6 ≤ ns.length) (g9 : ns.length ≤ 9) (h1 : one ∈ NAMES)
  (C : DictL (cK w) N c kvs) (C2 : DictL (cK w) N kp kvs2) (R : KvsRep w N kvs (cfgOf ns)) (R2 : KvsRep w N kvs2 (cfgOf ns)) (htv : ∃ z r, tv = .ref z :: r) (hdv : ∃ z r, dv = .ref z :: r) (htd : @Ne Nat tl du) (hoff : ∀ p ∈ N, @Ne Nat p.1 tl ∧ @Ne Nat p.1 du) (htl : tv.length ≤ 100) (hdl : dv.length ≤ 100)
  (hbd : (valueAt kvs kDef).isSome = bd) (hkl : kvs.length ≤ 100)
  (F : Fr h₀ L s.heap (fun y => if y = Str.ofString "k" then u0 else if y = Str.ofString "did" then u1 else if y = Str.ofString "found" then u2 else if y = Str.ofString "number" then u3 else if y = Str.ofString "twin" then u4 else if y = Str.ofString "length" then u5 else if y = Str.ofString "due" then some (.ref du) else if y = Str.ofString "told" then some (.ref tl) else if y = Str.ofString "box" then some bx else if y = Str.ofString "rows" then some (.ref D) else if y = Str.ofString "one" then some (.int one t1) else if y = Str.ofString "first" then some (.int (absI (ns.getD 0 0)) t2) else if y = Str.ofString "numbers" then some (.ref ln) else m0 y))
  (hret : ∀ h' tk tn' own xv, Fr h₀ L h' (fun y => if y = Str.ofString "k" then u0 else if y = Str.ofString "did" then u1 else if y = Str.ofString "found" then u2 else if y = Str.ofString "number" then u3 else if y = Str.ofString "twin" then u4 else if y = Str.ofString "length" then u5 else if y = Str.ofString "due" then some (.ref du) else if y = Str.ofString "told" then some (.ref tl) else if y = Str.ofString "box" then some bx else if y = Str.ofString "rows" then some (.ref D) else if y = Str.ofString "one" then some (.int one t1) else if y = Str.ofString "first" then some (.int (absI (ns.getD 0 0)) t2) else if y = Str.ofString "numbers" then some (.ref ln) else m0 y) → News h₀ L h' ((tl, listOf (tv ++ [xv]).toArray tn') :: (du, listOf dv.toArray dn) :: (own ++ N)) → (∀ p ∈ own, @Ne Nat p.1 tl ∧ @Ne Nat p.1 du) →
    Rep w (own ++ N) xv (.list [.bool bd, .list ((NAMES.filter fun d => (valueAt kvs (.inl d)).isSome).map .int), .int kvs.length]) → Q .next { s with heap := h', toks := tk }) :
  wpAny (model PW w) (callerA.deeper (envOfC (Str.ofString "law") lawS L a ccd)) (exec (lawB.getD 10 (.Pass default)) (envOfC (Str.ofString "law") lawS L a ccd)) Q E s := by
  show wpAny _ (callerA.deeper (envOfC (Str.ofString "law") ⟨_, _, _, _, _⟩ L a ccd)) (exec (.Expr _ _) (envOfC (Str.ofString "law") ⟨_, _, _, _, _⟩ L a ccd)) _ _ _
  revert X
  unfold PW
  k_fill
  intro X
  k_steps
  refine Stop.mk ?_
  refine ListComp_DCn (h₀ := h₀) (L := L) (m := fun y => if y = Str.ofString "k" then u0 else if y = Str.ofString "did" then u1 else if y = Str.ofString "found" then u2 else if y = Str.ofString "number" then u3 else if y = Str.ofString "twin" then u4 else if y = Str.ofString "length" then u5 else if y = Str.ofString "due" then some (.ref du) else if y = Str.ofString "told" then some (.ref tl) else if y = Str.ofString "box" then some bx else if y = Str.ofString "rows" then some (.ref D) else if y = Str.ofString "one" then some (.int one t1) else if y = Str.ofString "first" then some (.int (absI (ns.getD 0 0)) t2) else if y = Str.ofString "numbers" then some (.ref ln) else m0 y) (K := ItemKind.int) (pz := fun d => (valueAt kvs (.inl d)).isSome) (d := PyData.int) rfl (by with_unfolding_all rfl) (by decide) (by rfl) (by decide) (by rfl) ?_ (by intro _; rfl)
  walk1
  obtain ⟨vs, hl, hin, _⟩ := names_at (X.keeps F.keep)
  refine ⟨(tl, listOf tv.toArray tn) :: (du, listOf dv.toArray dn) :: N, 183, vs, NAMES, rfl, hl, hin.areOf, by decide, F, H, ?t, ?e, ?c⟩
  case t =>
    intro C' d v s₂ m₂ E' hC ha hv hns hm hk
    obtain ⟨t, rfl⟩ := hv
    cases hb : (valueAt kvs (.inl d)).isSome with
    | true =>
      k_steps
      exact ⟨_, _, rfl, fun _ _ e => e⟩
    | false =>
      k_steps
      exact ⟨_, _, rfl, fun _ _ e => e⟩
  case e =>
    intro C' d v s₂ m₂ E' hC ha hv hpz hns hm hk
    obtain ⟨t, rfl⟩ := hv
    k_steps
    · exact .int _ _
    · exact ⟨_, _, rfl, fun _ _ e => e⟩
  case c =>
    intro D' ys h' tk F' H' hn hl' hp hc
    obtain ⟨⟨n8, hg⟩, hne⟩ := hp
    have N8 : News h₀ L h' ((D', listOf ys.toArray n8) :: (tl, listOf tv.toArray tn) :: (du, listOf dv.toArray dn) :: N) := by
      intro p hp'
      rcases List.mem_cons.mp hp' with e | hp'
      · rw [e]; exact ⟨hg, NewPlain.ne_locals ⟨⟨n8, hg⟩, hne⟩ F', hn⟩
      · exact H' p hp'
    have hRS : Stop (RepAll w [] ys ((NAMES.filter fun d => (valueAt kvs (.inl d)).isSome).map Dd.int)) := ⟨ints_rep hc⟩
    clear hc H' hg hl' hl hin F H
    k_steps
    rename_i lf _ F5 N5 lt
    obtain ⟨c0, c1, c2, c3⟩ := lt
    have dt : @Ne Nat D' tl := Ne.symm (hne _ (.head _))
    have dd' : @Ne Nat D' du := Ne.symm (hne _ (.tail _ (.head _)))
    obtain ⟨ov, N5', hS⟩ : ∃ ov : List Value, News h₀ L _ ((lf, listOf ov.toArray 0) :: (D', listOf ys.toArray n8) :: (tl, listOf tv.toArray tn) :: (du, listOf dv.toArray dn) :: N) ∧ Stop (∀ N' : Led, (D', listOf ys.toArray n8) ∈ N' → RepAll w N' ov [.bool bd, .list ((NAMES.filter fun d => (valueAt kvs (.inl d)).isSome).map Dd.int), .int kvs.length]) :=
      ⟨[_, _, _], N5, ⟨fun N' hm => .cons (.bool _) (.cons (.list hm hRS.out.up) (.cons (.int _ _) .nil))⟩⟩
    clear N5
    refine append_led F5 N5' (.tail _ (.tail _ (.head _))) ((lf, listOf ov.toArray 0) :: (D', listOf ys.toArray n8) :: (du, listOf dv.toArray dn) :: N) (fun p hp => ?hR2) htl ?go2
    case hR2 =>
      rcases List.mem_cons.mp hp with e | hp
      · rw [e]; exact ⟨.head _, Nat.ne_of_gt c1⟩
      rcases List.mem_cons.mp hp with e | hp
      · rw [e]; exact ⟨.tail _ (.head _), dt⟩
      rcases List.mem_cons.mp hp with e | hp
      · rw [e]; exact ⟨.tail _ (.tail _ (.tail _ (.head _))), Ne.symm htd⟩
      · exact ⟨.tail _ (.tail _ (.tail _ (.tail _ hp))), (hoff p hp).1⟩
    intro h6 F6 N6
    refine hret _ _ (tn + 1) [(lf, listOf ov.toArray 0), (D', listOf ys.toArray n8)] (.ref lf) F6 (fun p hp => ?_) (fun p hp => ?_) (.list (.head _) (hS.out _ (.tail _ (.head _))))
    · rcases List.mem_cons.mp hp with e | hp
      · rw [e]; exact N6 _ (.head _)
      rcases List.mem_cons.mp hp with e | hp
      · rw [e]; exact N6 _ (.tail _ (.tail _ (.tail _ (.head _))))
      rcases List.mem_cons.mp hp with e | hp
      · rw [e]; exact N6 _ (.tail _ (.head _))
      rcases List.mem_cons.mp hp with e | hp
      · rw [e]; exact N6 _ (.tail _ (.tail _ (.head _)))
      · exact N6 _ (.tail _ (.tail _ (.tail _ (.tail _ hp))))
    · rcases List.mem_cons.mp hp with e | hp
      · rw [e]; exact ⟨Nat.ne_of_gt c1, Nat.ne_of_gt c2⟩
      · rw [List.mem_singleton.mp hp]; exact ⟨dt, dd'⟩
end Mine
namespace Mine
local macro_rules | `(tactic| walk_at "zz0") => `(tactic| fail "zz")
local macro_rules | `(tactic| walk_at "zz1") => `(tactic| fail "zz")
local macro_rules | `(tactic| walk_at "zz2") => `(tactic| fail "zz")
local macro_rules | `(tactic| walk_at "zz3") => `(tactic| fail "zz")
local macro_rules | `(tactic| walk_at "zz4") => `(tactic| fail "zz")
local macro_rules | `(tactic| walk_at "zz5") => `(tactic| fail "zz")
local macro_rules | `(tactic| walk_at "zz6") => `(tactic| fail "zz")
local macro_rules | `(tactic| walk_at "zz7") => `(tactic| fail "zz")
local macro_rules | `(tactic| walk_at "zz8") => `(tactic| fail "zz")
local macro_rules | `(tactic| walk_at "zz9") => `(tactic| fail "zz")
local macro_rules | `(tactic| walk_at "zz10") => `(tactic| fail "zz")
local macro_rules | `(tactic| walk_at "zz11") => `(tactic| fail "zz")
local macro_rules | `(tactic| walk_at "zz12") => `(tactic| fail "zz")
local macro_rules | `(tactic| walk_at "zz13") => `(tactic| fail "zz")
local macro_rules | `(tactic| walk_at "zz14") => `(tactic| fail "zz")
local macro_rules | `(tactic| walk_at "zz15") => `(tactic| fail "zz")
local macro_rules | `(tactic| walk_at "zz16") => `(tactic| fail "zz")
local macro_rules | `(tactic| walk_at "zz17") => `(tactic| fail "zz")
local macro_rules | `(tactic| walk_at "zz18") => `(tactic| fail "zz")
local macro_rules | `(tactic| walk_at "zz19") => `(tactic| fail "zz")
theorem off_FEt11 : True := by
  w_top off
  trivial
local macro_rules | `(tactic| k_mem) => `(tactic| assumption)
local macro_rules | `(tactic| walk_at "compareOp In str ref") => `(tactic| (k_here; first
  | (refine c_in (k := Sum.inr _) (knd := ckKind _ _) (by k_asm) (DictL.mono (by assumption) (by kcj_all)) (ck_str _ _ _ _) (by assumption) ?_)
  | (refine c_in (b := true) (knd := strKind _ _) (by k_asm) (DictL.mono (by assumption) (by kcj_all)) (strKind_is _ _ _ _) (by rfl) ?_)
  | (refine c_in (b := false) (knd := strKind _ _) (by k_asm) (DictL.mono (by assumption) (by kcj_all)) (strKind_is _ _ _ _) (by rfl) ?_)))
local macro_rules | `(tactic| walk_at "compareOp NotIn str ref") => `(tactic| (k_here; refine c_notin (k := Sum.inr _) (knd := ckKind _ _) (by k_asm) (DictL.mono (by assumption) (by kcj_all)) (ck_str _ _ _ _) (by assumption) ?_))
local macro_rules | `(tactic| walk_at "compareOp In int ref") => `(tactic| (k_here; refine c_in (k := Sum.inl _) (knd := ckKind _ _) (by k_asm) (DictL.mono (by assumption) (by kcj_all)) (ck_int _ _ _ _) (by assumption) ?_))
local macro_rules | `(tactic| walk_at "compareOp NotIn int ref") => `(tactic| (k_here; refine c_notin (k := Sum.inl _) (knd := ckKind _ _) (by k_asm) (DictL.mono (by assumption) (by kcj_all)) (ck_int _ _ _ _) (by assumption) ?_))
local macro_rules | `(tactic| walk_at "subscriptTail") => `(tactic| (k_here; first
  | ((with_reducible show wpAny _ _ (subscriptTail _ _ (Value.ref _) (Value.int _ _)) _ _ _); (refine c_item (k := Sum.inl _) (knd := ckKind _ _) (by k_asm) (DictL.mono (by assumption) (by kcj_all)) (ck_int _ _ _ _) (by assumption) ?_))
  | ((with_reducible show wpAny _ _ (subscriptTail _ _ (Value.ref _) (Value.str _ _)) _ _ _); (refine c_item (k := Sum.inr _) (knd := ckKind _ _) (by k_asm) (DictL.mono (by assumption) (by kcj_all)) (ck_str _ _ _ _) (by assumption) ?_))
  | ((with_reducible show wpAny _ _ (subscriptTail _ _ (Value.ref _) (Value.str _ _)) _ _ _); (refine c_item (knd := strKind _ _) (by k_asm) (DictL.mono (by assumption) (by kcj_all)) (strKind_is _ _ _ _) (by rfl) ?_))))
local macro_rules | `(tactic| walk_at "call ref") => `(tactic| (k_here; (with_reducible show wpAny _ _ (PySem.call (Value.ref 232) _ _) _ _ _); k_dflt (refine' found_no_E ?B ?F ?X ?H ?T rfl ?XB ?TB ?un ?C ?hd ?_; (case B => k_asm); (case F => k_asm); (case X => k_asm); (case H => k_asm); (case T => k_asm); (case XB => assumption); (case TB => assumption); (case un => decide); (case C => exact ⟨⟨_, .head _, by assumption⟩, by assumption⟩); (case hd => assumption)); intro h' tk' l' n' t1' t2' F' H'; (try dsimp only)))
local macro_rules | `(tactic| walk_at "eval ListComp") => `(tactic| (k_here; (refine Stop.out ?_)))
local macro_rules | `(tactic| walk_at "call builtin:len") => `(tactic| (k_here; k_dflt (refine len_dictL (by k_asm) (DictL.mono (by assumption) (by kcj_all)) (by assumption) ?_)))
local macro_rules | `(tactic| k_mem) => `(tactic| assumption)
local macro_rules | `(tactic| walk_at "subscriptTail") => `(tactic| (k_here; (with_reducible show wpAny _ _ (subscriptTail _ _ (Value.ref 183) _) _ _ _); k_dflt (refine' names_item ?X ?h0 ?h1 ?_; (case X => k_in); (case h0 => omega); (case h1 => omega)); intro t'))
local macro_rules | `(tactic| walk_at "subscriptTail") => `(tactic| (k_here; (with_reducible show wpAny _ _ (subscriptTail _ _ (Value.ref 183) _) _ _ _); k_dflt (refine' names_item ?X ?h0 ?h1 ?_; (case X => k_in); (case h0 => exact fmod_lo _ (by decide)); (case h1 => exact fmod_hi _ (by decide))); intro t'))

theorem t11_stmt {bd : Bool} {w : World} {bx : Value} {D tl du : Addr} {tv dv : List Value} {tn dn : Nat} {u0 u1 u2 u3 u4 u5 : Option Value} {mean : ExcName → Option Value} {mg mb : Str → Option Value} {a ln c kp : Addr} {ccd : Value} {h₀ : Heap} {L : Addr} {s : Shared} {Q : Flow → Shared → Prop} {E : Value → Shared → Prop} {ws : List Value} {ns : List Int} {ok oc ot : Obj} {N : Led} {kvs kvs2 : List (CKey × Value)} {one two : Int} {t1 t2 t3 : Tok} {m0 : Str → Option Value}
  (B : Below callerA h₀ [] h₀) (X : (hd.heap_39 w.params).In h₀) (T : Top hd.view_39 LO mean mg mb h₀)
  (H : News h₀ L s.heap ((tl, listOf tv.toArray tn) :: (du, listOf dv.toArray dn) :: N)) (hok : (L + 1 + 1 + 1, ok) ∈ N) (hokd : ok.data = .cell (some (.ref kp))) (hoc : (L + 1 + 1, oc) ∈ N) (hocd : oc.data = .cell (some (.ref c))) (hot : (L + 1, ot) ∈ N) (hotd : ot.data = .cell (some (.int two t3)))
  (h20 : 0 ≤ two) (hln : (ln, listOf ws.toArray 0) ∈ N) (hi : IntsAre ws ns) (g6 : 6 ≤ ns.length) (g9 : ns.length ≤ 9) (h1 : one ∈ NAMES)
  (C : DictL (cK w) N c kvs) (C2 : DictL (cK w) N kp kvs2) (R : KvsRep w N kvs (cfgOf ns)) (R2 : KvsRep w N kvs2 (cfgOf ns)) (htv : ∃ z r, tv = .ref z :: r) (hdv : ∃ z r, dv = .ref z :: r) (htd : @Ne Nat tl du) (hoff : ∀ p ∈ N, @Ne Nat p.1 tl ∧ @Ne Nat p.1 du) (htl : tv.length ≤ 100) (hdl : dv.length ≤ 100)
  (hbd : (valueAt kvs2 kDef).isSome = bd) (hkl : kvs2.length ≤ 100)
  (F : Fr h₀ L s.heap (fun y => if y = Str.ofString "k" then u0 else if y = Str.ofString "did" then u1 else if y = Str.ofString "found" then u2 else if y = Str.ofString "number" then u3 else if y = Str.ofString "twin" then u4 else if y = Str.ofString "length" then u5 else if y = Str.ofString "due" then some (.ref du) else if y = Str.ofString "told" then some (.ref tl) else if y = Str.ofString "box" then some bx else if y = Str.ofString "rows" then some (.ref D) else if y = Str.ofString "one" then some (.int one t1) else if y = Str.ofString "first" then some (.int (absI (ns.getD 0 0)) t2) else if y = Str.ofString "numbers" then some (.ref ln) else m0 y))
  (hret : ∀ h' tk dn' own xv, Fr h₀ L h' (fun y => if y = Str.ofString "k" then u0 else if y = Str.ofString "did" then u1 else if y = Str.ofString "found" then u2 else if y = Str.ofString "number" then u3 else if y = Str.ofString "twin" then u4 else if y = Str.ofString "length" then u5 else if y = Str.ofString "due" then some (.ref du) else if y = Str.ofString "told" then some (.ref tl) else if y = Str.ofString "box" then some bx else if y = Str.ofString "rows" then some (.ref D) else if y = Str.ofString "one" then some (.int one t1) else if y = Str.ofString "first" then some (.int (absI (ns.getD 0 0)) t2) else if y = Str.ofString "numbers" then some (.ref ln) else m0 y) → News h₀ L h' ((tl, listOf tv.toArray tn) :: (du, listOf (dv ++ [xv]).toArray dn') :: (own ++ N)) → (∀ p ∈ own, @Ne Nat p.1 tl ∧ @Ne Nat p.1 du) →
    Rep w (own ++ N) xv (.list [.bool bd, .list ((NAMES.filter fun d => (valueAt kvs2 (.inl d)).isSome).map .int), .int kvs2.length]) → Q .next { s with heap := h', toks := tk }) :
  wpAny (model PW w) (callerA.deeper (envOfC (Str.ofString "law") lawS L a ccd)) (exec (lawB.getD 11 (.Pass default)) (envOfC (Str.ofString "law") lawS L a ccd)) Q E s := by
  show wpAny _ (callerA.deeper (envOfC (Str.ofString "law") ⟨_, _, _, _, _⟩ L a ccd)) (exec (.Expr _ _) (envOfC (Str.ofString "law") ⟨_, _, _, _, _⟩ L a ccd)) _ _ _
  revert X
  unfold PW
  k_fill
  intro X
  k_steps
  refine Stop.mk ?_
  refine ListComp_DCn (h₀ := h₀) (L := L) (m := fun y => if y = Str.ofString "k" then u0 else if y = Str.ofString "did" then u1 else if y = Str.ofString "found" then u2 else if y = Str.ofString "number" then u3 else if y = Str.ofString "twin" then u4 else if y = Str.ofString "length" then u5 else if y = Str.ofString "due" then some (.ref du) else if y = Str.ofString "told" then some (.ref tl) else if y = Str.ofString "box" then some bx else if y = Str.ofString "rows" then some (.ref D) else if y = Str.ofString "one" then some (.int one t1) else if y = Str.ofString "first" then some (.int (absI (ns.getD 0 0)) t2) else if y = Str.ofString "numbers" then some (.ref ln) else m0 y) (K := ItemKind.int) (pz := fun d => (valueAt kvs2 (.inl d)).isSome) (d := PyData.int) rfl (by with_unfolding_all rfl) (by decide) (by rfl) (by decide) (by rfl) ?_ (by intro _; rfl)
  walk1
  obtain ⟨vs, hl, hin, _⟩ := names_at (X.keeps F.keep)
  refine ⟨(tl, listOf tv.toArray tn) :: (du, listOf dv.toArray dn) :: N, 183, vs, NAMES, rfl, hl, hin.areOf, by decide, F, H, ?t, ?e, ?c⟩
  case t =>
    intro C' d v s₂ m₂ E' hC ha hv hns hm hk
    obtain ⟨t, rfl⟩ := hv
    cases hb : (valueAt kvs2 (.inl d)).isSome with
    | true =>
      k_steps
      exact ⟨_, _, rfl, fun _ _ e => e⟩
    | false =>
      k_steps
      exact ⟨_, _, rfl, fun _ _ e => e⟩
  case e =>
    intro C' d v s₂ m₂ E' hC ha hv hpz hns hm hk
    obtain ⟨t, rfl⟩ := hv
    k_steps
    · exact .int _ _
    · exact ⟨_, _, rfl, fun _ _ e => e⟩
  case c =>
    intro D' ys h' tk F' H' hn hl' hp hc
    obtain ⟨⟨n8, hg⟩, hne⟩ := hp
    have N8 : News h₀ L h' ((D', listOf ys.toArray n8) :: (tl, listOf tv.toArray tn) :: (du, listOf dv.toArray dn) :: N) := by
      intro p hp'
      rcases List.mem_cons.mp hp' with e | hp'
      · rw [e]; exact ⟨hg, NewPlain.ne_locals ⟨⟨n8, hg⟩, hne⟩ F', hn⟩
      · exact H' p hp'
    have hRS : Stop (RepAll w [] ys ((NAMES.filter fun d => (valueAt kvs2 (.inl d)).isSome).map Dd.int)) := ⟨ints_rep hc⟩
    clear hc H' hg hl' hl hin F H
    k_steps
    rename_i lf _ F5 N5 lt
    obtain ⟨c0, c1, c2, c3⟩ := lt
    have dt : @Ne Nat D' tl := Ne.symm (hne _ (.head _))
    have dd' : @Ne Nat D' du := Ne.symm (hne _ (.tail _ (.head _)))
    obtain ⟨ov, N5', hS⟩ : ∃ ov : List Value, News h₀ L _ ((lf, listOf ov.toArray 0) :: (D', listOf ys.toArray n8) :: (tl, listOf tv.toArray tn) :: (du, listOf dv.toArray dn) :: N) ∧ Stop (∀ N' : Led, (D', listOf ys.toArray n8) ∈ N' → RepAll w N' ov [.bool bd, .list ((NAMES.filter fun d => (valueAt kvs2 (.inl d)).isSome).map Dd.int), .int kvs2.length]) :=
      ⟨[_, _, _], N5, ⟨fun N' hm => .cons (.bool _) (.cons (.list hm hRS.out.up) (.cons (.int _ _) .nil))⟩⟩
    clear N5
    refine append_led F5 N5' (.tail _ (.tail _ (.tail _ (.head _)))) ((lf, listOf ov.toArray 0) :: (D', listOf ys.toArray n8) :: (tl, listOf tv.toArray tn) :: N) (fun p hp => ?hR2) hdl ?go2
    case hR2 =>
      rcases List.mem_cons.mp hp with e | hp
      · rw [e]; exact ⟨.head _, Nat.ne_of_gt c2⟩
      rcases List.mem_cons.mp hp with e | hp
      · rw [e]; exact ⟨.tail _ (.head _), dd'⟩
      rcases List.mem_cons.mp hp with e | hp
      · rw [e]; exact ⟨.tail _ (.tail _ (.head _)), htd⟩
      · exact ⟨.tail _ (.tail _ (.tail _ (.tail _ hp))), (hoff p hp).2⟩
    intro h6 F6 N6
    refine hret _ _ (dn + 1) [(lf, listOf ov.toArray 0), (D', listOf ys.toArray n8)] (.ref lf) F6 (fun p hp => ?_) (fun p hp => ?_) (.list (.head _) (hS.out _ (.tail _ (.head _))))
    · rcases List.mem_cons.mp hp with e | hp
      · rw [e]; exact N6 _ (.tail _ (.tail _ (.tail _ (.head _))))
      rcases List.mem_cons.mp hp with e | hp
      · rw [e]; exact N6 _ (.head _)
      rcases List.mem_cons.mp hp with e | hp
      · rw [e]; exact N6 _ (.tail _ (.head _))
      rcases List.mem_cons.mp hp with e | hp
      · rw [e]; exact N6 _ (.tail _ (.tail _ (.head _)))
      · exact N6 _ (.tail _ (.tail _ (.tail _ (.tail _ hp))))
    · rcases List.mem_cons.mp hp with e | hp
      · rw [e]; exact ⟨Nat.ne_of_gt c1, Nat.ne_of_gt c2⟩
      · rw [List.mem_singleton.mp hp]; exact ⟨dt, dd'⟩
end Mine
namespace Mine
local macro_rules | `(tactic| walk_at "zz0") => `(tactic| fail "zz")
local macro_rules | `(tactic| walk_at "zz1") => `(tactic| fail "zz")
local macro_rules | `(tactic| walk_at "zz2") => `(tactic| fail "zz")
local macro_rules | `(tactic| walk_at "zz3") => `(tactic| fail "zz")
local macro_rules | `(tactic| walk_at "zz4") => `(tactic| fail "zz")
local macro_rules | `(tactic| walk_at "zz5") => `(tactic| fail "zz")
local macro_rules | `(tactic| walk_at "zz6") => `(tactic| fail "zz")
local macro_rules | `(tactic| walk_at "zz7") => `(tactic| fail "zz")
local macro_rules | `(tactic| walk_at "zz8") => `(tactic| fail "zz")
local macro_rules | `(tactic| walk_at "zz9") => `(tactic| fail "zz")
local macro_rules | `(tactic| walk_at "zz10") => `(tactic| fail "zz")
local macro_rules | `(tactic| walk_at "zz11") => `(tactic| fail "zz")
local macro_rules | `(tactic| walk_at "zz12") => `(tactic| fail "zz")
local macro_rules | `(tactic| walk_at "zz13") => `(tactic| fail "zz")
local macro_rules | `(tactic| walk_at "zz14") => `(tactic| fail "zz")
local macro_rules | `(tactic| walk_at "zz15") => `(tactic| fail "zz")
local macro_rules | `(tactic| walk_at "zz16") => `(tactic| fail "zz")
local macro_rules | `(tactic| walk_at "zz17") => `(tactic| fail "zz")
local macro_rules | `(tactic| walk_at "zz18") => `(tactic| fail "zz")
local macro_rules | `(tactic| walk_at "zz19") => `(tactic| fail "zz")
theorem off_FEt12 : True := by
  w_top off
  trivial
local macro_rules | `(tactic| k_mem) => `(tactic| assumption)
local macro_rules | `(tactic| walk_at "compareOp In str ref") => `(tactic| (k_here; first
  | (refine c_in (k := Sum.inr _) (knd := ckKind _ _) (by k_asm) (DictL.mono (by assumption) (by kcj_all)) (ck_str _ _ _ _) (by assumption) ?_)
  | (refine c_in (b := true) (knd := strKind _ _) (by k_asm) (DictL.mono (by assumption) (by kcj_all)) (strKind_is _ _ _ _) (by rfl) ?_)
  | (refine c_in (b := false) (knd := strKind _ _) (by k_asm) (DictL.mono (by assumption) (by kcj_all)) (strKind_is _ _ _ _) (by rfl) ?_)))
local macro_rules | `(tactic| walk_at "compareOp NotIn str ref") => `(tactic| (k_here; refine c_notin (k := Sum.inr _) (knd := ckKind _ _) (by k_asm) (DictL.mono (by assumption) (by kcj_all)) (ck_str _ _ _ _) (by assumption) ?_))
local macro_rules | `(tactic| walk_at "compareOp In int ref") => `(tactic| (k_here; refine c_in (k := Sum.inl _) (knd := ckKind _ _) (by k_asm) (DictL.mono (by assumption) (by kcj_all)) (ck_int _ _ _ _) (by assumption) ?_))
local macro_rules | `(tactic| walk_at "compareOp NotIn int ref") => `(tactic| (k_here; refine c_notin (k := Sum.inl _) (knd := ckKind _ _) (by k_asm) (DictL.mono (by assumption) (by kcj_all)) (ck_int _ _ _ _) (by assumption) ?_))
local macro_rules | `(tactic| walk_at "subscriptTail") => `(tactic| (k_here; first
  | ((with_reducible show wpAny _ _ (subscriptTail _ _ (Value.ref _) (Value.int _ _)) _ _ _); (refine c_item (k := Sum.inl _) (knd := ckKind _ _) (by k_asm) (DictL.mono (by assumption) (by kcj_all)) (ck_int _ _ _ _) (by assumption) ?_))
  | ((with_reducible show wpAny _ _ (subscriptTail _ _ (Value.ref _) (Value.str _ _)) _ _ _); (refine c_item (k := Sum.inr _) (knd := ckKind _ _) (by k_asm) (DictL.mono (by assumption) (by kcj_all)) (ck_str _ _ _ _) (by assumption) ?_))
  | ((with_reducible show wpAny _ _ (subscriptTail _ _ (Value.ref _) (Value.str _ _)) _ _ _); (refine c_item (knd := strKind _ _) (by k_asm) (DictL.mono (by assumption) (by kcj_all)) (strKind_is _ _ _ _) (by rfl) ?_))))
local macro_rules | `(tactic| walk_at "call ref") => `(tactic| (k_here; (with_reducible show wpAny _ _ (PySem.call (Value.ref 232) _ _) _ _ _); k_dflt (refine' found_no_E ?B ?F ?X ?H ?T rfl ?XB ?TB ?un ?C ?hd ?_; (case B => k_asm); (case F => k_asm); (case X => k_asm); (case H => k_asm); (case T => k_asm); (case XB => assumption); (case TB => assumption); (case un => decide); (case C => exact ⟨⟨_, .head _, by assumption⟩, by assumption⟩); (case hd => assumption)); intro h' tk' l' n' t1' t2' F' H'; (try dsimp only)))
local macro_rules | `(tactic| walk_at "eval ListComp") => `(tactic| (k_here; (refine Stop.out ?_)))
local macro_rules | `(tactic| walk_at "call builtin:len") => `(tactic| (k_here; k_dflt (refine len_dictL (by k_asm) (DictL.mono (by assumption) (by kcj_all)) (by assumption) ?_)))
local macro_rules | `(tactic| k_mem) => `(tactic| assumption)
local macro_rules | `(tactic| walk_at "subscriptTail") => `(tactic| (k_here; (with_reducible show wpAny _ _ (subscriptTail _ _ (Value.ref 183) _) _ _ _); k_dflt (refine' names_item ?X ?h0 ?h1 ?_; (case X => k_in); (case h0 => omega); (case h1 => omega)); intro t'))
local macro_rules | `(tactic| walk_at "subscriptTail") => `(tactic| (k_here; (with_reducible show wpAny _ _ (subscriptTail _ _ (Value.ref 183) _) _ _ _); k_dflt (refine' names_item ?X ?h0 ?h1 ?_; (case X => k_in); (case h0 => exact fmod_lo _ (by decide)); (case h1 => exact fmod_hi _ (by decide))); intro t'))

local macro_rules | `(tactic| walk_at "compareOp Eq ref ref") => `(tactic| (k_here; (refine Stop.out ?_)))
theorem t12_stmt {Ds : List Dd} {w : World} {bx : Value} {D tl du : Addr} {tv dv : List Value} {tn dn : Nat} {u0 u1 u2 u3 u4 u5 : Option Value} {mean : ExcName → Option Value} {mg mb : Str → Option Value} {a ln c kp : Addr} {ccd : Value} {h₀ : Heap} {L : Addr} {s : Shared} {Q : Flow → Shared → Prop} {E : Value → Shared → Prop} {ws : List Value} {ns : List Int} {ok oc ot : Obj} {N : Led} {kvs kvs2 : List (CKey × Value)} {one two : Int} {t1 t2 t3 : Tok} {m0 : Str → Option Value}
  (B : Below callerA h₀ [] h₀) (X : (hd.heap_39 w.params).In h₀) (T : Top hd.view_39 LO mean mg mb h₀)
  (H : News h₀ L s.heap ((tl, listOf tv.toArray tn) :: (du, listOf dv.toArray dn) :: N)) (hok : (L + 1 + 1 + 1, ok) ∈ N) (hokd : ok.data = .cell (some (.ref kp))) (hoc : (L + 1 + 1, oc) ∈ N) (hocd : oc.data = .cell (some (.ref c))) (hot : (L + 1, ot) ∈ N) (hotd : ot.data = .cell (some (.int two t3)))
  (h20 : 0 ≤ two) (hln : (ln, listOf ws.toArray 0) ∈ N) (hi : IntsAre ws ns) (g6 : 6 ≤ ns.length) (g9 : ns.length ≤ 9) (h1 : one ∈ NAMES)
  (C : DictL (cK w) N c kvs) (C2 : DictL (cK w) N kp kvs2) (R : KvsRep w N kvs (cfgOf ns)) (R2 : KvsRep w N kvs2 (cfgOf ns)) (htv : ∃ z r, tv = .ref z :: r) (hdv : ∃ z r, dv = .ref z :: r) (htd : @Ne Nat tl du) (hoff : ∀ p ∈ N, @Ne Nat p.1 tl ∧ @Ne Nat p.1 du) (htl : tv.length ≤ 100) (hdl : dv.length ≤ 100) (htR : RepAll w N tv Ds) (hdR : RepAll w N dv Ds) (hdp : dep.depAll Ds ≤ 50)
  (F : Fr h₀ L s.heap (fun y => if y = Str.ofString "k" then u0 else if y = Str.ofString "did" then u1 else if y = Str.ofString "found" then u2 else if y = Str.ofString "number" then u3 else if y = Str.ofString "twin" then u4 else if y = Str.ofString "length" then u5 else if y = Str.ofString "due" then some (.ref du) else if y = Str.ofString "told" then some (.ref tl) else if y = Str.ofString "box" then some bx else if y = Str.ofString "rows" then some (.ref D) else if y = Str.ofString "one" then some (.int one t1) else if y = Str.ofString "first" then some (.int (absI (ns.getD 0 0)) t2) else if y = Str.ofString "numbers" then some (.ref ln) else m0 y))
  (hret : ∀ h' tk m' N', Fr h₀ L h' m' → News h₀ L h' N' → Q (.ret (.bool true)) { s with heap := h', toks := tk }) :
  wpAny (model PW w) (callerA.deeper (envOfC (Str.ofString "law") lawS L a ccd)) (exec (lawB.getD 12 (.Pass default)) (envOfC (Str.ofString "law") lawS L a ccd)) Q E s := by
  show wpAny _ (callerA.deeper (envOfC (Str.ofString "law") ⟨_, _, _, _, _⟩ L a ccd)) (exec (.Return _ _) (envOfC (Str.ofString "law") ⟨_, _, _, _, _⟩ L a ccd)) _ _ _
  revert X
  unfold PW
  k_fill
  intro X
  k_steps
  refine Stop.mk ?_
  show wpAny _ _ (richCompare .Eq (.ref tl) (.ref du)) _ _ _
  have up : ∀ p ∈ N, p ∈ (tl, listOf tv.toArray tn) :: (du, listOf dv.toArray dn) :: N := fun p hp => .tail _ (.tail _ hp)
  obtain ⟨hl, he⟩ := eq_repAll H (A := (callerA.deeper (envOfC (Str.ofString "law") lawS L a ccd)).in1) (htR.mono up) (hdR.mono up) (Nat.lt_of_le_of_lt (Nat.add_le_add_left hdp _) (of_decide_eq_true (by rfl)))
  refine list_eqP (News.isList H (.head _)) (News.isList H (.tail _ (.head _))) (by simpa using hl) (of_decide_eq_true (by rfl)) (fun j h1 h2 => ?_) ?_
  · have := he j (by simpa using h1) (by simpa using h2)
    exact this
  · exact hret _ _ _ _ F H
end Mine
namespace Mine
local macro_rules | `(tactic| k_mem) => `(tactic| assumption)
local macro_rules | `(tactic| walk_at "compareOp In str ref") => `(tactic| (k_here; first
  | (refine c_in (k := Sum.inr _) (knd := ckKind _ _) (by k_asm) (DictL.mono (by assumption) (by kcj_all)) (ck_str _ _ _ _) (by assumption) ?_)
  | (refine c_in (b := true) (knd := strKind _ _) (by k_asm) (DictL.mono (by assumption) (by kcj_all)) (strKind_is _ _ _ _) (by rfl) ?_)
  | (refine c_in (b := false) (knd := strKind _ _) (by k_asm) (DictL.mono (by assumption) (by kcj_all)) (strKind_is _ _ _ _) (by rfl) ?_)))
local macro_rules | `(tactic| walk_at "compareOp NotIn str ref") => `(tactic| (k_here; refine c_notin (k := Sum.inr _) (knd := ckKind _ _) (by k_asm) (DictL.mono (by assumption) (by kcj_all)) (ck_str _ _ _ _) (by assumption) ?_))
local macro_rules | `(tactic| walk_at "compareOp In int ref") => `(tactic| (k_here; refine c_in (k := Sum.inl _) (knd := ckKind _ _) (by k_asm) (DictL.mono (by assumption) (by kcj_all)) (ck_int _ _ _ _) (by assumption) ?_))
local macro_rules | `(tactic| walk_at "compareOp NotIn int ref") => `(tactic| (k_here; refine c_notin (k := Sum.inl _) (knd := ckKind _ _) (by k_asm) (DictL.mono (by assumption) (by kcj_all)) (ck_int _ _ _ _) (by assumption) ?_))
local macro_rules | `(tactic| walk_at "subscriptTail") => `(tactic| (k_here; first
  | ((with_reducible show wpAny _ _ (subscriptTail _ _ (Value.ref _) (Value.int _ _)) _ _ _); (refine c_item (k := Sum.inl _) (knd := ckKind _ _) (by k_asm) (DictL.mono (by assumption) (by kcj_all)) (ck_int _ _ _ _) (by assumption) ?_))
  | ((with_reducible show wpAny _ _ (subscriptTail _ _ (Value.ref _) (Value.str _ _)) _ _ _); (refine c_item (k := Sum.inr _) (knd := ckKind _ _) (by k_asm) (DictL.mono (by assumption) (by kcj_all)) (ck_str _ _ _ _) (by assumption) ?_))
  | ((with_reducible show wpAny _ _ (subscriptTail _ _ (Value.ref _) (Value.str _ _)) _ _ _); (refine c_item (knd := strKind _ _) (by k_asm) (DictL.mono (by assumption) (by kcj_all)) (strKind_is _ _ _ _) (by rfl) ?_))))
theorem no_box {ns : List Int} {w : World} {N : Led} {kvs : List (CKey × Value)} (R : KvsRep w N kvs (cfgOf ns)) : (valueAt kvs (.inr (Str.ofString "data_identifiers"))).isSome = false := by
  rcases R.look (k := .inr (Str.ofString "data_identifiers")) with ⟨e, _⟩ | ⟨v, n, _, f, _⟩
  · rw [e]; rfl
  · have hm := look_mem f
    unfold cfgOf at hm
    rcases List.mem_append.mp hm with hm | hm
    · obtain ⟨j, _, e⟩ := cfg_mem hm
      have := congrArg Prod.fst e
      cases this
    · split at hm
      · have := congrArg Prod.fst (List.mem_singleton.mp hm)
        have h2 := Sum.inr.inj this
        exact absurd h2 (by decide)
      · exact nomatch hm
theorem val_eq {w : World} {N : Led} {kvs kvs2 : List (CKey × Value)} {cs : Cfg} (R : KvsRep w N kvs cs) (R2 : KvsRep w N kvs2 cs) (k : CKey) : (valueAt kvs k).isSome = (valueAt kvs2 k).isSome := by
  rcases R.look (k := k) with ⟨e, f⟩ | ⟨v, n, e, f, _⟩ <;> rcases R2.look (k := k) with ⟨e2, f2⟩ | ⟨v2, n2, e2, f2, _⟩
  · rw [e, e2]
  · rw [f] at f2; cases f2
  · rw [f] at f2; cases f2
  · rw [e, e2]; rfl
theorem want_eq {w : World} {N : Led} {kvs kvs2 : List (CKey × Value)} {cs : Cfg} (R : KvsRep w N kvs cs) (R2 : KvsRep w N kvs2 cs) (ds : List Int) : wantL kvs2 ds = wantL kvs ds := by
  have : (fun d => !hasK kvs2 d) = fun d => !hasK kvs d := by
    funext d
    simp only [hasK, val_eq R R2]
  unfold wantL
  rw [this]
theorem RepAll.len {w : World} {N : Led} : ∀ {vs : List Value} {ds : List Dd}, RepAll w N vs ds → vs.length = ds.length
  | _, _, .nil => rfl
  | _, _, .cons _ r => by simp [RepAll.len r]
theorem RepAll.ref {w : World} {N : Led} {vs : List Value} {xs : List Dd} {ds : List Dd} (h : RepAll w N vs (.list xs :: ds)) : ∃ z r, vs = .ref z :: r := by
  cases h with
  | cons a _ => cases a; exact ⟨_, _, rfl⟩
/-- a flat answer stays where the list in hand is set aside -/
theorem rep_aside {w : World} {h₀ h : Heap} {L : Addr} {M M' : Led} {tl : Addr} {tv : List Value} {n : Nat} {v : Value} {ds : List Dd} (H : News h₀ L h M) (hm : (tl, listOf tv.toArray n) ∈ M) (ht : ∃ z r, tv = .ref z :: r) (hM : ∀ p ∈ M, @Ne Nat p.1 tl → p ∈ M') (hs : ∀ d ∈ ds, Scal d) (hd : ∃ x r, ds = .str x :: r) (R : Rep w M v (.list ds)) : Rep w M' v (.list ds) := by
  cases R with
  | list h1 hr =>
    have q := repAll_scal hr hs
    exact .list (hM _ h1 (flat_ne H h1 q hd hm ht)) q.up
theorem frame_all {m₁ g : Str → Option Value} (hm : ∀ y, y ∉ loopVars → m₁ y = g y) : m₁ = fun y => if y = Str.ofString "k" then m₁ (Str.ofString "k") else if y = Str.ofString "did" then m₁ (Str.ofString "did") else if y = Str.ofString "found" then m₁ (Str.ofString "found") else if y = Str.ofString "number" then m₁ (Str.ofString "number") else if y = Str.ofString "twin" then m₁ (Str.ofString "twin") else if y = Str.ofString "length" then m₁ (Str.ofString "length") else g y := by
  rw [← frame_eq (v := m₁ (Str.ofString "k")) hm]
  funext y
  by_cases q : y = Str.ofString "k"
  · simp only [q, if_true]
  · simp only [q, if_false]
theorem rest_list : lawB.drop 3 = lawB.getD 3 (.Pass default) :: lawB.getD 4 (.Pass default) :: lawB.drop 5 := by with_unfolding_all rfl
theorem rest_list2 : lawB.drop 5 = [lawB.getD 5 (.Pass default), lawB.getD 6 (.Pass default), lawB.getD 7 (.Pass default), lawB.getD 8 (.Pass default), lawB.getD 9 (.Pass default), lawB.getD 10 (.Pass default), lawB.getD 11 (.Pass default), lawB.getD 12 (.Pass default)] := by with_unfolding_all rfl
theorem ints_scal (ns : List Int) : ∀ d ∈ ns.map Dd.int, Scal d := fun d hd => by
  obtain ⟨_, _, rfl⟩ := List.mem_map.mp hd; trivial
theorem law_rest2 {bx : Value} {w : World} {mean : ExcName → Option Value} {mg mb : Str → Option Value} {a ln c kp : Addr} {ccd : Value} {h₀ : Heap} {L : Addr} {s : Shared} {Q : Flow → Shared → Prop} {E : Value → Shared → Prop} {ws : List Value} {ns : List Int} {ok oc ot : Obj} {N : Led} {kvs kvs2 : List (CKey × Value)} {one two : Int} {t1 t2 t3 : Tok} {m0 : Str → Option Value}
  (B : Below callerA h₀ [] h₀) (X : (hd.heap_39 w.params).In h₀) (T : Top hd.view_39 LO mean mg mb h₀)
  (H : News h₀ L s.heap N) (hok : (L + 1 + 1 + 1, ok) ∈ N) (hokd : ok.data = .cell (some (.ref kp))) (hoc : (L + 1 + 1, oc) ∈ N) (hocd : oc.data = .cell (some (.ref c))) (hot : (L + 1, ot) ∈ N) (hotd : ot.data = .cell (some (.int two t3)))
  (h20 : 0 ≤ two) (hln : (ln, listOf ws.toArray 0) ∈ N) (hi : IntsAre ws ns) (g6 : 6 ≤ ns.length) (g9 : ns.length ≤ 9) (h1 : one ∈ NAMES)
  (C : DictL (cK w) N c kvs) (C2 : DictL (cK w) N kp kvs2) (R : KvsRep w N kvs (cfgOf ns)) (R2 : KvsRep w N kvs2 (cfgOf ns)) {D : Addr} {vr : List Value} {nr : Nat} {ds : List Int} (hD : (D, listOf vr.toArray nr) ∈ N) (hiD : IntsAre vr ds) (hds : ∀ d ∈ ds, d ∈ NAMES) (hdl : ds.length ≤ 9) (hbx : BoxIs w N bx c kvs) (hkl : kvs.length ≤ 100)
  (hE : PassesOwn (model PW w) (callerA.deeper (envOfC (Str.ofString "law") lawS L a ccd)) (envOfC (Str.ofString "law") lawS L a ccd) E)
  (F : Fr h₀ L s.heap (fun y => if y = Str.ofString "box" then some bx else if y = Str.ofString "rows" then some (.ref D) else if y = Str.ofString "one" then some (.int one t1) else if y = Str.ofString "first" then some (.int (absI (ns.getD 0 0)) t2) else if y = Str.ofString "numbers" then some (.ref ln) else m0 y))
  (hret : ∀ h' tk m' N', Fr h₀ L h' m' → News h₀ L h' N' → Q (.ret (.bool true)) { s with heap := h', toks := tk }) :
  wpAny (model PW w) (callerA.deeper (envOfC (Str.ofString "law") lawS L a ccd)) (execs (lawB.drop 5) (envOfC (Str.ofString "law") lawS L a ccd)) Q E s := by
  rw [rest_list2]
  have hkl2 : kvs2.length ≤ 100 := by rw [R2.length, ← R.length]; exact hkl
  refine wpAny_execs_cons (told_stmt B X T H (id hok) hokd (id hoc) hocd (id hot) hotd h20 (id hln) hi g6 g9 h1 (C.mono (fun _ h => h)) (C2.mono (fun _ h => h)) (R.mono (fun _ h => h)) (R2.mono (fun _ h => h)) hD hiD hds hdl hbx F fun g1 k1 tl tv n1 N2 F1 H1 s1 o1 r1 => ?_)
  have up1 : ∀ p ∈ N, p ∈ (tl, listOf tv.toArray n1) :: N2 := fun p hp => .tail _ (s1 p hp)
  refine wpAny_execs_cons (due_stmt B X T H1 (up1 _ hok) hokd (up1 _ hoc) hocd (up1 _ hot) hotd h20 (up1 _ hln) hi g6 g9 h1 (C.mono up1) (C2.mono up1) (R.mono up1) (R2.mono up1) (up1 _ hD) hiD hds hdl F1 fun g2 k2 du dv n2 N3 F2 H2 s2 o2 r2 => ?_)
  have hm3 : (tl, listOf tv.toArray n1) ∈ N3 := s2 _ (.head _)
  obtain ⟨N4, in4, off4⟩ : ∃ N4 : Led, (∀ p ∈ N3, @Ne Nat p.1 tl → p ∈ N4) ∧ (∀ p ∈ N4, p ∈ N3 ∧ @Ne Nat p.1 tl) :=
    ⟨N3.filter fun p => decide (@Ne Nat p.1 tl), fun p hp hn => List.mem_filter.mpr ⟨hp, decide_eq_true hn⟩, fun p hp => ⟨(List.mem_filter.mp hp).1, of_decide_eq_true (List.mem_filter.mp hp).2⟩⟩
  have t14 : ∀ p ∈ N2, p ∈ N4 := fun p hp => in4 p (s2 p (.tail _ hp)) (o1 p hp)
  have up4 : ∀ p ∈ N, p ∈ N4 := fun p hp => t14 p (s1 p hp)
  have ztv := r1.ref
  have rd : RepAll w N4 dv [.list (wantL kvs [one]), .list (wantL kvs ds), .str (Str.ofString "refused")] := by
    rw [want_eq R R2, want_eq R R2] at r2
    have H3 : News h₀ L g2 N3 := fun p hp => H2 p (.tail _ hp)
    cases r2 with
    | cons a r2 => cases r2 with
      | cons b r2 => cases r2 with
        | cons c' r2 =>
          cases r2
          cases c'
          exact .cons (rep_aside H3 hm3 ztv in4 (wantL_scal _ _) (wantL_str _ _) a) (.cons (rep_aside H3 hm3 ztv in4 (wantL_scal _ _) (wantL_str _ _) b) (.cons (.str _ _) .nil))
  have htd : @Ne Nat tl du := o2 _ hm3
  have H4 : News h₀ L g2 ((tl, listOf tv.toArray n1) :: (du, listOf dv.toArray n2) :: N4) := by
    intro p hp
    rcases List.mem_cons.mp hp with e | hp
    · rw [e]; exact H2 _ (.tail _ hm3)
    rcases List.mem_cons.mp hp with e | hp
    · rw [e]; exact H2 _ (.head _)
    · exact H2 _ (.tail _ (off4 p hp).1)
  refine wpAny_execs_cons (for_stmt (tv := tv) (dv := dv) (N := N4) (Ds := [.list (wantL kvs [one]), .list (wantL kvs ds), .str (Str.ofString "refused")]) B X T H4 (up4 _ hok) hokd (up4 _ hoc) hocd (up4 _ hot) hotd h20 (up4 _ hln) hi g6 g9 h1 (C.mono up4) (C2.mono up4) (R.mono up4) (R2.mono up4) ztv rd.ref htd (fun p hp => ⟨(off4 p hp).2, o2 p (off4 p hp).1⟩) (r1.mono t14) rd hE ?dep r1.len rd.len F2 fun g3 k3 m' tv3 dv3 n3 n4 N5 Ds F3 hm' H5 s5 o5 r3 r4 z3 z4 l3 l4 dp => ?_)
  case dep =>
    have q1 := dep_scal (wantL_scal kvs [one])
    have q2 := dep_scal (wantL_scal kvs ds)
    simp only [dep, dep.depAll]; omega
  rw [frame_all hm'] at F3
  have up5 : ∀ p ∈ N, p ∈ N5 := fun p hp => s5 p (up4 p hp)
  refine wpAny_execs_cons (t8_stmt B X T H5 (up5 _ hok) hokd (up5 _ hoc) hocd (up5 _ hot) hotd h20 (up5 _ hln) hi g6 g9 h1 (C.mono up5) (C2.mono up5) (R.mono up5) (R2.mono up5) z3 z4 htd o5 (by omega) (by omega) F3 fun g4 k4 n5 own1 x1 F4 H6 f6 r5 => ?_)
  have up6 : ∀ p ∈ N, p ∈ own1 ++ N5 := fun p hp => List.mem_append_right _ (up5 p hp)
  have o6 : ∀ p ∈ own1 ++ N5, @Ne Nat p.1 tl ∧ @Ne Nat p.1 du := fun p hp => (List.mem_append.mp hp).elim (f6 p) (o5 p)
  have z5 : ∃ z r, tv3 ++ [x1] = .ref z :: r := let ⟨z, r, e⟩ := z3; ⟨z, r ++ [x1], by rw [e]; rfl⟩
  refine wpAny_execs_cons (t9_stmt B X T H6 (up6 _ hok) hokd (up6 _ hoc) hocd (up6 _ hot) hotd h20 (up6 _ hln) hi g6 g9 h1 (C.mono up6) (C2.mono up6) (R.mono up6) (R2.mono up6) z5 z4 htd o6 (by simp; omega) (by omega) F4 fun g5 k5 n6 own2 x2 F5 H7 f7 r6 => ?_)
  have up7 : ∀ p ∈ N, p ∈ own2 ++ (own1 ++ N5) := fun p hp => List.mem_append_right _ (up6 p hp)
  have o7 : ∀ p ∈ own2 ++ (own1 ++ N5), @Ne Nat p.1 tl ∧ @Ne Nat p.1 du := fun p hp => (List.mem_append.mp hp).elim (f7 p) (o6 p)
  have z6 : ∃ z r, dv3 ++ [x2] = .ref z :: r := let ⟨z, r, e⟩ := z4; ⟨z, r ++ [x2], by rw [e]; rfl⟩
  refine wpAny_execs_cons (t10_stmt (bd := (valueAt kvs kDef).isSome) B X T H7 (up7 _ hok) hokd (up7 _ hoc) hocd (up7 _ hot) hotd h20 (up7 _ hln) hi g6 g9 h1 (C.mono up7) (C2.mono up7) (R.mono up7) (R2.mono up7) z5 z6 htd o7 (by simp; omega) (by simp; omega) rfl hkl F5 fun g6' k6 n7 own3 x3 F6 H8 f8 r7 => ?_)
  have up8 : ∀ p ∈ N, p ∈ own3 ++ (own2 ++ (own1 ++ N5)) := fun p hp => List.mem_append_right _ (up7 p hp)
  have o8 : ∀ p ∈ own3 ++ (own2 ++ (own1 ++ N5)), @Ne Nat p.1 tl ∧ @Ne Nat p.1 du := fun p hp => (List.mem_append.mp hp).elim (f8 p) (o7 p)
  have z7 : ∃ z r, tv3 ++ [x1] ++ [x3] = .ref z :: r := let ⟨z, r, e⟩ := z5; ⟨z, r ++ [x3], by rw [e]; rfl⟩
  refine wpAny_execs_cons (t11_stmt (bd := (valueAt kvs kDef).isSome) B X T H8 (up8 _ hok) hokd (up8 _ hoc) hocd (up8 _ hot) hotd h20 (up8 _ hln) hi g6 g9 h1 (C.mono up8) (C2.mono up8) (R.mono up8) (R2.mono up8) z7 z6 htd o8 (by simp; omega) (by simp; omega) (val_eq R R2 _).symm hkl2 F6 fun g7 k7 n8 own4 x4 F7 H9 f9 r8 => ?_)
  have up9 : ∀ p ∈ N, p ∈ own4 ++ (own3 ++ (own2 ++ (own1 ++ N5))) := fun p hp => List.mem_append_right _ (up8 p hp)
  have o9 : ∀ p ∈ own4 ++ (own3 ++ (own2 ++ (own1 ++ N5))), @Ne Nat p.1 tl ∧ @Ne Nat p.1 du := fun p hp => (List.mem_append.mp hp).elim (f9 p) (o8 p)
  have z8 : ∃ z r, dv3 ++ [x2] ++ [x4] = .ref z :: r := let ⟨z, r, e⟩ := z6; ⟨z, r ++ [x4], by rw [e]; rfl⟩
  have eD : (Dd.list [.bool (valueAt kvs kDef).isSome, .list ((NAMES.filter fun d => (valueAt kvs2 (.inl d)).isSome).map Dd.int), .int kvs2.length]) = .list [.bool (valueAt kvs kDef).isSome, .list ((NAMES.filter fun d => (valueAt kvs (.inl d)).isSome).map Dd.int), .int kvs.length] := by
    have e1 : (fun d => (valueAt kvs2 (.inl d)).isSome) = fun d => (valueAt kvs (.inl d)).isSome := funext fun d => (val_eq R R2 _).symm
    rw [e1, R.length, R2.length]
  rw [eD] at r8
  have inc5 : ∀ p ∈ N5, p ∈ own4 ++ (own3 ++ (own2 ++ (own1 ++ N5))) := fun p hp => List.mem_append_right _ (List.mem_append_right _ (List.mem_append_right _ (List.mem_append_right _ hp)))
  have dl : dep.depAll (Ds ++ [.list [.str (Str.ofString "refused"), .int one]] ++ [.list [.bool (valueAt kvs kDef).isSome, .list ((NAMES.filter fun d => (valueAt kvs (.inl d)).isSome).map Dd.int), .int kvs.length]]) ≤ 10 := by
    refine dep_snoc (dep_snoc dp (by simp [dep, dep.depAll])) ?_
    have q := dep_scal (ints_scal (NAMES.filter fun d => (valueAt kvs (.inl d)).isSome))
    simp only [dep, dep.depAll]; omega
  refine wpAny_execs_cons (t12_stmt (Ds := Ds ++ [.list [.str (Str.ofString "refused"), .int one]] ++ [.list [.bool (valueAt kvs kDef).isSome, .list ((NAMES.filter fun d => (valueAt kvs (.inl d)).isSome).map Dd.int), .int kvs.length]]) B X T H9 (up9 _ hok) hokd (up9 _ hoc) hocd (up9 _ hot) hotd h20 (up9 _ hln) hi g6 g9 h1 (C.mono up9) (C2.mono up9) (R.mono up9) (R2.mono up9) z7 z8 htd o9 (by simp; omega) (by simp; omega) ?e1 ?e2 (by omega) F7 fun g8 k8 m9 N9 F8 H10 => ?_)
  case e1 =>
    exact RepAll.snoc (RepAll.snoc (r3.mono inc5) (r5.mono fun p hp => List.mem_append_right _ (List.mem_append_right _ (List.mem_append_right _ hp)))) (r7.mono fun p hp => List.mem_append_right _ hp)
  case e2 =>
    exact RepAll.snoc (RepAll.snoc (r4.mono inc5) (r6.mono fun p hp => List.mem_append_right _ (List.mem_append_right _ hp))) r8
  exact hret _ _ _ _ F8 H10
theorem law_rest {w : World} {mean : ExcName → Option Value} {mg mb : Str → Option Value} {a ln c kp : Addr} {ccd : Value} {h₀ : Heap} {L : Addr} {s : Shared} {Q : Flow → Shared → Prop} {E : Value → Shared → Prop} {ws : List Value} {ns : List Int} {ok oc ot : Obj} {N : Led} {kvs kvs2 : List (CKey × Value)} {one two : Int} {t1 t2 t3 : Tok} {m0 : Str → Option Value}
  (B : Below callerA h₀ [] h₀) (X : (hd.heap_39 w.params).In h₀) (T : Top hd.view_39 LO mean mg mb h₀)
  (H : News h₀ L s.heap N) (hok : (L + 1 + 1 + 1, ok) ∈ N) (hokd : ok.data = .cell (some (.ref kp))) (hoc : (L + 1 + 1, oc) ∈ N) (hocd : oc.data = .cell (some (.ref c))) (hot : (L + 1, ot) ∈ N) (hotd : ot.data = .cell (some (.int two t3)))
  (h20 : 0 ≤ two) (hln : (ln, listOf ws.toArray 0) ∈ N) (hi : IntsAre ws ns) (g6 : 6 ≤ ns.length) (g9 : ns.length ≤ 9) (h1 : one ∈ NAMES)
  (C : DictL (cK w) N c kvs) (C2 : DictL (cK w) N kp kvs2) (R : KvsRep w N kvs (cfgOf ns)) (R2 : KvsRep w N kvs2 (cfgOf ns)) (hkl : kvs.length ≤ 100)
  (hE : PassesOwn (model PW w) (callerA.deeper (envOfC (Str.ofString "law") lawS L a ccd)) (envOfC (Str.ofString "law") lawS L a ccd) E)
  (F : Fr h₀ L s.heap (fun y => if y = Str.ofString "one" then some (.int one t1) else if y = Str.ofString "first" then some (.int (absI (ns.getD 0 0)) t2) else if y = Str.ofString "numbers" then some (.ref ln) else m0 y))
  (hret : ∀ h' tk m' N', Fr h₀ L h' m' → News h₀ L h' N' → Q (.ret (.bool true)) { s with heap := h', toks := tk }) :
  wpAny (model PW w) (callerA.deeper (envOfC (Str.ofString "law") lawS L a ccd)) (execs (lawB.drop 3) (envOfC (Str.ofString "law") lawS L a ccd)) Q E s := by
  rw [rest_list]
  refine wpAny_execs_cons (rows_stmt B X T H (id hok) hokd (id hoc) hocd (id hot) hotd h20 (id hln) hi g6 g9 h1 (C.mono (fun _ h => h)) (C2.mono (fun _ h => h)) (R.mono (fun _ h => h)) (R2.mono (fun _ h => h)) F fun g1 k1 D vr nr ds F1 H1 hiD hds hdl => ?_)
  have up1 : ∀ p ∈ N, p ∈ (D, listOf vr.toArray nr) :: N := fun p hp => .tail _ hp
  refine wpAny_execs_cons (box_stmt B X T H1 (up1 _ hok) hokd (up1 _ hoc) hocd (up1 _ hot) hotd h20 (up1 _ hln) hi g6 g9 h1 (C.mono up1) (C2.mono up1) (R.mono up1) (R2.mono up1) (.head _) hiD hds hdl F1 (fun g2 k2 F2 H2 => ?b1) fun g2 k2 b ob F2 H2 Db => ?b2)
  case b1 =>
    exact law_rest2 B X T H2 (up1 _ hok) hokd (up1 _ hoc) hocd (up1 _ hot) hotd h20 (up1 _ hln) hi g6 g9 h1 (C.mono up1) (C2.mono up1) (R.mono up1) (R2.mono up1) (.head _) hiD hds hdl (.inl ⟨rfl, no_box R⟩) hkl hE F2 fun g3 k3 m' N' F3 H3 => hret _ _ _ _ F3 H3
  case b2 =>
    have up2 : ∀ p ∈ N, p ∈ (b, ob) :: (D, listOf vr.toArray nr) :: N := fun p hp => .tail _ (.tail _ hp)
    exact law_rest2 B X T H2 (up2 _ hok) hokd (up2 _ hoc) hocd (up2 _ hot) hotd h20 (up2 _ hln) hi g6 g9 h1 (C.mono up2) (C2.mono up2) (R.mono up2) (R2.mono up2) (.tail _ (.head _)) hiD hds hdl (.inr ⟨b, rfl, Db⟩) hkl hE F2 fun g3 k3 m' N' F3 H3 => hret _ _ _ _ F3 H3
end Mine
namespace Mine
local macro_rules | `(tactic| walk_at "zz0") => `(tactic| fail "zz")
local macro_rules | `(tactic| walk_at "zz1") => `(tactic| fail "zz")
local macro_rules | `(tactic| walk_at "zz2") => `(tactic| fail "zz")
local macro_rules | `(tactic| walk_at "zz3") => `(tactic| fail "zz")
local macro_rules | `(tactic| walk_at "zz4") => `(tactic| fail "zz")
local macro_rules | `(tactic| walk_at "zz5") => `(tactic| fail "zz")
local macro_rules | `(tactic| walk_at "zz6") => `(tactic| fail "zz")
local macro_rules | `(tactic| walk_at "zz7") => `(tactic| fail "zz")
local macro_rules | `(tactic| walk_at "zz8") => `(tactic| fail "zz")
local macro_rules | `(tactic| walk_at "zz9") => `(tactic| fail "zz")
local macro_rules | `(tactic| walk_at "zz10") => `(tactic| fail "zz")
local macro_rules | `(tactic| walk_at "zz11") => `(tactic| fail "zz")
local macro_rules | `(tactic| walk_at "zz12") => `(tactic| fail "zz")
local macro_rules | `(tactic| walk_at "zz13") => `(tactic| fail "zz")
local macro_rules | `(tactic| walk_at "zz14") => `(tactic| fail "zz")
local macro_rules | `(tactic| walk_at "zz15") => `(tactic| fail "zz")
local macro_rules | `(tactic| walk_at "zz16") => `(tactic| fail "zz")
local macro_rules | `(tactic| walk_at "zz17") => `(tactic| fail "zz")
local macro_rules | `(tactic| walk_at "zz18") => `(tactic| fail "zz")
local macro_rules | `(tactic| walk_at "zz19") => `(tactic| fail "zz")
local macro_rules | `(tactic| walk_at "zz20") => `(tactic| fail "zz")
local macro_rules | `(tactic| walk_at "zz21") => `(tactic| fail "zz")
local macro_rules | `(tactic| walk_at "zz22") => `(tactic| fail "zz")
local macro_rules | `(tactic| walk_at "zz23") => `(tactic| fail "zz")
theorem off_FElb : True := by
  w_top off
  trivial
local macro_rules | `(tactic| k_mem) => `(tactic| assumption)
local macro_rules | `(tactic| walk_at "compareOp In str ref") => `(tactic| (k_here; first
  | (refine c_in (k := Sum.inr _) (knd := ckKind _ _) (by k_asm) (DictL.mono (by assumption) (by kcj_all)) (ck_str _ _ _ _) (by assumption) ?_)
  | (refine c_in (b := true) (knd := strKind _ _) (by k_asm) (DictL.mono (by assumption) (by kcj_all)) (strKind_is _ _ _ _) (by rfl) ?_)
  | (refine c_in (b := false) (knd := strKind _ _) (by k_asm) (DictL.mono (by assumption) (by kcj_all)) (strKind_is _ _ _ _) (by rfl) ?_)))
local macro_rules | `(tactic| walk_at "compareOp NotIn str ref") => `(tactic| (k_here; refine c_notin (k := Sum.inr _) (knd := ckKind _ _) (by k_asm) (DictL.mono (by assumption) (by kcj_all)) (ck_str _ _ _ _) (by assumption) ?_))
local macro_rules | `(tactic| walk_at "compareOp In int ref") => `(tactic| (k_here; refine c_in (k := Sum.inl _) (knd := ckKind _ _) (by k_asm) (DictL.mono (by assumption) (by kcj_all)) (ck_int _ _ _ _) (by assumption) ?_))
local macro_rules | `(tactic| walk_at "compareOp NotIn int ref") => `(tactic| (k_here; refine c_notin (k := Sum.inl _) (knd := ckKind _ _) (by k_asm) (DictL.mono (by assumption) (by kcj_all)) (ck_int _ _ _ _) (by assumption) ?_))
local macro_rules | `(tactic| walk_at "subscriptTail") => `(tactic| (k_here; first
  | ((with_reducible show wpAny _ _ (subscriptTail _ _ (Value.ref _) (Value.int _ _)) _ _ _); (refine c_item (k := Sum.inl _) (knd := ckKind _ _) (by k_asm) (DictL.mono (by assumption) (by kcj_all)) (ck_int _ _ _ _) (by assumption) ?_))
  | ((with_reducible show wpAny _ _ (subscriptTail _ _ (Value.ref _) (Value.str _ _)) _ _ _); (refine c_item (k := Sum.inr _) (knd := ckKind _ _) (by k_asm) (DictL.mono (by assumption) (by kcj_all)) (ck_str _ _ _ _) (by assumption) ?_))
  | ((with_reducible show wpAny _ _ (subscriptTail _ _ (Value.ref _) (Value.str _ _)) _ _ _); (refine c_item (knd := strKind _ _) (by k_asm) (DictL.mono (by assumption) (by kcj_all)) (strKind_is _ _ _ _) (by rfl) ?_))))
local macro_rules | `(tactic| walk_at "subscriptTail") => `(tactic| (k_here; (with_reducible show wpAny _ _ (subscriptTail _ _ (Value.ref 183) _) _ _ _); k_dflt (refine' names_item' ?X ?h0 ?h1 ?_; (case X => k_in); (case h0 => exact fmod_lo _ (by decide)); (case h1 => exact fmod_hi _ (by decide))); intro d' t' hd' hm'))
local macro_rules | `(tactic| walk_at "call ref") => `(tactic| (k_here; (with_reducible show wpAny _ _ (PySem.call (Value.ref 211) _ _) _ _ _); k_dflt (refine' conf_G ?B ?F ?X ?H ?T rfl ?d2 ?u2 ?hl ?hi ?g6 ?g9 ?_; (case B => k_asm); (case F => k_asm); (case X => k_asm); (case H => k_asm); (case T => k_asm); (case d2 => decide); (case u2 => decide); (case hi => assumption); (case hl => first | assumption | exact .tail _ (.head _) | exact .head _ | exact List.mem_append_right _ (.head _) | exact List.mem_append_right _ (.tail _ (.head _))); (case g6 => (simp only [List.length_take, List.length_append, List.length_cons, List.length_nil]; omega)); (case g9 => (simp only [List.length_take]; omega))); intro h' tk' c' N1' kvs' F' H' off' hd' hr'; (try dsimp only)))
local macro_rules | `(tactic| walk_at "execs cons") => `(tactic| (k_here; (with_reducible show wpAny _ _ (PySem.execs [_, _, _, _, _, _, _, _, _, _] _) _ _ _); (with_reducible show HoldRest _)))

theorem cell_led {w : World} {A : Around} {E : Value → Shared → Prop} {s : Shared} {h₀ : Heap} {L a c : Addr} {m : Str → Option Value} {cn : Str} {cs : Scope} {ccd : Value} {cl : List (Str × Addr)} {x : Str} {v : Value} {Q : Unit → Shared → Prop} {M : Led} {o : Obj} {v₀ : Option Value}
    (F : Fr h₀ L s.heap m) (H : News h₀ L s.heap M) (hcm : (c, o) ∈ M) (hd : o.data = .cell v₀) (R : Led) (hR : ∀ p ∈ R, p ∈ M ∧ @Ne Nat p.1 c) (hc : cl.lookup x = some c)
    (h : ∀ h' o', Fr h₀ L h' m → News h₀ L h' ((c, o') :: R) → o'.data = .cell (some v) → Q () { s with heap := h' })
    (hk : cs.kind = .function := by rfl) (hx : (envX cn cs L a ccd cl).kindOf x = some .cell := by rfl) : wpAny (model PW w) A (storeName (envX cn cs L a ccd cl) x v) Q E s := by
  have hmem := H (c, o) hcm
  refine wpAny_storeName_cell hk hx hc ⟨o, hmem.1, hd⟩ fun h' hv hs => ?_
  obtain ⟨o', ho', hd'⟩ := hv
  refine h h' o' ⟨F.ns.sameBut hs (Ne.symm hmem.2.1), fun b ob e => (hs.2 b (fun q => ?_)).trans (F.keep b ob e), F.above⟩ (fun p hp => ?_) hd'
  · rw [q, hmem.2.2] at e; cases e
  · rcases List.mem_cons.mp hp with e | hp
    · rw [e]; exact ⟨ho', hmem.2.1, hmem.2.2⟩
    · have z := H p (hR p hp).1
      exact ⟨(hs.2 _ (hR p hp).2).trans z.1, z.2⟩
theorem in_two {p : Addr × Obj} {NB NA Ex : Led} (hp : p ∈ NB ++ NA) : p ∈ NB ++ (NA ++ Ex) :=
  (List.mem_append.mp hp).elim (fun hp => List.mem_append_left _ hp) (fun hp => List.mem_append_right _ (List.mem_append_left _ hp))
theorem off_two {NB NA Ex : Led} (hB : Off NB (NA ++ Ex)) (hA : Off NA Ex) {c : Addr} {o : Obj} (hm : (c, o) ∈ Ex) : ∀ p ∈ NB ++ NA, @Ne Nat p.1 c := fun p hp =>
  (List.mem_append.mp hp).elim (fun hp z => hB p hp _ (List.mem_append_right _ hm) (Eq.symm z)) (fun hp z => hA p hp _ hm (Eq.symm z))
theorem cfgOf_len (ns : List Int) : (cfgOf ns).length ≤ ns.length + 1 := by
  have q := cfg_len (ns := ns) (ns.length - 3)
  unfold cfgOf
  rw [List.length_append]
  split <;> simp <;> omega
theorem law_body {w : World} {mean : ExcName → Option Value} {mg mb : Str → Option Value} {a ls : Addr} {ccd : Value} {h₀ : Heap} {L : Addr} {s : Shared} {Q : Flow → Shared → Prop} {E : Value → Shared → Prop} {vs : List Value} {xs : List Int} {ok oc ot : Obj}
  (B : Below callerA h₀ [] h₀) (X : (hd.heap_39 w.params).In h₀) (T : Top hd.view_39 LO mean mg mb h₀) (hl0 : h₀.IsList ls vs.toArray) (hi0 : IntsAre vs xs) (h63 : ¬ (63 : Int) < (xs.length : Int))
  (F : Fr h₀ L s.heap (fun y => if y = Str.ofString "script" then some (.ref ls) else none)) (N : News h₀ L s.heap [(L + 1 + 1 + 1, ok), (L + 1 + 1, oc), (L + 1, ot)])
  (hok : ok.data = .cell none) (hoc : oc.data = .cell none) (hot : ot.data = .cell none)
  (hE : PassesOwn (model PW w) (callerA.deeper (envOfC (Str.ofString "law") lawS L a ccd)) (envOfC (Str.ofString "law") lawS L a ccd) E)
  (hret : ∀ h' tk m' N', Fr h₀ L h' m' → News h₀ L h' N' → Q (.ret (.bool true)) { s with heap := h', toks := tk }) :
  wpAny (model PW w) (callerA.deeper (envOfC (Str.ofString "law") lawS L a ccd)) (execs lawB (envOfC (Str.ofString "law") lawS L a ccd)) Q E s := by
  show wpAny _ (callerA.deeper (envOfC (Str.ofString "law") ⟨_, _, _, _, _⟩ L a ccd)) (execs [_, _, _, _, _, _, _, _, _, _, _, _, _] (envOfC (Str.ofString "law") ⟨_, _, _, _, _⟩ L a ccd)) _ _ _
  revert X
  unfold PW
  k_fill
  intro X
  k_steps
  rename_i D2 ws hx1 hIw hCw hLw l2 hx2 tx1 t2 u2 tx2 t1 u1 tx3 d1 t1' hdd hm1 tt uu tx4 D1 hx3 l1' hx4 hx5 hx6 hx7 o1 dd1 hx8 tx5 cA NA kA offA hdA hrA hx9 tx6 cB NB kB offB hdB hrB D0 hx10 l0 hx11 FF NN
  have l2a : L + 1 + 1 + 1 < D2 ∧ L + 1 + 1 < D2 ∧ L + 1 < D2 := l2.2.2
  refine cell_led (c := L + 1 + 1) (o := oc) FF NN (.tail _ (List.mem_append_right _ (List.mem_append_right _ (.tail _ (.tail _ (.tail _ (.tail _ (.tail _ (.head _)))))))))
    hoc ((D2, listOf ws.toArray 0) :: (L + 1 + 1 + 1, ok) :: (L + 1, o1) :: (NB ++ NA)) ?hR rfl ?go
  case hR =>
    intro p hp
    rcases List.mem_cons.mp hp with e | hp
    · rw [e]; exact ⟨.tail _ (List.mem_append_right _ (List.mem_append_right _ (.tail _ (.head _)))), Nat.ne_of_gt l2a.2.1⟩
    rcases List.mem_cons.mp hp with e | hp
    · rw [e]; exact ⟨.tail _ (List.mem_append_right _ (List.mem_append_right _ (.tail _ (.tail _ (.tail _ (.tail _ (.head _))))))), Nat.ne_of_gt (Nat.lt_succ_self _)⟩
    rcases List.mem_cons.mp hp with e | hp
    · rw [e]; exact ⟨.tail _ (List.mem_append_right _ (List.mem_append_right _ (.tail _ (.tail _ (.tail _ (.tail _ (.tail _ (.tail _ (.head _))))))))), Nat.ne_of_lt (Nat.lt_succ_self _)⟩
    · exact ⟨.tail _ (in_two hp), off_two offB offA (.tail _ (.tail _ (.tail _ (.tail _ (.tail _ (.head _)))))) p hp⟩
  intro hh4 oc4 FF4 NN4 dd4
  k_steps
  refine cell_led (c := L + 1 + 1 + 1) (o := ok) FF4 NN4 (.tail _ (.tail _ (.head _)))
    hok ((L + 1 + 1, oc4) :: (D2, listOf ws.toArray 0) :: (L + 1, o1) :: (NB ++ NA)) ?hR2 rfl ?go2
  case hR2 =>
    intro p hp
    rcases List.mem_cons.mp hp with e | hp
    · rw [e]; exact ⟨.head _, Nat.ne_of_lt (Nat.lt_succ_self _)⟩
    rcases List.mem_cons.mp hp with e | hp
    · rw [e]; exact ⟨.tail _ (.head _), Nat.ne_of_gt l2a.1⟩
    rcases List.mem_cons.mp hp with e | hp
    · rw [e]; exact ⟨.tail _ (.tail _ (.tail _ (.head _))), Nat.ne_of_lt (Nat.lt_succ_of_lt (Nat.lt_succ_self _))⟩
    · exact ⟨.tail _ (.tail _ (.tail _ (.tail _ hp))), off_two offB offA (.tail _ (.tail _ (.tail _ (.tail _ (.head _))))) p hp⟩
  intro hh5 ok5 FF5 NN5 dd5
  walk1
  have upA : ∀ p ∈ NA, p ∈ (L + 1 + 1 + 1, ok5) :: (L + 1 + 1, oc4) :: (D2, listOf ws.toArray 0) :: (L + 1, o1) :: (NB ++ NA) := fun p hp => .tail _ (.tail _ (.tail _ (.tail _ (List.mem_append_right _ hp))))
  have upB : ∀ p ∈ NB, p ∈ (L + 1 + 1 + 1, ok5) :: (L + 1 + 1, oc4) :: (D2, listOf ws.toArray 0) :: (L + 1, o1) :: (NB ++ NA) := fun p hp => .tail _ (.tail _ (.tail _ (.tail _ (List.mem_append_left _ hp))))
  have g6 : 6 ≤ (List.take 9 (xs ++ [9, 8, 39, 23, 0, 10])).length := by simp only [List.length_take, List.length_append, List.length_cons, List.length_nil]; omega
  have g9 : (List.take 9 (xs ++ [9, 8, 39, 23, 0, 10])).length ≤ 9 := by simp only [List.length_take]; omega
  have hkl : kA.length ≤ 100 := by
    have q1 := hrA.length
    have q2 := cfgOf_len (List.take 9 (xs ++ [9, 8, 39, 23, 0, 10]))
    omega
  show wpAny _ (callerA.deeper (envOfC (Str.ofString "law") lawS L a ccd)) (execs (lawB.drop 3) (envOfC (Str.ofString "law") lawS L a ccd)) _ _ _
  exact law_rest B X T NN5 (.head _) dd5 (.tail _ (.head _)) dd4 (.tail _ (.tail _ (.tail _ (.head _)))) dd1 (by split <;> omega) (.tail _ (.tail _ (.head _))) hIw g6 g9 hm1 (hdA.mono upA) (hdB.mono upB) (hrA.mono upA) (hrB.mono upB) hkl hE FF5 fun h9 k9 m9 N9 F9 H9 => hret _ _ _ _ F9 H9
end Mine
theorem PySem.Challenge.cw_fe0331_01_holds : PySem.Challenge.rw_fe0331_01.Holds := by
  exact Mine.hd (by
    w_top off
    k_go0
    rename_i lsA vsA w3 hLst ra w1 r0 hIn hrr hc1 hc2 K0 hD hp1 tkk FF oK oC oT lK lC lT NN XX
    refine Mine.law_body (vs := vsA) (ls := lsA) (ok := oK) (oc := oC) (ot := oT) K0 (by assumption) (by assumption) hLst hIn hc1 ?f1 NN ?c1 ?c2 ?c3 ?e1 ?r1
    case f1 => with_unfolding_all exact FF
    case c1 => with_unfolding_all exact lK
    case c2 => with_unfolding_all exact lC
    case c3 => with_unfolding_all exact lT
    case e1 => passes_own
    case r1 =>
      intro h' tk m' N' F' H'
      k_steps)
